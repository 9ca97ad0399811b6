import PyProof.Rows.All
import Wide.All
import OpenK.AllK
import Wide.FinOn
import PySem.Sre
import Lean
import PySem.Challenge.RW_st0020_01
set_option compiler.extract_closed false
set_option rowWalk.seconds 0
section
open PySem PySem.W PyProof.Rows
set_option Elab.async false
set_option maxRecDepth 100000
set_option maxHeartbeats 8000000
namespace Mine
/-- the text without its __name__ rows -/
def vw : Program := { PySem.Challenge.rw_st0020_01.row.prog with main := { PySem.Challenge.rw_st0020_01.row.prog.main with body := (((PySem.Challenge.rw_st0020_01.row.prog.main.body.eraseIdx 68).eraseIdx 61).eraseIdx 56).eraseIdx 1 } }
/-- the law's row is well said: each part a small run of its own -/
theorem well_said : PySem.Challenge.rw_st0020_01.wellSaid = true := by
  unfold OpenLaw.wellSaid OpenRow.wellSaid OpenRow.partSaid looksOpen
  repeat' (with_reducible refine look_both ?_ ?_)
  all_goals decide +kernel
local macro_rules | `(tactic| o_law) => `(tactic| refine holds_law Mine.well_said fun said => ?_)
local macro_rules | `(tactic| o_head $H) => `(tactic| refine' (fun (a : RowW.promised (OpenRow.toRowW PySem.Challenge.rw_st0020_01.row)) (c : OpenRow.Holds PySem.Challenge.rw_st0020_01.row ∧ ∀ w h, Hook.says $H w h → True) => c.1) ?hw ?hc)
open_top hk for PySem.Challenge.rw_st0020_01
end Mine
end
section
open PySem PySem.W PyProof.Rows
set_option Elab.async false
set_option maxRecDepth 100000
set_option maxHeartbeats 8000000
namespace Mine
def addrs : List Addr := [2, 3, 32, 35, 37, 38, 40, 41, 42, 44, 45, 47, 48, 49, 51, 52, 54, 55, 59, 60, 64, 65, 66, 68, 69, 71, 72, 73, 75, 76, 78, 79, 80, 82, 83, 85, 86, 87, 89, 90, 92, 93, 94, 96, 97, 99, 100, 101, 103, 104, 106, 107, 108, 110, 111, 113, 114, 115, 117, 118, 120, 121, 122, 124, 125, 127, 128, 129, 131, 132, 134, 135, 136, 138, 139, 141, 142, 143, 145, 146, 148, 149, 150, 152, 153, 155, 156, 157, 159, 160, 162, 163, 164, 166, 167, 169, 170, 171, 173, 174, 176, 177, 178, 180, 181, 183, 184]
theorem addrs_eq : ∀ P, addrs = (Mine.hk.heap_1 P).map (·.1) := fun P => by kernel_rfl
/-- the bare form of a function of the head's list -/
noncomputable def topStub (P : Params) (a : Nat) : Obj :=
  match (Mine.hk.heap_1 P).lookup a with
  | some ⟨_, _, .func f, _⟩ => { cls := .none, data := .func { f with globals := 0, closure := [], defaults := .none, kwdefaults := .none, doc := .none, pyModule := .none, annotations := .none, code := .none, closureTuple := .none, builtins := 0 } }
  | _ => { cls := .none, data := .plain }
/-- the objects that the head's own list leaves out -/
noncomputable def topRest (P : Params) : Frag :=
  [(0, { cls := .type "dict", data := .dict #[{ hash := PyData.keyHash P (Str.ofString "__name__"), key := .str (Str.ofString "__name__") 1, val := .str (Str.ofString "builtins") 160 }, { hash := PyData.keyHash P (Str.ofString "__doc__"), key := .str (Str.ofString "__doc__") 2, val := .builtin "builtins.__doc__:str#opaque" }, { hash := PyData.keyHash P (Str.ofString "__package__"), key := .str (Str.ofString "__package__") 3, val := .builtin "builtins.__package__:str#opaque" }, { hash := PyData.keyHash P (Str.ofString "__loader__"), key := .str (Str.ofString "__loader__") 4, val := .builtin "builtins.__loader__:shared#opaque" }, { hash := PyData.keyHash P (Str.ofString "__spec__"), key := .str (Str.ofString "__spec__") 5, val := .builtin "builtins.__spec__#opaque" }, { hash := PyData.keyHash P (Str.ofString "__build_class__"), key := .str (Str.ofString "__build_class__") 6, val := .builtin "__build_class__" }, { hash := PyData.keyHash P (Str.ofString "__import__"), key := .str (Str.ofString "__import__") 7, val := .builtin "__import__" }, { hash := PyData.keyHash P (Str.ofString "abs"), key := .str (Str.ofString "abs") 8, val := .builtin "abs" }, { hash := PyData.keyHash P (Str.ofString "all"), key := .str (Str.ofString "all") 9, val := .builtin "all" }, { hash := PyData.keyHash P (Str.ofString "any"), key := .str (Str.ofString "any") 10, val := .builtin "any" }, { hash := PyData.keyHash P (Str.ofString "ascii"), key := .str (Str.ofString "ascii") 11, val := .builtin "ascii" }, { hash := PyData.keyHash P (Str.ofString "bin"), key := .str (Str.ofString "bin") 12, val := .builtin "bin" }, { hash := PyData.keyHash P (Str.ofString "breakpoint"), key := .str (Str.ofString "breakpoint") 13, val := .builtin "breakpoint" }, { hash := PyData.keyHash P (Str.ofString "callable"), key := .str (Str.ofString "callable") 14, val := .builtin "callable" }, { hash := PyData.keyHash P (Str.ofString "chr"), key := .str (Str.ofString "chr") 15, val := .builtin "chr" }, { hash := PyData.keyHash P (Str.ofString "compile"), key := .str (Str.ofString "compile") 16, val := .builtin "compile" }, { hash := PyData.keyHash P (Str.ofString "delattr"), key := .str (Str.ofString "delattr") 17, val := .builtin "delattr" }, { hash := PyData.keyHash P (Str.ofString "dir"), key := .str (Str.ofString "dir") 18, val := .builtin "dir" }, { hash := PyData.keyHash P (Str.ofString "divmod"), key := .str (Str.ofString "divmod") 19, val := .builtin "divmod" }, { hash := PyData.keyHash P (Str.ofString "eval"), key := .str (Str.ofString "eval") 20, val := .builtin "eval" }, { hash := PyData.keyHash P (Str.ofString "exec"), key := .str (Str.ofString "exec") 21, val := .builtin "exec" }, { hash := PyData.keyHash P (Str.ofString "format"), key := .str (Str.ofString "format") 22, val := .builtin "format" }, { hash := PyData.keyHash P (Str.ofString "getattr"), key := .str (Str.ofString "getattr") 23, val := .builtin "getattr" }, { hash := PyData.keyHash P (Str.ofString "globals"), key := .str (Str.ofString "globals") 24, val := .builtin "globals" }, { hash := PyData.keyHash P (Str.ofString "hasattr"), key := .str (Str.ofString "hasattr") 25, val := .builtin "hasattr" }, { hash := PyData.keyHash P (Str.ofString "hash"), key := .str (Str.ofString "hash") 26, val := .builtin "hash" }, { hash := PyData.keyHash P (Str.ofString "hex"), key := .str (Str.ofString "hex") 27, val := .builtin "hex" }, { hash := PyData.keyHash P (Str.ofString "id"), key := .str (Str.ofString "id") 28, val := .builtin "id" }, { hash := PyData.keyHash P (Str.ofString "input"), key := .str (Str.ofString "input") 29, val := .builtin "input" }, { hash := PyData.keyHash P (Str.ofString "isinstance"), key := .str (Str.ofString "isinstance") 30, val := .builtin "isinstance" }, { hash := PyData.keyHash P (Str.ofString "issubclass"), key := .str (Str.ofString "issubclass") 31, val := .builtin "issubclass" }, { hash := PyData.keyHash P (Str.ofString "iter"), key := .str (Str.ofString "iter") 32, val := .builtin "iter" }, { hash := PyData.keyHash P (Str.ofString "aiter"), key := .str (Str.ofString "aiter") 33, val := .builtin "aiter" }, { hash := PyData.keyHash P (Str.ofString "len"), key := .str (Str.ofString "len") 34, val := .builtin "len" }, { hash := PyData.keyHash P (Str.ofString "locals"), key := .str (Str.ofString "locals") 35, val := .builtin "locals" }, { hash := PyData.keyHash P (Str.ofString "max"), key := .str (Str.ofString "max") 36, val := .builtin "max" }, { hash := PyData.keyHash P (Str.ofString "min"), key := .str (Str.ofString "min") 37, val := .builtin "min" }, { hash := PyData.keyHash P (Str.ofString "next"), key := .str (Str.ofString "next") 38, val := .builtin "next" }, { hash := PyData.keyHash P (Str.ofString "anext"), key := .str (Str.ofString "anext") 39, val := .builtin "anext" }, { hash := PyData.keyHash P (Str.ofString "oct"), key := .str (Str.ofString "oct") 40, val := .builtin "oct" }, { hash := PyData.keyHash P (Str.ofString "ord"), key := .str (Str.ofString "ord") 41, val := .builtin "ord" }, { hash := PyData.keyHash P (Str.ofString "pow"), key := .str (Str.ofString "pow") 42, val := .builtin "pow" }, { hash := PyData.keyHash P (Str.ofString "print"), key := .str (Str.ofString "print") 43, val := .builtin "print" }, { hash := PyData.keyHash P (Str.ofString "repr"), key := .str (Str.ofString "repr") 44, val := .builtin "repr" }, { hash := PyData.keyHash P (Str.ofString "round"), key := .str (Str.ofString "round") 45, val := .builtin "round" }, { hash := PyData.keyHash P (Str.ofString "setattr"), key := .str (Str.ofString "setattr") 46, val := .builtin "setattr" }, { hash := PyData.keyHash P (Str.ofString "sorted"), key := .str (Str.ofString "sorted") 47, val := .builtin "sorted" }, { hash := PyData.keyHash P (Str.ofString "sum"), key := .str (Str.ofString "sum") 48, val := .builtin "sum" }, { hash := PyData.keyHash P (Str.ofString "vars"), key := .str (Str.ofString "vars") 49, val := .builtin "vars" }, { hash := PyData.keyHash P (Str.ofString "None"), key := .str (Str.ofString "None") 50, val := .none }, { hash := PyData.keyHash P (Str.ofString "Ellipsis"), key := .str (Str.ofString "Ellipsis") 51, val := .ellipsis }, { hash := PyData.keyHash P (Str.ofString "NotImplemented"), key := .str (Str.ofString "NotImplemented") 52, val := .notImplemented }, { hash := PyData.keyHash P (Str.ofString "False"), key := .str (Str.ofString "False") 53, val := .bool Bool.false }, { hash := PyData.keyHash P (Str.ofString "True"), key := .str (Str.ofString "True") 54, val := .bool Bool.true }, { hash := PyData.keyHash P (Str.ofString "bool"), key := .str (Str.ofString "bool") 55, val := .type "bool" }, { hash := PyData.keyHash P (Str.ofString "memoryview"), key := .str (Str.ofString "memoryview") 56, val := .type "memoryview" }, { hash := PyData.keyHash P (Str.ofString "bytearray"), key := .str (Str.ofString "bytearray") 57, val := .type "bytearray" }, { hash := PyData.keyHash P (Str.ofString "bytes"), key := .str (Str.ofString "bytes") 58, val := .type "bytes" }, { hash := PyData.keyHash P (Str.ofString "classmethod"), key := .str (Str.ofString "classmethod") 59, val := .type "classmethod" }, { hash := PyData.keyHash P (Str.ofString "complex"), key := .str (Str.ofString "complex") 60, val := .type "complex" }, { hash := PyData.keyHash P (Str.ofString "dict"), key := .str (Str.ofString "dict") 61, val := .type "dict" }, { hash := PyData.keyHash P (Str.ofString "enumerate"), key := .str (Str.ofString "enumerate") 62, val := .type "enumerate" }, { hash := PyData.keyHash P (Str.ofString "filter"), key := .str (Str.ofString "filter") 63, val := .type "filter" }, { hash := PyData.keyHash P (Str.ofString "float"), key := .str (Str.ofString "float") 64, val := .type "float" }, { hash := PyData.keyHash P (Str.ofString "frozenset"), key := .str (Str.ofString "frozenset") 65, val := .type "frozenset" }, { hash := PyData.keyHash P (Str.ofString "property"), key := .str (Str.ofString "property") 66, val := .type "property" }, { hash := PyData.keyHash P (Str.ofString "int"), key := .str (Str.ofString "int") 67, val := .type "int" }, { hash := PyData.keyHash P (Str.ofString "list"), key := .str (Str.ofString "list") 68, val := .type "list" }, { hash := PyData.keyHash P (Str.ofString "map"), key := .str (Str.ofString "map") 69, val := .type "map" }, { hash := PyData.keyHash P (Str.ofString "object"), key := .str (Str.ofString "object") 70, val := .type "object" }, { hash := PyData.keyHash P (Str.ofString "range"), key := .str (Str.ofString "range") 71, val := .type "range" }, { hash := PyData.keyHash P (Str.ofString "reversed"), key := .str (Str.ofString "reversed") 72, val := .type "reversed" }, { hash := PyData.keyHash P (Str.ofString "set"), key := .str (Str.ofString "set") 73, val := .type "set" }, { hash := PyData.keyHash P (Str.ofString "slice"), key := .str (Str.ofString "slice") 74, val := .type "slice" }, { hash := PyData.keyHash P (Str.ofString "staticmethod"), key := .str (Str.ofString "staticmethod") 75, val := .type "staticmethod" }, { hash := PyData.keyHash P (Str.ofString "str"), key := .str (Str.ofString "str") 76, val := .type "str" }, { hash := PyData.keyHash P (Str.ofString "super"), key := .str (Str.ofString "super") 77, val := .type "super" }, { hash := PyData.keyHash P (Str.ofString "tuple"), key := .str (Str.ofString "tuple") 78, val := .type "tuple" }, { hash := PyData.keyHash P (Str.ofString "type"), key := .str (Str.ofString "type") 79, val := .type "type" }, { hash := PyData.keyHash P (Str.ofString "zip"), key := .str (Str.ofString "zip") 80, val := .type "zip" }, { hash := PyData.keyHash P (Str.ofString "__debug__"), key := .str (Str.ofString "__debug__") 81, val := .bool Bool.true }, { hash := PyData.keyHash P (Str.ofString "BaseException"), key := .str (Str.ofString "BaseException") 82, val := .type "BaseException" }, { hash := PyData.keyHash P (Str.ofString "BaseExceptionGroup"), key := .str (Str.ofString "BaseExceptionGroup") 83, val := .type "BaseExceptionGroup" }, { hash := PyData.keyHash P (Str.ofString "Exception"), key := .str (Str.ofString "Exception") 84, val := .type "Exception" }, { hash := PyData.keyHash P (Str.ofString "GeneratorExit"), key := .str (Str.ofString "GeneratorExit") 85, val := .type "GeneratorExit" }, { hash := PyData.keyHash P (Str.ofString "KeyboardInterrupt"), key := .str (Str.ofString "KeyboardInterrupt") 86, val := .type "KeyboardInterrupt" }, { hash := PyData.keyHash P (Str.ofString "SystemExit"), key := .str (Str.ofString "SystemExit") 87, val := .type "SystemExit" }, { hash := PyData.keyHash P (Str.ofString "ArithmeticError"), key := .str (Str.ofString "ArithmeticError") 88, val := .type "ArithmeticError" }, { hash := PyData.keyHash P (Str.ofString "AssertionError"), key := .str (Str.ofString "AssertionError") 89, val := .type "AssertionError" }, { hash := PyData.keyHash P (Str.ofString "AttributeError"), key := .str (Str.ofString "AttributeError") 90, val := .type "AttributeError" }, { hash := PyData.keyHash P (Str.ofString "BufferError"), key := .str (Str.ofString "BufferError") 91, val := .type "BufferError" }, { hash := PyData.keyHash P (Str.ofString "EOFError"), key := .str (Str.ofString "EOFError") 92, val := .type "EOFError" }, { hash := PyData.keyHash P (Str.ofString "ImportError"), key := .str (Str.ofString "ImportError") 93, val := .type "ImportError" }, { hash := PyData.keyHash P (Str.ofString "LookupError"), key := .str (Str.ofString "LookupError") 94, val := .type "LookupError" }, { hash := PyData.keyHash P (Str.ofString "MemoryError"), key := .str (Str.ofString "MemoryError") 95, val := .type "MemoryError" }, { hash := PyData.keyHash P (Str.ofString "NameError"), key := .str (Str.ofString "NameError") 96, val := .type "NameError" }, { hash := PyData.keyHash P (Str.ofString "OSError"), key := .str (Str.ofString "OSError") 97, val := .type "OSError" }, { hash := PyData.keyHash P (Str.ofString "ReferenceError"), key := .str (Str.ofString "ReferenceError") 98, val := .type "ReferenceError" }, { hash := PyData.keyHash P (Str.ofString "RuntimeError"), key := .str (Str.ofString "RuntimeError") 99, val := .type "RuntimeError" }, { hash := PyData.keyHash P (Str.ofString "StopAsyncIteration"), key := .str (Str.ofString "StopAsyncIteration") 100, val := .type "StopAsyncIteration" }, { hash := PyData.keyHash P (Str.ofString "StopIteration"), key := .str (Str.ofString "StopIteration") 101, val := .type "StopIteration" }, { hash := PyData.keyHash P (Str.ofString "SyntaxError"), key := .str (Str.ofString "SyntaxError") 102, val := .type "SyntaxError" }, { hash := PyData.keyHash P (Str.ofString "SystemError"), key := .str (Str.ofString "SystemError") 103, val := .type "SystemError" }, { hash := PyData.keyHash P (Str.ofString "TypeError"), key := .str (Str.ofString "TypeError") 104, val := .type "TypeError" }, { hash := PyData.keyHash P (Str.ofString "ValueError"), key := .str (Str.ofString "ValueError") 105, val := .type "ValueError" }, { hash := PyData.keyHash P (Str.ofString "Warning"), key := .str (Str.ofString "Warning") 106, val := .type "Warning" }, { hash := PyData.keyHash P (Str.ofString "FloatingPointError"), key := .str (Str.ofString "FloatingPointError") 107, val := .type "FloatingPointError" }, { hash := PyData.keyHash P (Str.ofString "OverflowError"), key := .str (Str.ofString "OverflowError") 108, val := .type "OverflowError" }, { hash := PyData.keyHash P (Str.ofString "ZeroDivisionError"), key := .str (Str.ofString "ZeroDivisionError") 109, val := .type "ZeroDivisionError" }, { hash := PyData.keyHash P (Str.ofString "BytesWarning"), key := .str (Str.ofString "BytesWarning") 110, val := .type "BytesWarning" }, { hash := PyData.keyHash P (Str.ofString "DeprecationWarning"), key := .str (Str.ofString "DeprecationWarning") 111, val := .type "DeprecationWarning" }, { hash := PyData.keyHash P (Str.ofString "EncodingWarning"), key := .str (Str.ofString "EncodingWarning") 112, val := .type "EncodingWarning" }, { hash := PyData.keyHash P (Str.ofString "FutureWarning"), key := .str (Str.ofString "FutureWarning") 113, val := .type "FutureWarning" }, { hash := PyData.keyHash P (Str.ofString "ImportWarning"), key := .str (Str.ofString "ImportWarning") 114, val := .type "ImportWarning" }, { hash := PyData.keyHash P (Str.ofString "PendingDeprecationWarning"), key := .str (Str.ofString "PendingDeprecationWarning") 115, val := .type "PendingDeprecationWarning" }, { hash := PyData.keyHash P (Str.ofString "ResourceWarning"), key := .str (Str.ofString "ResourceWarning") 116, val := .type "ResourceWarning" }, { hash := PyData.keyHash P (Str.ofString "RuntimeWarning"), key := .str (Str.ofString "RuntimeWarning") 117, val := .type "RuntimeWarning" }, { hash := PyData.keyHash P (Str.ofString "SyntaxWarning"), key := .str (Str.ofString "SyntaxWarning") 118, val := .type "SyntaxWarning" }, { hash := PyData.keyHash P (Str.ofString "UnicodeWarning"), key := .str (Str.ofString "UnicodeWarning") 119, val := .type "UnicodeWarning" }, { hash := PyData.keyHash P (Str.ofString "UserWarning"), key := .str (Str.ofString "UserWarning") 120, val := .type "UserWarning" }, { hash := PyData.keyHash P (Str.ofString "BlockingIOError"), key := .str (Str.ofString "BlockingIOError") 121, val := .type "BlockingIOError" }, { hash := PyData.keyHash P (Str.ofString "ChildProcessError"), key := .str (Str.ofString "ChildProcessError") 122, val := .type "ChildProcessError" }, { hash := PyData.keyHash P (Str.ofString "ConnectionError"), key := .str (Str.ofString "ConnectionError") 123, val := .type "ConnectionError" }, { hash := PyData.keyHash P (Str.ofString "FileExistsError"), key := .str (Str.ofString "FileExistsError") 124, val := .type "FileExistsError" }, { hash := PyData.keyHash P (Str.ofString "FileNotFoundError"), key := .str (Str.ofString "FileNotFoundError") 125, val := .type "FileNotFoundError" }, { hash := PyData.keyHash P (Str.ofString "InterruptedError"), key := .str (Str.ofString "InterruptedError") 126, val := .type "InterruptedError" }, { hash := PyData.keyHash P (Str.ofString "IsADirectoryError"), key := .str (Str.ofString "IsADirectoryError") 127, val := .type "IsADirectoryError" }, { hash := PyData.keyHash P (Str.ofString "NotADirectoryError"), key := .str (Str.ofString "NotADirectoryError") 128, val := .type "NotADirectoryError" }, { hash := PyData.keyHash P (Str.ofString "PermissionError"), key := .str (Str.ofString "PermissionError") 129, val := .type "PermissionError" }, { hash := PyData.keyHash P (Str.ofString "ProcessLookupError"), key := .str (Str.ofString "ProcessLookupError") 130, val := .type "ProcessLookupError" }, { hash := PyData.keyHash P (Str.ofString "TimeoutError"), key := .str (Str.ofString "TimeoutError") 131, val := .type "TimeoutError" }, { hash := PyData.keyHash P (Str.ofString "IndentationError"), key := .str (Str.ofString "IndentationError") 132, val := .type "IndentationError" }, { hash := PyData.keyHash P (Str.ofString "_IncompleteInputError"), key := .str (Str.ofString "_IncompleteInputError") 133, val := .type "_IncompleteInputError" }, { hash := PyData.keyHash P (Str.ofString "IndexError"), key := .str (Str.ofString "IndexError") 134, val := .type "IndexError" }, { hash := PyData.keyHash P (Str.ofString "KeyError"), key := .str (Str.ofString "KeyError") 135, val := .type "KeyError" }, { hash := PyData.keyHash P (Str.ofString "ModuleNotFoundError"), key := .str (Str.ofString "ModuleNotFoundError") 136, val := .type "ModuleNotFoundError" }, { hash := PyData.keyHash P (Str.ofString "NotImplementedError"), key := .str (Str.ofString "NotImplementedError") 137, val := .type "NotImplementedError" }, { hash := PyData.keyHash P (Str.ofString "PythonFinalizationError"), key := .str (Str.ofString "PythonFinalizationError") 138, val := .type "PythonFinalizationError" }, { hash := PyData.keyHash P (Str.ofString "RecursionError"), key := .str (Str.ofString "RecursionError") 139, val := .type "RecursionError" }, { hash := PyData.keyHash P (Str.ofString "UnboundLocalError"), key := .str (Str.ofString "UnboundLocalError") 140, val := .type "UnboundLocalError" }, { hash := PyData.keyHash P (Str.ofString "UnicodeError"), key := .str (Str.ofString "UnicodeError") 141, val := .type "UnicodeError" }, { hash := PyData.keyHash P (Str.ofString "BrokenPipeError"), key := .str (Str.ofString "BrokenPipeError") 142, val := .type "BrokenPipeError" }, { hash := PyData.keyHash P (Str.ofString "ConnectionAbortedError"), key := .str (Str.ofString "ConnectionAbortedError") 143, val := .type "ConnectionAbortedError" }, { hash := PyData.keyHash P (Str.ofString "ConnectionRefusedError"), key := .str (Str.ofString "ConnectionRefusedError") 144, val := .type "ConnectionRefusedError" }, { hash := PyData.keyHash P (Str.ofString "ConnectionResetError"), key := .str (Str.ofString "ConnectionResetError") 145, val := .type "ConnectionResetError" }, { hash := PyData.keyHash P (Str.ofString "TabError"), key := .str (Str.ofString "TabError") 146, val := .type "TabError" }, { hash := PyData.keyHash P (Str.ofString "UnicodeDecodeError"), key := .str (Str.ofString "UnicodeDecodeError") 147, val := .type "UnicodeDecodeError" }, { hash := PyData.keyHash P (Str.ofString "UnicodeEncodeError"), key := .str (Str.ofString "UnicodeEncodeError") 148, val := .type "UnicodeEncodeError" }, { hash := PyData.keyHash P (Str.ofString "UnicodeTranslateError"), key := .str (Str.ofString "UnicodeTranslateError") 149, val := .type "UnicodeTranslateError" }, { hash := PyData.keyHash P (Str.ofString "ExceptionGroup"), key := .str (Str.ofString "ExceptionGroup") 150, val := .type "ExceptionGroup" }, { hash := PyData.keyHash P (Str.ofString "EnvironmentError"), key := .str (Str.ofString "EnvironmentError") 151, val := .type "OSError" }, { hash := PyData.keyHash P (Str.ofString "IOError"), key := .str (Str.ofString "IOError") 152, val := .type "OSError" }, { hash := PyData.keyHash P (Str.ofString "open"), key := .str (Str.ofString "open") 153, val := .builtin "open" }, { hash := PyData.keyHash P (Str.ofString "quit"), key := .str (Str.ofString "quit") 154, val := .builtin "builtins.quit#opaque" }, { hash := PyData.keyHash P (Str.ofString "exit"), key := .str (Str.ofString "exit") 155, val := .builtin "builtins.exit#opaque" }, { hash := PyData.keyHash P (Str.ofString "copyright"), key := .str (Str.ofString "copyright") 156, val := .builtin "builtins.copyright#opaque" }, { hash := PyData.keyHash P (Str.ofString "credits"), key := .str (Str.ofString "credits") 157, val := .builtin "builtins.credits#opaque" }, { hash := PyData.keyHash P (Str.ofString "license"), key := .str (Str.ofString "license") 158, val := .builtin "builtins.license#opaque" }, { hash := PyData.keyHash P (Str.ofString "help"), key := .str (Str.ofString "help") 159, val := .builtin "builtins.help#opaque" }] 159 }),
  (1, { cls := .type "dict", data := .dict #[{ hash := PyData.keyHash P (Str.ofString "builtins"), key := .str (Str.ofString "builtins") 162, val := .ref 4 }, { hash := PyData.keyHash P (Str.ofString "__main__"), key := .str (Str.ofString "__main__") 163, val := .ref 5 }, { hash := PyData.keyHash P (Str.ofString "_sre"), key := .str (Str.ofString "_sre") 244, val := .ref 12 }] 3 }),
  (4, { cls := .type "module", dict := Option.some 0 }),
  (5, { cls := .type "module", dict := Option.some 3 }),
  (6, { cls := .type "dict", data := .dict #[] }),
  (7, { cls := .type "tuple", data := .seq #[] }),
  (8, { cls := .none, data := .fields #[] }),
  (9, { cls := .type "code", data := .fields #[.str (Str.ofString "<module>") 176, .str (Str.ofString "<module>") 177, .str (Str.ofString "/claim/cut.py") 178, .int 1 0, .int 0 0, .int 0 0, .int 0 0, .int 0 0, .ref 7, .bool Bool.false, .int 175 0, .ref 8, .none, .none, .none, .none, .int 179 0, .int 1 0, .str (Str.ofString "/claim/cut.py") 180] }),
  (10, { cls := .type "frame", slots := #[Option.some (.ref 9), Option.some (.ref 3), Option.some (.ref 3), Option.none, Option.some (.str (Str.ofString "__main__") 164), Option.none, Option.some (.ref 0)] }),
  (11, { cls := .type "dict", data := .dict #[{ hash := PyData.keyHash P (Str.ofString "__name__"), key := .str (Str.ofString "__name__") 247, val := .str (Str.ofString "_sre") 246 }, { hash := PyData.keyHash P (Str.ofString "__doc__"), key := .str (Str.ofString "__doc__") 248, val := .none }, { hash := PyData.keyHash P (Str.ofString "__package__"), key := .str (Str.ofString "__package__") 250, val := .str (Str.ofString "") 249 }, { hash := PyData.keyHash P (Str.ofString "__loader__"), key := .str (Str.ofString "__loader__") 251, val := .builtin "off-the-table:_sre.__loader__:shared#opaque" }, { hash := PyData.keyHash P (Str.ofString "__spec__"), key := .str (Str.ofString "__spec__") 252, val := .builtin "off-the-table:_sre.__spec__:shared#opaque" }, { hash := PyData.keyHash P (Str.ofString "compile"), key := .str (Str.ofString "compile") 253, val := .builtin "_sre.compile" }, { hash := PyData.keyHash P (Str.ofString "template"), key := .str (Str.ofString "template") 254, val := .builtin "off-the-table:_sre.template:shared#opaque" }, { hash := PyData.keyHash P (Str.ofString "getcodesize"), key := .str (Str.ofString "getcodesize") 255, val := .builtin "off-the-table:_sre.getcodesize:shared#opaque" }, { hash := PyData.keyHash P (Str.ofString "ascii_iscased"), key := .str (Str.ofString "ascii_iscased") 256, val := .builtin "off-the-table:_sre.ascii_iscased:shared#opaque" }, { hash := PyData.keyHash P (Str.ofString "unicode_iscased"), key := .str (Str.ofString "unicode_iscased") 257, val := .builtin "off-the-table:_sre.unicode_iscased:shared#opaque" }, { hash := PyData.keyHash P (Str.ofString "ascii_tolower"), key := .str (Str.ofString "ascii_tolower") 258, val := .builtin "off-the-table:_sre.ascii_tolower:shared#opaque" }, { hash := PyData.keyHash P (Str.ofString "unicode_tolower"), key := .str (Str.ofString "unicode_tolower") 259, val := .builtin "off-the-table:_sre.unicode_tolower:shared#opaque" }, { hash := PyData.keyHash P (Str.ofString "MAGIC"), key := .str (Str.ofString "MAGIC") 261, val := .int 20230612 260 }, { hash := PyData.keyHash P (Str.ofString "CODESIZE"), key := .str (Str.ofString "CODESIZE") 263, val := .int 4 262 }, { hash := PyData.keyHash P (Str.ofString "MAXREPEAT"), key := .str (Str.ofString "MAXREPEAT") 265, val := .int 4294967295 264 }, { hash := PyData.keyHash P (Str.ofString "MAXGROUPS"), key := .str (Str.ofString "MAXGROUPS") 267, val := .int 1073741823 266 }, { hash := PyData.keyHash P (Str.ofString "copyright"), key := .str (Str.ofString "copyright") 269, val := .str (Str.ofString " SRE 2.2.2 Copyright (c) 1997-2002 by Secret Labs AB ") 268 }] 17 }),
  (12, { cls := .type "module", dict := Option.some 11 }),
  (13, { cls := .type "dict", data := .dict #[{ hash := PyData.keyHash P (Str.ofString "__module__"), key := .str (Str.ofString "__module__") 189, val := .str (Str.ofString "_frozen_importlib") 186 }, { hash := PyData.keyHash P (Str.ofString "__firstlineno__"), key := .str (Str.ofString "__firstlineno__") 190, val := .int 971 187 }, { hash := PyData.keyHash P (Str.ofString "__doc__"), key := .str (Str.ofString "__doc__") 191, val := .builtin "_frozen_importlib.BuiltinImporter.__doc__:str#opaque" }, { hash := PyData.keyHash P (Str.ofString "_ORIGIN"), key := .str (Str.ofString "_ORIGIN") 192, val := .str (Str.ofString "built-in") 188 }, { hash := PyData.keyHash P (Str.ofString "find_spec"), key := .str (Str.ofString "find_spec") 193, val := .builtin "_frozen_importlib.BuiltinImporter.find_spec#opaque" }, { hash := PyData.keyHash P (Str.ofString "create_module"), key := .str (Str.ofString "create_module") 194, val := .builtin "_frozen_importlib.BuiltinImporter.create_module#opaque" }, { hash := PyData.keyHash P (Str.ofString "exec_module"), key := .str (Str.ofString "exec_module") 195, val := .builtin "_frozen_importlib.BuiltinImporter.exec_module#opaque" }, { hash := PyData.keyHash P (Str.ofString "get_code"), key := .str (Str.ofString "get_code") 196, val := .builtin "_frozen_importlib.BuiltinImporter.get_code#opaque" }, { hash := PyData.keyHash P (Str.ofString "get_source"), key := .str (Str.ofString "get_source") 197, val := .builtin "_frozen_importlib.BuiltinImporter.get_source#opaque" }, { hash := PyData.keyHash P (Str.ofString "is_package"), key := .str (Str.ofString "is_package") 198, val := .builtin "_frozen_importlib.BuiltinImporter.is_package#opaque" }, { hash := PyData.keyHash P (Str.ofString "load_module"), key := .str (Str.ofString "load_module") 199, val := .builtin "_frozen_importlib.BuiltinImporter.load_module#opaque" }, { hash := PyData.keyHash P (Str.ofString "__static_attributes__"), key := .str (Str.ofString "__static_attributes__") 200, val := .ref 15 }, { hash := PyData.keyHash P (Str.ofString "__dict__"), key := .str (Str.ofString "__dict__") 202, val := .ref 16 }, { hash := PyData.keyHash P (Str.ofString "__weakref__"), key := .str (Str.ofString "__weakref__") 204, val := .ref 17 }] 14 }),
  (14, { cls := .type "type", data := .cls { name := Str.ofString "BuiltinImporter", bases := [.type "object"], mro := [.ref 14, .type "object"], ns := 13, qualname := Str.ofString "BuiltinImporter" } }),
  (15, { cls := .type "tuple", data := .seq #[] }),
  (16, { cls := .type "getset_descriptor", data := .fields #[.str (Str.ofString "__dict__") 201, .ref 14, .builtin "function.__dict__", .builtin "function.__dict__#set"] }),
  (17, { cls := .type "getset_descriptor", data := .fields #[.str (Str.ofString "__weakref__") 203, .ref 14, .builtin "ExceptionGroup.__weakref__", .none] }),
  (18, { cls := .none, data := .seq #[.int 13 0, .str ⟨#[6, 189, 10, 95, 95, 109, 111, 100, 117, 108, 101, 95, 95, 6, 186, 17, 95, 102, 114, 111, 122, 101, 110, 95, 105, 109, 112, 111, 114, 116, 108, 105, 98, 6, 190, 15, 95, 95, 102, 105, 114, 115, 116, 108, 105, 110, 101, 110, 111, 95, 95, 4, 187, 0, 971, 6, 191, 7, 95, 95, 100, 111, 99, 95, 95, 9, 52, 95, 102, 114, 111, 122, 101, 110, 95, 105, 109, 112, 111, 114, 116, 108, 105, 98, 46, 66, 117, 105, 108, 116, 105, 110, 73, 109, 112, 111, 114, 116, 101, 114, 46, 95, 95, 100, 111, 99, 95, 95, 58, 115, 116, 114, 35, 111, 112, 97, 113, 117, 101, 6, 192, 7, 95, 79, 82, 73, 71, 73, 78, 6, 188, 8, 98, 117, 105, 108, 116, 45, 105, 110, 6, 193, 9, 102, 105, 110, 100, 95, 115, 112, 101, 99, 9, 50, 95, 102, 114, 111, 122, 101, 110, 95, 105, 109, 112, 111, 114, 116, 108, 105, 98, 46, 66, 117, 105, 108, 116, 105, 110, 73, 109, 112, 111, 114, 116, 101, 114, 46, 102, 105, 110, 100, 95, 115, 112, 101, 99, 35, 111, 112, 97, 113, 117, 101, 6, 194, 13, 99, 114, 101, 97, 116, 101, 95, 109, 111, 100, 117, 108, 101, 9, 54, 95, 102, 114, 111, 122, 101, 110, 95, 105, 109, 112, 111, 114, 116, 108, 105, 98, 46, 66, 117, 105, 108, 116, 105, 110, 73, 109, 112, 111, 114, 116, 101, 114, 46, 99, 114, 101, 97, 116, 101, 95, 109, 111, 100, 117, 108, 101, 35, 111, 112, 97, 113, 117, 101, 6, 195, 11, 101, 120, 101, 99, 95, 109, 111, 100, 117, 108, 101, 9, 52, 95, 102, 114, 111, 122, 101, 110, 95, 105, 109, 112, 111, 114, 116, 108, 105, 98, 46, 66, 117, 105, 108, 116, 105, 110, 73, 109, 112, 111, 114, 116, 101, 114, 46, 101, 120, 101, 99, 95, 109, 111, 100, 117, 108, 101, 35, 111, 112, 97, 113, 117, 101, 6, 196, 8, 103, 101, 116, 95, 99, 111, 100, 101, 9, 49, 95, 102, 114, 111, 122, 101, 110, 95, 105, 109, 112, 111, 114, 116, 108, 105, 98, 46, 66, 117, 105, 108, 116, 105, 110, 73, 109, 112, 111, 114, 116, 101, 114, 46, 103, 101, 116, 95, 99, 111, 100, 101, 35, 111, 112, 97, 113, 117, 101, 6, 197, 10, 103, 101, 116, 95, 115, 111, 117, 114, 99, 101, 9, 51, 95, 102, 114, 111, 122, 101, 110, 95, 105, 109, 112, 111, 114, 116, 108, 105, 98, 46, 66, 117, 105, 108, 116, 105, 110, 73, 109, 112, 111, 114, 116, 101, 114, 46, 103, 101, 116, 95, 115, 111, 117, 114, 99, 101, 35, 111, 112, 97, 113, 117, 101, 6, 198, 10, 105, 115, 95, 112, 97, 99, 107, 97, 103, 101, 9, 51, 95, 102, 114, 111, 122, 101, 110, 95, 105, 109, 112, 111, 114, 116, 108, 105, 98, 46, 66, 117, 105, 108, 116, 105, 110, 73, 109, 112, 111, 114, 116, 101, 114, 46, 105, 115, 95, 112, 97, 99, 107, 97, 103, 101, 35, 111, 112, 97, 113, 117, 101, 6, 199, 11, 108, 111, 97, 100, 95, 109, 111, 100, 117, 108, 101, 9, 52, 95, 102, 114, 111, 122, 101, 110, 95, 105, 109, 112, 111, 114, 116, 108, 105, 98, 46, 66, 117, 105, 108, 116, 105, 110, 73, 109, 112, 111, 114, 116, 101, 114, 46, 108, 111, 97, 100, 95, 109, 111, 100, 117, 108, 101, 35, 111, 112, 97, 113, 117, 101, 6, 200, 21, 95, 95, 115, 116, 97, 116, 105, 99, 95, 97, 116, 116, 114, 105, 98, 117, 116, 101, 115, 95, 95, 4, 0, 0, 15, 6, 202, 8, 95, 95, 100, 105, 99, 116, 95, 95, 4, 0, 0, 16, 6, 204, 11, 95, 95, 119, 101, 97, 107, 114, 101, 102, 95, 95, 4, 0, 0, 17]⟩ 0, .bool Bool.true, .bool Bool.true, .str (Str.ofString "") 205, .int 21 0, .str ⟨#[6, 227, 10, 95, 95, 109, 111, 100, 117, 108, 101, 95, 95, 6, 217, 17, 95, 102, 114, 111, 122, 101, 110, 95, 105, 109, 112, 111, 114, 116, 108, 105, 98, 6, 228, 15, 95, 95, 102, 105, 114, 115, 116, 108, 105, 110, 101, 110, 111, 95, 95, 4, 218, 0, 562, 6, 229, 7, 95, 95, 100, 111, 99, 95, 95, 9, 47, 95, 102, 114, 111, 122, 101, 110, 95, 105, 109, 112, 111, 114, 116, 108, 105, 98, 46, 77, 111, 100, 117, 108, 101, 83, 112, 101, 99, 46, 95, 95, 100, 111, 99, 95, 95, 58, 115, 116, 114, 35, 111, 112, 97, 113, 117, 101, 6, 230, 8, 95, 95, 105, 110, 105, 116, 95, 95, 9, 44, 95, 102, 114, 111, 122, 101, 110, 95, 105, 109, 112, 111, 114, 116, 108, 105, 98, 46, 77, 111, 100, 117, 108, 101, 83, 112, 101, 99, 46, 95, 95, 105, 110, 105, 116, 95, 95, 35, 111, 112, 97, 113, 117, 101, 6, 231, 8, 95, 95, 114, 101, 112, 114, 95, 95, 9, 44, 95, 102, 114, 111, 122, 101, 110, 95, 105, 109, 112, 111, 114, 116, 108, 105, 98, 46, 77, 111, 100, 117, 108, 101, 83, 112, 101, 99, 46, 95, 95, 114, 101, 112, 114, 95, 95, 35, 111, 112, 97, 113, 117, 101, 6, 232, 6, 95, 95, 101, 113, 95, 95, 9, 42, 95, 102, 114, 111, 122, 101, 110, 95, 105, 109, 112, 111, 114, 116, 108, 105, 98, 46, 77, 111, 100, 117, 108, 101, 83, 112, 101, 99, 46, 95, 95, 101, 113, 95, 95, 35, 111, 112, 97, 113, 117, 101, 6, 233, 6, 99, 97, 99, 104, 101, 100, 9, 42, 95, 102, 114, 111, 122, 101, 110, 95, 105, 109, 112, 111, 114, 116, 108, 105, 98, 46, 77, 111, 100, 117, 108, 101, 83, 112, 101, 99, 46, 99, 97, 99, 104, 101, 100, 35, 111, 112, 97, 113, 117, 101, 6, 234, 6, 112, 97, 114, 101, 110, 116, 9, 42, 95, 102, 114, 111, 122, 101, 110, 95, 105, 109, 112, 111, 114, 116, 108, 105, 98, 46, 77, 111, 100, 117, 108, 101, 83, 112, 101, 99, 46, 112, 97, 114, 101, 110, 116, 35, 111, 112, 97, 113, 117, 101, 6, 235, 12, 104, 97, 115, 95, 108, 111, 99, 97, 116, 105, 111, 110, 9, 48, 95, 102, 114, 111, 122, 101, 110, 95, 105, 109, 112, 111, 114, 116, 108, 105, 98, 46, 77, 111, 100, 117, 108, 101, 83, 112, 101, 99, 46, 104, 97, 115, 95, 108, 111, 99, 97, 116, 105, 111, 110, 35, 111, 112, 97, 113, 117, 101, 6, 236, 21, 95, 95, 115, 116, 97, 116, 105, 99, 95, 97, 116, 116, 114, 105, 98, 117, 116, 101, 115, 95, 95, 4, 0, 0, 23, 6, 238, 8, 95, 95, 100, 105, 99, 116, 95, 95, 4, 0, 0, 24, 6, 240, 11, 95, 95, 119, 101, 97, 107, 114, 101, 102, 95, 95, 4, 0, 0, 25, 6, 241, 8, 95, 95, 104, 97, 115, 104, 95, 95, 0]⟩ 0, .bool Bool.true, .bool Bool.true, .str (Str.ofString "") 242] 1 }),
  (19, { cls := .type "list", data := .seq #[] }),
  (20, { cls := .type "dict", data := .dict #[{ hash := PyData.keyHash P (Str.ofString "name"), key := .str (Str.ofString "name") 208, val := .str (Str.ofString "_sre") 207 }, { hash := PyData.keyHash P (Str.ofString "loader"), key := .str (Str.ofString "loader") 209, val := .ref 14 }, { hash := PyData.keyHash P (Str.ofString "origin"), key := .str (Str.ofString "origin") 210, val := .str (Str.ofString "built-in") 184 }, { hash := PyData.keyHash P (Str.ofString "loader_state"), key := .str (Str.ofString "loader_state") 211, val := .none }, { hash := PyData.keyHash P (Str.ofString "submodule_search_locations"), key := .str (Str.ofString "submodule_search_locations") 212, val := .none }, { hash := PyData.keyHash P (Str.ofString "_uninitialized_submodules"), key := .str (Str.ofString "_uninitialized_submodules") 213, val := .ref 19 }, { hash := PyData.keyHash P (Str.ofString "_set_fileattr"), key := .str (Str.ofString "_set_fileattr") 214, val := .bool Bool.false }, { hash := PyData.keyHash P (Str.ofString "_cached"), key := .str (Str.ofString "_cached") 215, val := .none }, { hash := PyData.keyHash P (Str.ofString "_initializing"), key := .str (Str.ofString "_initializing") 243, val := .bool Bool.false }] 9 }),
  (21, { cls := .type "dict", data := .dict #[{ hash := PyData.keyHash P (Str.ofString "__module__"), key := .str (Str.ofString "__module__") 227, val := .str (Str.ofString "_frozen_importlib") 217 }, { hash := PyData.keyHash P (Str.ofString "__firstlineno__"), key := .str (Str.ofString "__firstlineno__") 228, val := .int 562 218 }, { hash := PyData.keyHash P (Str.ofString "__doc__"), key := .str (Str.ofString "__doc__") 229, val := .builtin "_frozen_importlib.ModuleSpec.__doc__:str#opaque" }, { hash := PyData.keyHash P (Str.ofString "__init__"), key := .str (Str.ofString "__init__") 230, val := .builtin "_frozen_importlib.ModuleSpec.__init__#opaque" }, { hash := PyData.keyHash P (Str.ofString "__repr__"), key := .str (Str.ofString "__repr__") 231, val := .builtin "_frozen_importlib.ModuleSpec.__repr__#opaque" }, { hash := PyData.keyHash P (Str.ofString "__eq__"), key := .str (Str.ofString "__eq__") 232, val := .builtin "_frozen_importlib.ModuleSpec.__eq__#opaque" }, { hash := PyData.keyHash P (Str.ofString "cached"), key := .str (Str.ofString "cached") 233, val := .builtin "_frozen_importlib.ModuleSpec.cached#opaque" }, { hash := PyData.keyHash P (Str.ofString "parent"), key := .str (Str.ofString "parent") 234, val := .builtin "_frozen_importlib.ModuleSpec.parent#opaque" }, { hash := PyData.keyHash P (Str.ofString "has_location"), key := .str (Str.ofString "has_location") 235, val := .builtin "_frozen_importlib.ModuleSpec.has_location#opaque" }, { hash := PyData.keyHash P (Str.ofString "__static_attributes__"), key := .str (Str.ofString "__static_attributes__") 236, val := .ref 23 }, { hash := PyData.keyHash P (Str.ofString "__dict__"), key := .str (Str.ofString "__dict__") 238, val := .ref 24 }, { hash := PyData.keyHash P (Str.ofString "__weakref__"), key := .str (Str.ofString "__weakref__") 240, val := .ref 25 }, { hash := PyData.keyHash P (Str.ofString "__hash__"), key := .str (Str.ofString "__hash__") 241, val := .none }] 13 }),
  (22, { cls := .type "type", data := .cls { name := Str.ofString "ModuleSpec", bases := [.type "object"], mro := [.ref 22, .type "object"], ns := 21, qualname := Str.ofString "ModuleSpec" } }),
  (23, { cls := .type "tuple", data := .seq #[.str (Str.ofString "_cached") 219, .str (Str.ofString "_set_fileattr") 220, .str (Str.ofString "_uninitialized_submodules") 221, .str (Str.ofString "loader") 222, .str (Str.ofString "loader_state") 223, .str (Str.ofString "name") 224, .str (Str.ofString "origin") 225, .str (Str.ofString "submodule_search_locations") 226] }),
  (24, { cls := .type "getset_descriptor", data := .fields #[.str (Str.ofString "__dict__") 237, .ref 22, .builtin "function.__dict__", .builtin "function.__dict__#set"] }),
  (25, { cls := .type "getset_descriptor", data := .fields #[.str (Str.ofString "__weakref__") 239, .ref 22, .builtin "ExceptionGroup.__weakref__", .none] }),
  (26, { cls := .ref 22, dict := Option.some 20 }),
  (27, { cls := .none, data := .seq #[.int 11 0, .str { cps := #[6, 247, 8, 95, 95, 110, 97, 109, 101, 95, 95, 6, 246, 4, 95, 115, 114, 101, 6, 248, 7, 95, 95, 100, 111, 99, 95, 95, 0, 6, 250, 11, 95, 95, 112, 97, 99, 107, 97, 103, 101, 95, 95, 6, 249, 0, 6, 251, 10, 95, 95, 108, 111, 97, 100, 101, 114, 95, 95, 4, 0, 0, 14, 6, 252, 8, 95, 95, 115, 112, 101, 99, 95, 95, 4, 0, 0, 26, 6, 253, 7, 99, 111, 109, 112, 105, 108, 101, 9, 12, 95, 115, 114, 101, 46, 99, 111, 109, 112, 105, 108, 101, 6, 254, 8, 116, 101, 109, 112, 108, 97, 116, 101, 9, 13, 95, 115, 114, 101, 46, 116, 101, 109, 112, 108, 97, 116, 101, 6, 255, 11, 103, 101, 116, 99, 111, 100, 101, 115, 105, 122, 101, 9, 16, 95, 115, 114, 101, 46, 103, 101, 116, 99, 111, 100, 101, 115, 105, 122, 101, 6, 256, 13, 97, 115, 99, 105, 105, 95, 105, 115, 99, 97, 115, 101, 100, 9, 18, 95, 115, 114, 101, 46, 97, 115, 99, 105, 105, 95, 105, 115, 99, 97, 115, 101, 100, 6, 257, 15, 117, 110, 105, 99, 111, 100, 101, 95, 105, 115, 99, 97, 115, 101, 100, 9, 20, 95, 115, 114, 101, 46, 117, 110, 105, 99, 111, 100, 101, 95, 105, 115, 99, 97, 115, 101, 100, 6, 258, 13, 97, 115, 99, 105, 105, 95, 116, 111, 108, 111, 119, 101, 114, 9, 18, 95, 115, 114, 101, 46, 97, 115, 99, 105, 105, 95, 116, 111, 108, 111, 119, 101, 114, 6, 259, 15, 117, 110, 105, 99, 111, 100, 101, 95, 116, 111, 108, 111, 119, 101, 114, 9, 20, 95, 115, 114, 101, 46, 117, 110, 105, 99, 111, 100, 101, 95, 116, 111, 108, 111, 119, 101, 114, 6, 261, 5, 77, 65, 71, 73, 67, 4, 260, 0, 20230612, 6, 263, 8, 67, 79, 68, 69, 83, 73, 90, 69, 4, 262, 0, 4, 6, 265, 9, 77, 65, 88, 82, 69, 80, 69, 65, 84, 4, 264, 0, 4294967295, 6, 267, 9, 77, 65, 88, 71, 82, 79, 85, 80, 83, 4, 266, 0, 1073741823, 6, 269, 9, 99, 111, 112, 121, 114, 105, 103, 104, 116, 6, 268, 53, 32, 83, 82, 69, 32, 50, 46, 50, 46, 50, 32, 67, 111, 112, 121, 114, 105, 103, 104, 116, 32, 40, 99, 41, 32, 49, 57, 57, 55, 45, 50, 48, 48, 50, 32, 98, 121, 32, 83, 101, 99, 114, 101, 116, 32, 76, 97, 98, 115, 32, 65, 66, 32] } 0, .bool Bool.true, .bool Bool.false, .str (Str.ofString "_sre") 271] }),
  (28, { cls := .type "tuple", data := .seq #[] }),
  (29, { cls := .none, data := .fields #[.int 54 0, .int 0 0, .ref 40, .int 56 0, .int 0 0, .ref 47, .int 58 0, .int 0 0, .ref 54, .int 64 0, .int 0 0, .ref 71, .int 67 0, .int 0 0, .ref 78, .int 69 0, .int 0 0, .ref 85, .int 80 0, .int 0 0, .ref 92, .int 99 0, .int 0 0, .ref 99, .int 110 0, .int 0 0, .ref 106, .int 123 0, .int 0 0, .ref 113, .int 141 0, .int 0 0, .ref 120, .int 145 0, .int 0 0, .ref 127, .int 148 0, .int 0 0, .ref 134, .int 150 0, .int 0 0, .ref 141, .int 154 0, .int 0 0, .ref 148, .int 173 0, .int 0 0, .ref 155, .int 185 0, .int 0 0, .ref 162, .int 200 0, .int 0 0, .ref 169, .int 236 0, .int 0 0, .ref 176, .int 238 0, .int 0 0, .ref 183] }),
  (30, { cls := .type "code", data := .fields #[.str (Str.ofString "<module>") 277, .str (Str.ofString "<module>") 278, .str (Str.ofString "/claim/cut.py") 279, .int 1 0, .int 0 0, .int 0 0, .int 0 0, .int 0 0, .ref 28, .bool Bool.false, .int 276 0, .ref 29, .none, .none, .none, .none, .int 280 0, .int 1 0, .str (Str.ofString "/claim/cut.py") 281] }),
  (31, { cls := .type "frame", slots := #[Option.some (.ref 30), Option.some (.ref 3), Option.some (.ref 3), Option.none, Option.some (.str (Str.ofString "__main__") 164), Option.none, Option.some (.ref 0)] }),
  (33, { cls := .type "dict", data := .dict #[{ hash := PyData.keyHash P (Str.ofString "->"), key := .str (Str.ofString "->") 418, val := .int 51 374 }, { hash := PyData.keyHash P (Str.ofString "."), key := .str (Str.ofString ".") 420, val := .int 23 318 }, { hash := PyData.keyHash P (Str.ofString "..."), key := .str (Str.ofString "...") 422, val := .int 52 376 }, { hash := PyData.keyHash P (Str.ofString "/"), key := .str (Str.ofString "/") 424, val := .int 17 306 }, { hash := PyData.keyHash P (Str.ofString "//"), key := .str (Str.ofString "//") 426, val := .int 47 366 }, { hash := PyData.keyHash P (Str.ofString "//="), key := .str (Str.ofString "//=") 428, val := .int 48 368 }, { hash := PyData.keyHash P (Str.ofString "/="), key := .str (Str.ofString "/=") 430, val := .int 39 350 }, { hash := PyData.keyHash P (Str.ofString ":"), key := .str (Str.ofString ":") 432, val := .int 11 294 }, { hash := PyData.keyHash P (Str.ofString ":="), key := .str (Str.ofString ":=") 434, val := .int 53 378 }, { hash := PyData.keyHash P (Str.ofString ";"), key := .str (Str.ofString ";") 436, val := .int 13 298 }, { hash := PyData.keyHash P (Str.ofString "<"), key := .str (Str.ofString "<") 438, val := .int 20 312 }, { hash := PyData.keyHash P (Str.ofString "<<"), key := .str (Str.ofString "<<") 440, val := .int 33 338 }, { hash := PyData.keyHash P (Str.ofString "<<="), key := .str (Str.ofString "<<=") 442, val := .int 44 360 }, { hash := PyData.keyHash P (Str.ofString "<="), key := .str (Str.ofString "<=") 444, val := .int 29 330 }, { hash := PyData.keyHash P (Str.ofString "="), key := .str (Str.ofString "=") 446, val := .int 22 316 }, { hash := PyData.keyHash P (Str.ofString "=="), key := .str (Str.ofString "==") 448, val := .int 27 326 }, { hash := PyData.keyHash P (Str.ofString ">"), key := .str (Str.ofString ">") 450, val := .int 21 314 }] 17 }),
  (34, { cls := .type "dict", data := .dict #[{ hash := PyData.keyHash P (Str.ofString ">="), key := .str (Str.ofString ">=") 452, val := .int 30 332 }, { hash := PyData.keyHash P (Str.ofString ">>"), key := .str (Str.ofString ">>") 453, val := .int 34 340 }, { hash := PyData.keyHash P (Str.ofString ">>="), key := .str (Str.ofString ">>=") 454, val := .int 45 362 }, { hash := PyData.keyHash P (Str.ofString "@"), key := .str (Str.ofString "@") 455, val := .int 49 370 }, { hash := PyData.keyHash P (Str.ofString "@="), key := .str (Str.ofString "@=") 456, val := .int 50 372 }, { hash := PyData.keyHash P (Str.ofString "["), key := .str (Str.ofString "[") 457, val := .int 9 290 }, { hash := PyData.keyHash P (Str.ofString "]"), key := .str (Str.ofString "]") 458, val := .int 10 292 }, { hash := PyData.keyHash P (Str.ofString "^"), key := .str (Str.ofString "^") 459, val := .int 32 336 }, { hash := PyData.keyHash P (Str.ofString "^="), key := .str (Str.ofString "^=") 460, val := .int 43 358 }, { hash := PyData.keyHash P (Str.ofString "{"), key := .str (Str.ofString "{") 461, val := .int 25 322 }, { hash := PyData.keyHash P (Str.ofString "|"), key := .str (Str.ofString "|") 462, val := .int 18 308 }, { hash := PyData.keyHash P (Str.ofString "|="), key := .str (Str.ofString "|=") 463, val := .int 42 356 }, { hash := PyData.keyHash P (Str.ofString "}"), key := .str (Str.ofString "}") 464, val := .int 26 324 }, { hash := PyData.keyHash P (Str.ofString "~"), key := .str (Str.ofString "~") 465, val := .int 31 334 }] 14 }),
  (36, { cls := .none, data := .fields #[] }),
  (39, topStub P 41),
  (43, { cls := .none, data := .fields #[] }),
  (46, topStub P 48),
  (50, { cls := .none, data := .fields #[] }),
  (53, topStub P 55),
  (56, { cls := .type "list", data := .seq #[.int 14 507, .int 4 508, .int 0 509, .int 1 510, .int 1 511, .int 6 512, .int 1 513, .int 16 514, .int 46 515, .int 1 516] }),
  (57, { cls := .type "dict", data := .dict #[] }),
  (58, { cls := .type "tuple", data := .seq #[.none] }),
  (61, { cls := .type "list", data := .seq #[.int 14 523, .int 9 524, .int 4 525, .int 1 526, .int 2 527, .int 16 528, .int 10 529, .int 16 530, .int 13 531, .int 0 532, .int 7 533, .int 7 534, .int 16 535, .int 13 536, .int 16 537, .int 10 538, .int 15 539, .int 18 540, .int 5 541, .int 16 542, .int 10 543, .int 15 544, .int 13 545, .int 11 546, .int 16 547, .int 13 548, .int 5 549, .int 5 550, .int 0 551, .int 16 552, .int 10 553, .int 1 554, .int 15 555, .int 2 556, .int 0 557, .int 1 558] }),
  (62, { cls := .type "dict", data := .dict #[] }),
  (63, { cls := .type "tuple", data := .seq #[.none] }),
  (67, { cls := .none, data := .fields #[] }),
  (70, topStub P 72),
  (74, { cls := .none, data := .fields #[] }),
  (77, topStub P 79),
  (81, { cls := .none, data := .fields #[] }),
  (84, topStub P 86),
  (88, { cls := .none, data := .fields #[] }),
  (91, topStub P 93),
  (95, { cls := .none, data := .fields #[] }),
  (98, topStub P 100),
  (102, { cls := .none, data := .fields #[] }),
  (105, topStub P 107),
  (109, { cls := .none, data := .fields #[] }),
  (112, topStub P 114),
  (116, { cls := .none, data := .fields #[] }),
  (119, topStub P 121),
  (123, { cls := .none, data := .fields #[] }),
  (126, topStub P 128),
  (130, { cls := .none, data := .fields #[] }),
  (133, topStub P 135),
  (137, { cls := .none, data := .fields #[] }),
  (140, topStub P 142),
  (144, { cls := .none, data := .fields #[] }),
  (147, topStub P 149),
  (151, { cls := .none, data := .fields #[] }),
  (154, topStub P 156),
  (158, { cls := .none, data := .fields #[] }),
  (161, topStub P 163),
  (165, { cls := .none, data := .fields #[] }),
  (168, topStub P 170),
  (172, { cls := .none, data := .fields #[] }),
  (175, topStub P 177),
  (179, { cls := .none, data := .fields #[] }),
  (182, topStub P 184)]
noncomputable def topPick : Nat → Frag → Frag → List Obj
  | 0, _, _ => []
  | n + 1, [], [] => []
  | n + 1, [], b :: t => b.2 :: topPick n [] t
  | n + 1, a :: r, [] => a.2 :: topPick n r []
  | n + 1, a :: r, b :: t => bif Nat.blt a.1 b.1 then a.2 :: topPick n r (b :: t) else b.2 :: topPick n (a :: r) t
/-- the state that the top leaves -/
noncomputable def topState (P : Params) : Shared := { heap := { objs := (topPick 185 (Mine.hk.heap_1 P) (topRest P)).toArray }, toks := 730 }
/-- the top's run ends in that state -/
def TopRan (w : World) : Prop := openEnds treeTable PySem.Challenge.rw_st0020_01.row.prog w 4606 = some (topState w.params)
theorem hF (w : World) : TopRan (w.withFollow "special-get-raises" false) := by
  unfold TopRan openEnds fencedOpening topFrom
  rw [PySem.W.Fast.te14364793385576792824, PySem.W.Fast.te5923862056798008813, PySem.W.Fast.te10274390034422433532, PySem.W.Fast.te1435165496053646825, PySem.W.Fast.te14289696077712309145, PySem.W.Fast.te14082659384304107361]
  kernel_rfl
theorem hT (w : World) : TopRan (w.withFollow "special-get-raises" true) := by
  unfold TopRan openEnds fencedOpening topFrom
  rw [PySem.W.Fast.te14364793385576792824, PySem.W.Fast.te5923862056798008813, PySem.W.Fast.te10274390034422433532, PySem.W.Fast.te1435165496053646825, PySem.W.Fast.te14289696077712309145, PySem.W.Fast.te14082659384304107361]
  kernel_rfl
theorem topNine {A B C D E F G H I : Type} {a a' : A} {b b' : B} {c c' : C} {d d' : D} {e e' : E} {f f' : F} {g g' : G} {h h' : H} {i i' : I} (h1 : a = a') (h2 : b = b') (h3 : c = c') (h4 : d = d') (h5 : e = e') (h6 : f = f') (h7 : g = g') (h8 : h = h') (h9 : i = i') :
    (a, b, c, d, e, f, g, h, i) = (a', b', c', d', e', f', g', h', i') := by subst h1 h2 h3 h4 h5 h6 h7 h8 h9; rfl
theorem seen_all (P : Params) : openSeen vw [Str.ofString "EXACT_TOKEN_TYPES", Str.ofString "_twin_re_1", Str.ofString "_twin_re_2"] (importedModules PySem.Challenge.rw_st0020_01.row.prog.main.body) (fun s => xlAt Mine.vw [] s && recOk (RowW.records (OpenRow.toRowW PySem.Challenge.rw_st0020_01.row)) s) true (topState P) = openGood vw [Str.ofString "EXACT_TOKEN_TYPES", Str.ofString "_twin_re_1", Str.ofString "_twin_re_2"] := by
  rw [PySem.W.Fast.te4187177175401517315]
  unfold PySem.W.Fast.tw4187177175401517315 openGood
  refine topNine ?_ ?_ (look_both (look_both (look_both (look_both (look_both (look_both ?_ ?_) ?_) ?_) ?_) (look_both ?_ ?_)) ?_) ?_ ?_ ?_ ?_ ?_ ?_ <;> kernel_rfl
theorem obs_left (w : World) : Hook.obs (kHook Mine.hk.heap_1 Mine.addrs Mine.addrs_eq) (topState w.params) = Hook.val (kHook Mine.hk.heap_1 Mine.addrs Mine.addrs_eq) w := by kernel_rfl
theorem top_left : LeftO PySem.Challenge.rw_st0020_01.row.prog vw [Str.ofString "EXACT_TOKEN_TYPES", Str.ofString "_twin_re_1", Str.ofString "_twin_re_2"] (fun s => xlAt Mine.vw [] s && recOk (RowW.records (OpenRow.toRowW PySem.Challenge.rw_st0020_01.row)) s) (Hook.obs (kHook Mine.hk.heap_1 Mine.addrs Mine.addrs_eq)) (Hook.val (kHook Mine.hk.heap_1 Mine.addrs Mine.addrs_eq)) 4606 := by
  intro w
  have e : TopRan w := byRow2 "special-get-raises" (P := TopRan) hF hT w
  unfold TopRan at e
  rw [e]
  exact congrArg some (congr (congrArg Prod.mk (seen_all w.params)) (obs_left w))
end Mine
end
section
open PySem PySem.W PySem.Calls PyProof.Rows
set_option Elab.async false
set_option maxRecDepth 100000
namespace Mine
theorem re_attrs : PlainAttrs "re.Pattern" :=
  ⟨⟨"object.__getattribute__", by rw [typeLookup_type, builtinLookup_eq_fast]; kernel_rfl, by decide +kernel⟩, by rw [typeLookup_type, builtinLookup_eq_fast]; kernel_rfl⟩
theorem re_slot : Slot "re.Pattern" "sub" "re.Pattern.sub" :=
  .of (owner := "re.Pattern") (n := "sub") (by rw [typeLookup_type, builtinLookup_eq_fast]; kernel_rfl) (by decide +kernel) (by decide +kernel) (by decide +kernel)
    (by first | exact .inl (by decide +kernel) | exact .inr (by decide +kernel)) (by rw [isSubtype_type]; kernel_rfl)
theorem re_type : typeOf (.builtin "re.Pattern.sub") = pure (.type "method_descriptor") := by show builtinType _ = _; rw [builtinType_eq_fast]; kernel_rfl
theorem re_entry : entryFor table "re.Pattern.sub" = some Builtin.«re.Pattern.sub» := entryFor_of_tree (by kernel_rfl)
theorem re_entry2 : entryFor table "re.Pattern.sub.loop" = some Builtin.«re.Pattern.sub.loop» := entryFor_of_tree (by kernel_rfl)
theorem re_args (a b c : Value) : argsOk "re.Pattern.sub" ⟨[a, b, c], []⟩ := by
  unfold argsOk; kernel_rfl
end Mine
end
section
open PySem PySem.Sre
set_option maxRecDepth 100000
set_option linter.unusedSimpArgs false
set_option linter.unusedVariables false
namespace Mine
abbrev code1 : Array Nat := #[14, 4, 0, 1, 1, 6, 1, 16, 46, 1]
abbrev code2 : Array Nat := #[14, 9, 4, 1, 2, 16, 10, 16, 13, 0, 7, 7, 16, 13, 16, 10, 15, 18, 5, 16, 10, 15, 13, 11, 16, 13, 5, 5, 0, 16, 10, 1, 15, 2, 0, 1]

/-- the machine stands at its end, with this find -/
noncomputable def Stands (m' : M) (r : Option (Nat × Nat)) : Prop := match r with
    | none => m'.outcome = some .failed
    | some (a, b) => m'.outcome = some .matched ∧ m'.start = a ∧ m'.handed = b
theorem Stands.some {m : M} {r : Option (Nat × Nat)} (h : Stands m r) : m.outcome.isSome = true := by
  unfold Stands at h
  split at h
  · rw [h]; rfl
  · rw [h.1]; rfl
/-- the machine comes to its end within n steps, with this find -/
noncomputable def Ends (n : Nat) (m : M) (r : Option (Nat × Nat)) : Prop := Stands (M.runFor n m) r

theorem runFor_some {m : M} (h : m.outcome.isSome = true) : ∀ n, M.runFor n m = m
  | 0 => rfl
  | n + 1 => by rw [M.runFor, if_pos h]
theorem Ends.done {n : Nat} {m : M} {r : Option (Nat × Nat)} (h : Stands m r) : Ends n m r := by
  unfold Ends
  rw [runFor_some h.some]
  exact h
theorem Ends.step {n : Nat} {m : M} {r : Option (Nat × Nat)} (h0 : m.outcome = none) (h : Ends n m.step r) : Ends (n + 1) m r := by
  unfold Ends at *
  rw [M.runFor]
  simp only [h0, Option.isSome_none, Bool.false_eq_true, if_false]
  exact h
theorem runFor_add (m : M) : ∀ n k, M.runFor (n + k) m = M.runFor k (M.runFor n m) := by
  intro n
  induction n generalizing m with
  | zero => intro k; rw [Nat.zero_add]; rfl
  | succ n ih =>
    intro k
    rw [Nat.succ_add, M.runFor, M.runFor]
    by_cases h : m.outcome.isSome = true
    · rw [if_pos h, if_pos h, runFor_some h]
    · rw [if_neg h, if_neg h, ih]
theorem Ends.mono {n k : Nat} {m : M} {r : Option (Nat × Nat)} (h : Ends n m r) (hk : n ≤ k) : Ends k m r := by
  unfold Ends at *
  obtain ⟨d, rfl⟩ := Nat.le.dest hk
  rw [runFor_add, runFor_some h.some]
  exact h

/-- a step at a sign that is asked for -/
theorem step_lit {m : M} (b : Bool) (h0 : m.outcome = none) (h1 : m.answer = none) (hpc : m.pc < m.code.size) (hop : ops[m.word 0]? = some .LITERAL) (hp : m.pos < m.lim) (hb : (m.text.getD m.pos 0 == m.word 1) = b) :
    m.step = (match b with | true => { m with seen := m.seen.add (m.word 0), pc := m.pc + 2, pos := m.pos + 1 } | false => { m with seen := m.seen.add (m.word 0), answer := some false }) := by
  have hop2 : ops[m.code.getD m.pc 0]? = some .LITERAL := hop
  have e : m.step = m.exec := by
    unfold M.step
    rw [h0, h1]
    exact if_pos hpc
  rw [e]
  unfold M.exec
  rw [hop]
  dsimp only
  rw [if_neg (Nat.not_le.mpr hp)]
  unfold accepts itemWidth
  rw [hop2]
  dsimp only
  have hb2 : (m.text.getD m.pos 0 == m.code.getD (m.pc + 1) 0) = b := hb
  rw [hb2]
  cases b <;> rfl
/-- at the text's end -/
theorem step_edge {m : M} (h0 : m.outcome = none) (h1 : m.answer = none) (hpc : m.pc < m.code.size) (hop : ops[m.word 0]? = some .LITERAL) (hp : m.lim ≤ m.pos) :
    m.step = { m with seen := m.seen.add (m.word 0), answer := some false } := by
  have e : m.step = m.exec := by
    unfold M.step
    rw [h0, h1]
    exact if_pos hpc
  rw [e]
  unfold M.exec
  rw [hop]
  dsimp only
  rw [if_pos hp]
  rfl
theorem Ends.lit {n : Nat} {m : M} {r : Option (Nat × Nat)} (b : Bool) (h0 : m.outcome = none) (h1 : m.answer = none) (hpc : Nat.blt m.pc m.code.size = true) (hop : ops[m.word 0]? = some .LITERAL) (hp : m.pos < m.lim) (hb : (m.text.getD m.pos 0 == m.word 1) = b)
    (h : Ends n (match b with | true => { m with seen := m.seen.add (m.word 0), pc := m.pc + 2, pos := m.pos + 1 } | false => { m with seen := m.seen.add (m.word 0), answer := some false }) r) : Ends (n + 1) m r :=
  Ends.step h0 (by rw [step_lit b h0 h1 (Nat.le_of_ble_eq_true hpc) hop hp hb]; exact h)
theorem Ends.edge {n : Nat} {m : M} {r : Option (Nat × Nat)} (h0 : m.outcome = none) (h1 : m.answer = none) (hpc : Nat.blt m.pc m.code.size = true) (hop : ops[m.word 0]? = some .LITERAL) (hp : m.lim ≤ m.pos)
    (h : Ends n { m with seen := m.seen.add (m.word 0), answer := some false } r) : Ends (n + 1) m r :=
  Ends.step h0 (by rw [step_edge h0 h1 (Nat.le_of_ble_eq_true hpc) hop hp]; exact h)
abbrev at2 (text : Array Nat) (p s : Nat) (sn : Seen) : M :=
  { code := code2, text := text, lim := text.size, start := s, lastStart := text.size, pc := 10, pos := s, handed := s, marks := #[], weight := 1, frames := [{ wait := .nextStart, pc := 10, pos := s, outermost := true }], seen := sn }

abbrev fN (s : Nat) : Sre.Frame := { wait := .nextStart, pc := 10, pos := s, outermost := true }
abbrev fB (k s : Nat) : Sre.Frame := { wait := .nextBranch, pc := k, pos := s, outermost := true }
/-- where the machine of the line ends stands -/
abbrev W2 (text : Array Nat) (s pc pos : Nat) (a : Option Bool) (fs : List Sre.Frame) (wt handed : Nat) (o : Bool) (sn : Seen) (out : Option Sre.Outcome) : M :=
  { code := code2, text := text, lim := text.size, start := s, lastStart := text.size, pc := pc, pos := pos, handed := handed, marks := #[], weight := wt, frames := fs, outermost := o, seen := sn, answer := a, outcome := out }
/-- the last steps after a find -/
theorem end2 (text : Array Nat) (s k pos : Nat) (sn : Seen) : Ends 4 (W2 text s 35 pos none [fB k s, fN s] 2 s true sn none) (some (s, pos)) := by
  refine Ends.step rfl (?_ : Ends _ (W2 text s 35 pos (some true) [fB k s, fN s] 2 pos true _ none) _)
  refine Ends.step rfl (?_ : Ends _ (W2 text s k s (some true) [fN s] 1 pos true _ none) _)
  refine Ends.step rfl (?_ : Ends _ (W2 text s 10 s (some true) [] 0 pos true _ none) _)
  refine Ends.step rfl (?_ : Ends _ (W2 text s 10 s (some true) [] 0 pos true _ (some .matched)) _)
  exact Ends.done ⟨rfl, rfl, rfl⟩
theorem get_eq {text : Array Nat} {s c : Nat} (hs : s < text.size) (b : Bool) (h : (text[s] == c) = b) : (text.getD s 0 == c) = b := by
  rw [← h]; simp [hs]
theorem at2_nl (text : Array Nat) (p s : Nat) (hs : s < text.size) (h : text[s] = 10) (sn : Seen) : Ends 20 (at2 text p s sn) (some (s, s + 1)) := by
  have h10 : (text.getD s 0 == 10) = true := get_eq hs true (by rw [h]; rfl)
  have h13 : (text.getD s 0 == 13) = false := get_eq hs false (by rw [h]; rfl)
  refine Ends.step rfl (?_ : Ends _ (W2 text s 12 s none [fB 11 s, fN s] 2 s true _ none) _)
  refine Ends.lit false rfl rfl rfl rfl hs h13 (?_ : Ends _ (W2 text s 12 s (some false) [fB 11 s, fN s] 2 s true _ none) _)
  refine Ends.step rfl (?_ : Ends _ (W2 text s 19 s none [fB 18 s, fN s] 2 s true _ none) _)
  refine Ends.lit true rfl rfl rfl rfl hs h10 (?_ : Ends _ (W2 text s 21 (s + 1) none [fB 18 s, fN s] 2 s true _ none) _)
  refine Ends.step rfl (?_ : Ends _ (W2 text s 35 (s + 1) none [fB 18 s, fN s] 2 s true _ none) _)
  exact (end2 text s 18 (s + 1) _).mono (by decide)
theorem at2_crnl (text : Array Nat) (p s : Nat) (hs : s + 1 < text.size) (h : text[s]'(Nat.lt_of_succ_lt hs) = 13) (h' : text[s + 1] = 10) (sn : Seen) : Ends 20 (at2 text p s sn) (some (s, s + 2)) := by
  have hs0 := Nat.lt_of_succ_lt hs
  have h13 : (text.getD s 0 == 13) = true := get_eq hs0 true (by rw [h]; rfl)
  have h10 : (text.getD (s + 1) 0 == 10) = true := get_eq hs true (by rw [h']; rfl)
  refine Ends.step rfl (?_ : Ends _ (W2 text s 12 s none [fB 11 s, fN s] 2 s true _ none) _)
  refine Ends.lit true rfl rfl rfl rfl hs0 h13 (?_ : Ends _ (W2 text s 14 (s + 1) none [fB 11 s, fN s] 2 s true _ none) _)
  refine Ends.lit true rfl rfl rfl rfl hs h10 (?_ : Ends _ (W2 text s 16 (s + 2) none [fB 11 s, fN s] 2 s true _ none) _)
  refine Ends.step rfl (?_ : Ends _ (W2 text s 35 (s + 2) none [fB 11 s, fN s] 2 s true _ none) _)
  exact (end2 text s 11 (s + 2) _).mono (by decide)
abbrev fL (pos : Nat) : Sre.Frame := { wait := .lookNot, pc := 26, pos := pos, outermost := true }
set_option maxHeartbeats 4000000 in
theorem at2_cr (text : Array Nat) (p s : Nat) (hs0 : s < text.size) (h : text[s] = 13) (h' : ∀ hs : s + 1 < text.size, text[s + 1] ≠ 10) (sn : Seen) : Ends 30 (at2 text p s sn) (some (s, s + 1)) := by
  have h13 : (text.getD s 0 == 13) = true := get_eq hs0 true (by rw [h]; rfl)
  have h10 : (text.getD s 0 == 10) = false := get_eq hs0 false (by rw [h]; rfl)
  -- at the sign behind: it is none, or no feed
  have look : ∀ {n : Nat} {r : Option (Nat × Nat)} (pc : Nat) (fs : List Sre.Frame) (wt hd : Nat) (o : Bool) (sn : Seen), Nat.blt pc code2.size = true → ops[code2.getD (pc + 0) 0]? = some .LITERAL → code2.getD (pc + 1) 0 = 10 → (∀ sn, Ends n (W2 text s pc (s + 1) (some false) fs wt hd o sn none) r) → Ends (n + 1) (W2 text s pc (s + 1) none fs wt hd o sn none) r := by
    intro n r pc fs wt hd o sn h1 h2 h3 h4
    by_cases hs : s + 1 < text.size
    · have h5 : (text.getD (s + 1) 0 == 10) = false := get_eq hs false (beq_eq_false_iff_ne.mpr (h' hs))
      exact Ends.lit false rfl rfl h1 h2 hs (by show (text.getD (s + 1) 0 == code2.getD (pc + 1) 0) = false; rw [h3]; exact h5) (h4 _)
    · exact Ends.edge rfl rfl h1 h2 (Nat.le_of_not_lt hs) (h4 _)
  refine Ends.step rfl (?_ : Ends _ (W2 text s 12 s none [fB 11 s, fN s] 2 s true _ none) _)
  refine Ends.lit true rfl rfl rfl rfl hs0 h13 (?_ : Ends _ (W2 text s 14 (s + 1) none [fB 11 s, fN s] 2 s true _ none) _)
  refine look 14 _ _ _ _ _ rfl rfl rfl fun sn => ?_
  refine Ends.step rfl (?_ : Ends _ (W2 text s 19 s none [fB 18 s, fN s] 2 s true _ none) _)
  refine Ends.lit false rfl rfl rfl rfl hs0 h10 (?_ : Ends _ (W2 text s 19 s (some false) [fB 18 s, fN s] 2 s true _ none) _)
  refine Ends.step rfl (?_ : Ends _ (W2 text s 24 s none [fB 23 s, fN s] 2 s true _ none) _)
  refine Ends.lit true rfl rfl rfl rfl hs0 h13 (?_ : Ends _ (W2 text s 26 (s + 1) none [fB 23 s, fN s] 2 s true _ none) _)
  refine Ends.step rfl (?_ : Ends _ (W2 text s 29 (s + 1) none [fL (s + 1), fB 23 s, fN s] 3 (s + 1) false _ none) _)
  refine look 29 _ _ _ _ _ rfl rfl rfl fun sn => ?_
  refine Ends.step rfl (?_ : Ends _ (W2 text s 32 (s + 1) none [fB 23 s, fN s] 2 (s + 1) true _ none) _)
  refine Ends.step rfl (?_ : Ends _ (W2 text s 35 (s + 1) none [fB 23 s, fN s] 2 (s + 1) true _ none) _)
  exact Ends.mono (n := 4) (k := 19) (end2 text s 23 (s + 1) _) (by decide)

/-- the first place from p on that holds 10 or 13 -/
theorem inSet2 (c : Nat) (sn : Seen) : ∃ sn', inSet code2 c code2.size 5 true sn = .ok (c == 10 || c == 13, sn') := by
  have e : inSet code2 c code2.size 5 true sn = (if (c == 10) = true then .ok (true, sn.add 16) else if (c == 13) = true then .ok (true, (sn.add 16).add 16) else .ok (!true, ((sn.add 16).add 16).add 0)) := rfl
  rw [e]
  cases c == 10 <;> cases c == 13 <;> exact ⟨_, rfl⟩
theorem admitted2 (m : M) (hc : m.code = code2) : ∀ (fuel s : Nat) (sn : Seen), m.lim < s + fuel → m.lim = m.text.size →
    (∃ sn', M.admitted m fuel s sn = .ok (none, sn') ∧ ∀ j (hj : j < m.text.size), s ≤ j → m.text[j] ≠ 10 ∧ m.text[j] ≠ 13) ∨
    (∃ sn' i, ∃ hi : i < m.text.size, M.admitted m fuel s sn = .ok (some i, sn') ∧ s ≤ i ∧ (m.text[i] = 10 ∨ m.text[i] = 13) ∧ ∀ j (hj : j < m.text.size), s ≤ j → j < i → m.text[j] ≠ 10 ∧ m.text[j] ≠ 13)
  | 0, s, sn, h, hl => .inl ⟨sn, rfl, fun j hj hs => absurd hj (by omega)⟩
  | fuel + 1, s, sn, h, hl => by
    unfold M.admitted
    by_cases hs : s ≥ m.lim
    · rw [if_pos hs]
      exact .inl ⟨sn, rfl, fun j hj hs' => absurd hj (by omega)⟩
    · rw [if_neg hs, hc]
      have hs' : s < m.text.size := by omega
      have e : m.text.getD s 0 = m.text[s] := by simp [hs']
      obtain ⟨sn', he⟩ := inSet2 (m.text.getD s 0) sn
      rw [he, e]
      cases hh : (m.text[s] == 10 || m.text[s] == 13) with
      | true =>
        have hh' : m.text[s] = 10 ∨ m.text[s] = 13 := by simpa using hh
        exact .inr ⟨sn', s, hs', rfl, Nat.le_refl _, hh', fun j hj h1 h2 => absurd h1 (by omega)⟩
      | false =>
        have hh' : m.text[s] ≠ 10 ∧ m.text[s] ≠ 13 := by simpa using hh
        have ih := admitted2 m hc fuel (s + 1) sn' (by omega) hl
        refine ih.imp ?_ ?_
        · rintro ⟨sn2, h1, h2⟩
          exact ⟨sn2, h1, fun j hj hj2 => if q : j = s then by subst q; exact hh' else h2 j hj (by omega)⟩
        · rintro ⟨sn2, i, hi, h1, h2, h3, h4⟩
          exact ⟨sn2, i, hi, h1, by omega, h3, fun j hj hj2 hj3 => if q : j = s then by subst q; exact hh' else h4 j hj (by omega) hj3⟩

/-- what the search for a line's end finds from p on -/
noncomputable def Found2 (text : Array Nat) (p : Nat) : Option (Nat × Nat) → Prop
  | none => ∀ j (hj : j < text.size), p ≤ j → text[j] ≠ 10 ∧ text[j] ≠ 13
  | some (a, b) => ∃ ha : a < text.size, p ≤ a ∧ (∀ j (hj : j < text.size), p ≤ j → j < a → text[j] ≠ 10 ∧ text[j] ≠ 13) ∧
      ((text[a] = 10 ∧ b = a + 1) ∨ (text[a] = 13 ∧ (∃ h : a + 1 < text.size, text[a + 1] = 10) ∧ b = a + 2) ∨ (text[a] = 13 ∧ (∀ h : a + 1 < text.size, text[a + 1] ≠ 10) ∧ b = a + 1))

theorem search2 (text : Array Nat) (p : Nat) (hp : p ≤ text.size) : ∃ r, Ends 40 (forSearch code2 text 0 p text.size false) r ∧ Found2 text p r := by
  by_cases h0 : p = text.size
  · refine ⟨none, ?_, fun j hj hs => absurd hj (by omega)⟩
    have e : forSearch code2 text 0 p text.size false = ({ code := code2, text := text, lim := text.size, start := p, pc := 10, pos := p, handed := p, marks := #[], seen := ({} : Seen).add 14, answer := some false } : M) := by
      unfold forSearch
      have h1 : text.size - p < 1 := by omega
      show (if (decide (p > text.size) || decide (text.size - p < 1)) = true then _ else _) = _
      rw [if_pos (by simp [h1])]
      rfl
    rw [e]
    refine Ends.mono (n := 1) (Ends.step rfl ?_) (by decide)
    exact Ends.done rfl
  · have h1 : ¬ (p > text.size ∨ text.size - p < 1) := by omega
    let m0 : M := { code := code2, text := text, lim := text.size, start := p, lastStart := text.size, pc := 10, pos := p, handed := p, marks := #[], seen := ({} : Seen).add 14 }
    have e : forSearch code2 text 0 p text.size false = (match M.admitted m0 (text.size + 1 - p) p m0.seen with
        | .ok (some s, seen) => ({ m0 with mustAdvance := false, seen } : M).attemptAt s true
        | .ok (none, seen) => ({ m0 with seen } : M).say false
        | .error why => m0.stick why) := by
      unfold forSearch
      show (if (decide (p > text.size) || decide (text.size - p < 1)) = true then _ else _) = _
      rw [if_neg (by simpa using h1)]
      rfl
    have ha := admitted2 m0 rfl (text.size + 1 - p) p m0.seen (by show text.size < _; omega) rfl
    rcases ha with ⟨sn', h2, h3⟩ | ⟨sn', i, hi, h2, h3, h4, h5⟩
    · rw [h2] at e
      refine ⟨none, ?_, h3⟩
      rw [e]
      refine Ends.mono (n := 1) (Ends.step rfl ?_) (by decide)
      exact Ends.done rfl
    · rw [h2] at e
      have e' : forSearch code2 text 0 p text.size false = at2 text p i sn' := by
        rw [e]
        show M.attemptAt _ i true = _
        simp [M.attemptAt, M.attempt, m0]
      rcases h4 with h4 | h4
      · exact ⟨some (i, i + 1), e' ▸ (at2_nl text p i hi h4 sn').mono (by decide), hi, h3, h5, .inl ⟨h4, rfl⟩⟩
      · by_cases h6 : ∃ h : i + 1 < text.size, text[i + 1] = 10
        · obtain ⟨h7, h8⟩ := h6
          exact ⟨some (i, i + 2), e' ▸ (at2_crnl text p i h7 h4 h8 sn').mono (by decide), hi, h3, h5, .inr (.inl ⟨h4, ⟨h7, h8⟩, rfl⟩)⟩
        · exact ⟨some (i, i + 1), e' ▸ (at2_cr text p i hi h4 (fun h7 h8 => h6 ⟨h7, h8⟩) sn').mono (by decide), hi, h3, h5, .inr (.inr ⟨h4, (fun h7 h8 => h6 ⟨h7, h8⟩), rfl⟩)⟩

/-! the dot at a row's head -/
noncomputable def Hit1 (text : Array Nat) (s : Nat) : Prop := ∃ h : s < text.size, (s = 0 ∨ text[s - 1]?.getD 0 = 10) ∧ text[s] = 46
abbrev at1 (text : Array Nat) (s : Nat) (o : Bool) (sn : Seen) : M :=
  { code := code1, text := text, lim := text.size, start := s, lastStart := text.size, pc := 5, pos := s, handed := s, outermost := o, marks := #[], weight := 1, frames := [{ wait := .nextStart, pc := 5, pos := s, outermost := o }], seen := sn }
/-- a step at a row's head -/
theorem step_head {m : M} (b : Bool) (h0 : m.outcome = none) (h1 : m.answer = none) (hpc : m.pc < m.code.size) (hop : ops[m.word 0]? = some .AT) (hk : m.word 1 = 1) (hb : (m.pos == 0 || m.text.getD (m.pos - 1) 0 == 10) = b) :
    m.step = (match (generalizing := false) b with | true => { m with seen := (m.seen.add (m.word 0)).add (43 + m.word 1), pc := m.pc + 2 } | false => { m with seen := (m.seen.add (m.word 0)).add (43 + m.word 1), answer := some false }) := by
  have e : m.step = m.exec := by
    unfold M.step
    rw [h0, h1]
    exact if_pos hpc
  rw [e]
  unfold M.exec
  rw [hop]
  have hi : M.isAt { m with seen := m.seen.add (m.word 0) } (M.word { m with seen := m.seen.add (m.word 0) } 1) = .ok b := by
    have hk2 : M.word { m with seen := m.seen.add (m.word 0) } 1 = 1 := hk
    rw [hk2, ← hb]
    rfl
  dsimp only
  rw [hi]
  cases b <;> rfl
theorem Ends.head {n : Nat} {m : M} {r : Option (Nat × Nat)} (b : Bool) (h0 : m.outcome = none) (h1 : m.answer = none) (hpc : Nat.blt m.pc m.code.size = true) (hop : ops[m.word 0]? = some .AT) (hk : m.word 1 = 1) (hb : (m.pos == 0 || m.text.getD (m.pos - 1) 0 == 10) = b)
    (h : Ends n (match (generalizing := false) b with | true => { m with seen := (m.seen.add (m.word 0)).add (43 + m.word 1), pc := m.pc + 2 } | false => { m with seen := (m.seen.add (m.word 0)).add (43 + m.word 1), answer := some false }) r) : Ends (n + 1) m r :=
  Ends.step h0 (by rw [step_head b h0 h1 (Nat.le_of_ble_eq_true hpc) hop hk hb]; exact h)
abbrev fM (s : Nat) (o : Bool) : Sre.Frame := { wait := .nextStart, pc := 5, pos := s, outermost := o }
/-- where the machine of the dots stands -/
abbrev W1 (text : Array Nat) (s pc pos : Nat) (a : Option Bool) (fs : List Sre.Frame) (wt handed : Nat) (o : Bool) (sn : Seen) (out : Option Sre.Outcome) : M :=
  { code := code1, text := text, lim := text.size, start := s, lastStart := text.size, pc := pc, pos := pos, handed := handed, marks := #[], weight := wt, frames := fs, outermost := o, seen := sn, answer := a, outcome := out }
theorem head_eq {text : Array Nat} {s : Nat} {b : Bool} (h : (s == 0 || text[s - 1]?.getD 0 == 10) = b) : (s == 0 || text.getD (s - 1) 0 == 10) = b := by
  rw [← h]; simp
theorem at1_hit (text : Array Nat) (s : Nat) (o : Bool) (sn : Seen) (h : Hit1 text s) : Ends 10 (at1 text s o sn) (some (s, s + 1)) := by
  obtain ⟨hs, h1, h2⟩ := h
  have h1' : (s == 0 || text.getD (s - 1) 0 == 10) = true := head_eq (by simpa using h1)
  have h46 : (text.getD s 0 == 46) = true := get_eq hs true (by rw [h2]; rfl)
  refine Ends.head true rfl rfl rfl rfl rfl h1' (?_ : Ends _ (W1 text s 7 s none [fM s o] 1 s o _ none) _)
  refine Ends.lit true rfl rfl rfl rfl hs h46 (?_ : Ends _ (W1 text s 9 (s + 1) none [fM s o] 1 s o _ none) _)
  cases o
  all_goals
    refine Ends.step rfl (?_ : Ends _ (W1 text s 9 (s + 1) (some true) _ 1 (s + 1) _ _ none) _)
    refine Ends.step rfl (?_ : Ends _ (W1 text s 5 s (some true) [] 0 (s + 1) _ _ none) _)
    refine Ends.step rfl (?_ : Ends _ (W1 text s 5 s (some true) [] 0 (s + 1) _ _ (some .matched)) _)
    exact Ends.done ⟨rfl, rfl, rfl⟩
/-- no dot at the text's end -/
theorem off1 (text : Array Nat) (s : Nat) (o : Bool) (sn : Seen) (h : text.size ≤ s ∨ (text.getD s 0 == 46) = false) (n : Nat) (r : Option (Nat × Nat)) (pc : Nat) (hfin : ∀ pc sn, Ends n (W1 text s pc s (some false) [fM s o] 1 s o sn none) r) : Ends (n + 2) (at1 text s o sn) r := by
  cases h1' : (s == 0 || text.getD (s - 1) 0 == 10) with
  | true =>
    refine Ends.head true rfl rfl rfl rfl rfl h1' (?_ : Ends _ (W1 text s 7 s none [fM s o] 1 s o _ none) _)
    by_cases hs : text.size ≤ s
    · exact Ends.edge rfl rfl rfl rfl hs (hfin 7 _)
    · exact Ends.lit false rfl rfl rfl rfl (Nat.lt_of_not_le hs) (h.resolve_left hs) (hfin 7 _)
  | false => exact Ends.head false rfl rfl rfl rfl rfl h1' ((hfin 5 _).mono (Nat.le_succ n))
theorem at1_end (text : Array Nat) (o : Bool) (sn : Seen) : Ends 20 (at1 text text.size o sn) none := by
  refine Ends.mono (n := 2 + 2) (off1 text text.size o sn (.inl (Nat.le_refl _)) 2 none 5 fun pc sn => ?_) (by decide)
  have e : (W1 text text.size pc text.size (some false) [fM text.size o] 1 text.size o sn none).step = W1 text text.size 5 text.size (some false) [] 0 text.size o sn none := by
    show (if text.size < text.size then _ else _) = _
    rw [if_neg (Nat.lt_irrefl _)]
    rfl
  refine Ends.step rfl ?_
  rw [e]
  refine Ends.step rfl (?_ : Ends _ (W1 text text.size 5 text.size (some false) [] 0 text.size o sn (some .failed)) _)
  exact Ends.done rfl
theorem at1_miss (text : Array Nat) (s n : Nat) (o : Bool) (sn : Seen) (r : Option (Nat × Nat)) (hs : s < text.size) (hm : ¬ Hit1 text s) (h : ∀ sn', Ends n (at1 text (s + 1) false sn') r) : Ends (n + 10) (at1 text s o sn) r := by
  have step : ∀ pc sn, Ends (n + 1) (W1 text s pc s (some false) [fM s o] 1 s o sn none) r := by
    intro pc sn
    have e : (W1 text s pc s (some false) [fM s o] 1 s o sn none).step = at1 text (s + 1) false sn := by
      show (if s < text.size then _ else _) = _
      rw [if_pos hs]
      rfl
    refine Ends.step rfl ?_
    rw [e]
    exact h sn
  cases hd : (text.getD s 0 == 46) with
  | false => exact (off1 text s o sn (.inr hd) (n + 1) r 5 step).mono (by omega)
  | true =>
    have h1 : (s == 0 || text.getD (s - 1) 0 == 10) = false := by
      cases h2 : (s == 0 || text.getD (s - 1) 0 == 10) with
      | false => rfl
      | true =>
        refine absurd ⟨hs, ?_, ?_⟩ hm
        · simpa using h2
        · simpa [hs] using hd
    exact (Ends.head false rfl rfl rfl rfl rfl h1 (step 5 _)).mono (by omega)
/-- what the search for a dot at a row's head finds from p on -/
noncomputable def Found1 (text : Array Nat) (p : Nat) : Option (Nat × Nat) → Prop
  | none => ∀ j, p ≤ j → ¬ Hit1 text j
  | some (a, b) => p ≤ a ∧ Hit1 text a ∧ (∀ j, p ≤ j → j < a → ¬ Hit1 text j) ∧ b = a + 1
theorem at1_all (text : Array Nat) : ∀ (k s : Nat) (o : Bool) (sn : Seen), s + k = text.size → ∃ r, Ends (20 + 10 * k) (at1 text s o sn) r ∧ Found1 text s r := by
  intro k s o sn hk
  -- the find does not hang on o or sn
  have main : ∃ r, (∀ o sn, Ends (20 + 10 * k) (at1 text s o sn) r) ∧ Found1 text s r := by
    clear o sn
    induction k generalizing s with
    | zero =>
      have e : s = text.size := by omega
      subst e
      exact ⟨none, fun o sn => at1_end text o sn, fun j hj hh => absurd hh.choose (by omega)⟩
    | succ k ih =>
      by_cases hm : Hit1 text s
      · exact ⟨some (s, s + 1), fun o sn => (at1_hit text s o sn hm).mono (by omega), Nat.le_refl _, hm, fun j h1 h2 => absurd h1 (by omega), rfl⟩
      · obtain ⟨r, h1, h2⟩ := ih (s + 1) (by omega)
        refine ⟨r, fun o sn => (at1_miss text s _ o sn r (by omega) hm (fun sn' => h1 false sn')).mono (by omega), ?_⟩
        cases r with
        | none => exact fun j hj => if q : j = s then by subst q; exact hm else h2 j (by omega)
        | some ab =>
          obtain ⟨a, b⟩ := ab
          obtain ⟨h3, h4, h5, h6⟩ := h2
          exact ⟨by omega, h4, fun j hj hj2 => if q : j = s then by subst q; exact hm else h5 j (by omega) hj2, h6⟩
  obtain ⟨r, h1, h2⟩ := main
  exact ⟨r, h1 o sn, h2⟩
theorem search1 (text : Array Nat) (p : Nat) (hp : p ≤ text.size) : ∃ r, Ends (20 + 10 * text.size) (forSearch code1 text 0 p text.size false) r ∧ Found1 text p r := by
  by_cases h0 : p = text.size
  · refine ⟨none, ?_, fun j hj hh => absurd hh.choose (by omega)⟩
    have e : forSearch code1 text 0 p text.size false = ({ code := code1, text := text, lim := text.size, start := p, pc := 5, pos := p, handed := p, marks := #[], seen := ({} : Seen).add 14, answer := some false } : M) := by
      unfold forSearch
      have h1 : text.size - p < 1 := by omega
      show (if (decide (p > text.size) || decide (text.size - p < 1)) = true then _ else _) = _
      rw [if_pos (by simp [h1])]
      rfl
    rw [e]
    refine Ends.mono (n := 1) (Ends.step rfl ?_) (by omega)
    exact Ends.done rfl
  · have h1 : ¬ (p > text.size ∨ text.size - p < 1) := by omega
    have e : forSearch code1 text 0 p text.size false = at1 text p true (({} : Seen).add 14) := by
      unfold forSearch
      show (if (decide (p > text.size) || decide (text.size - p < 1)) = true then _ else _) = _
      rw [if_neg (by simpa using h1)]
      show M.attemptFrom _ p true = _
      simp [M.attemptFrom, M.hasFirstSet, M.attemptAt, M.attempt, ops]
      rfl
    obtain ⟨r, h2, h3⟩ := at1_all text (text.size - p) p true (({} : Seen).add 14) (by omega)
    exact ⟨r, e ▸ h2.mono (by omega), h3⟩
end Mine
end
section
open PySem PySem.W PySem.Calls PyProof.Rows
open PySem.Builtin.Re
set_option Elab.async false
set_option maxRecDepth 100000
set_option linter.unusedSimpArgs false
set_option linter.unusedVariables false
namespace Mine
section
variable {M : Model} {A : Around} {E : Value → Shared → Prop} {s : Shared}

theorem re_drive {r : Option (Nat × Nat)} {Q : Sre.M → Shared → Prop} (hq : ∀ m', Stands m' r → Q m' s) : ∀ (turns n : Nat) (m : Sre.M), Ends n m r → n < 4 * turns → wpAny M A (reDrive turns m) Q E s
  | 0, n, m, _, h => absurd h (by omega)
  | turns + 1, n, m, he, h => by
    unfold reDrive
    have e4 : reTurnSteps = 4 := rfl
    rw [e4]
    show wpAny M A (if (m.runFor 4).outcome.isSome = true then pure (m.runFor 4) else do rule "sre.turn"; reDrive turns (m.runFor 4)) Q E s
    by_cases hs : (m.runFor 4).outcome.isSome = true
    · rw [if_pos hs]
      refine wpAny_pure (hq _ ?_)
      by_cases hn : n ≤ 4
      · exact he.mono hn
      · unfold Ends at he
        obtain ⟨d, rfl⟩ := Nat.le.dest (Nat.le_of_not_le hn)
        rw [runFor_add, runFor_some hs] at he
        exact he
    · rw [if_neg hs]
      have hn : 4 < n := by
        refine Nat.lt_of_not_le fun q => hs ?_
        exact (he.mono q).some
      refine wpAny_bind (wpAny_rule ?_)
      refine re_drive hq turns (n - 4) _ ?_ (by omega)
      unfold Ends at he ⊢
      obtain ⟨d, rfl⟩ := Nat.le.dest (Nat.le_of_lt hn)
      rw [runFor_add] at he
      rw [Nat.add_sub_cancel_left]
      exact he

theorem re_run {r : Option (Nat × Nat)} {n : Nat} {m : Sre.M} {Q : Option Sre.M → Shared → Prop} (he : Ends n m r) (hn : n < 2 ^ 60)
    (hq : match r with | none => Q none s | some (a, b) => ∀ m' : Sre.M, m'.start = a → m'.handed = b → Q (some m') s) : wpAny M A (reRunToEnd m) Q E s := by
  unfold reRunToEnd
  refine wpAny_bind (re_drive (fun m' hm => ?_) _ n m he (by omega))
  have hfor : ∀ l : List Nat, wpAny M A (forIn l PUnit.unit fun i (_ : PUnit) => if m'.seen.has i = true then (do rule (Sre.names.getD i ""); pure (ForInStep.yield PUnit.unit)) else pure (ForInStep.yield PUnit.unit)) (fun _ s' => s' = s) E s := by
    intro l
    refine wpAny_forIn_list _ (fun _ _ s' => s' = s) (fun _ s' => s' = s) ?_ (fun _ _ h => h) _ _ rfl
    rintro i rest b s' rfl
    split
    · exact wpAny_bind (wpAny_rule (wpAny_pure rfl))
    · exact wpAny_pure rfl
  refine wpAny_bind (wpAny_mono (hfor _) ?_ fun _ _ x => x)
  · rintro _ s' rfl
    unfold Stands at hm
    cases r with
    | none => 
      dsimp only at hm hq
      rw [hm]
      exact wpAny_pure hq
    | some ab =>
      obtain ⟨a, b⟩ := ab
      dsimp only at hm hq
      rw [hm.1]
      exact wpAny_pure (hq m' hm.2.1 hm.2.2)

/-- a compiled pattern of texts, without groups -/
structure PatAt (h : Heap) (a : Addr) (code : Array Nat) : Prop where
  ex : ∃ o vs c oc items n, h.get? a = some o ∧ o.cls = .type "re.Pattern" ∧ o.dict = none ∧ o.data = .fields vs ∧ vs.getD 6 .none = .int 0 0 ∧ vs.getD 2 .none = .int 0 0 ∧ vs.getD 5 .none = .ref c ∧
    h.get? c = some oc ∧ oc.data = .seq items n ∧ (items.map reRawOf).map (·.toNat) = code
theorem PatAt.keeps {h h' : Heap} {a : Addr} {code : Array Nat} (P : PatAt h a code) (hk : ∀ b o, h.get? b = some o → h'.get? b = some o) : PatAt h' a code := by
  obtain ⟨o, vs, c, oc, items, n, h1, h2, h3, h4, h5, h6, h7, h8, h9⟩ := P.ex
  exact ⟨o, vs, c, oc, items, n, hk _ _ h1, h2, h3, h4, h5, h6, h7, hk _ _ h8, h9⟩

theorem re_target {a : Addr} {code : Array Nat} {x : Str} {t : Tok} {Q : ReTarget → Shared → Prop} (P : PatAt s.heap a code)
    (hq : Q { pattern := .ref a, string := .str x t, code := code, text := x.cps, kind := 0, groups := 0, pos := 0, lim := x.cps.size } s) : wpAny M A (reWholeTarget (.ref a) (.str x t)) Q E s := by
  obtain ⟨o, vs, c, oc, items, n, h1, h2, h3, h4, h5, h6, h7, h8, h9, h10⟩ := P.ex
  unfold reWholeTarget
  refine wpAny_bind (wpAny_fieldsOf h1 h4 ?_)
  have e1 : reTextOf (.str x t) = pure (x.cps, 0) := rfl
  rw [e1]
  refine wpAny_bind (wpAny_pure ?_)
  dsimp only
  rw [h5, h6, h7]
  have e2 : reRawNat (.int 0 0) = 0 := rfl
  rw [e2]
  have e3 : reNoCollectionInside (.str x t) 0 = pure () := rfl
  rw [e3]
  refine wpAny_bind (wpAny_pure ?_)
  have e4 : wpAny M A (reRawItems (.ref c)) (fun v s' => v = items.map reRawOf ∧ s' = s) E s := by
    unfold reRawItems
    refine wpAny_bind (wpAny_seqItems h8 h9 ?_)
    exact wpAny_pure ⟨rfl, rfl⟩
  refine wpAny_bind (wpAny_mono e4 ?_ fun _ _ x => x)
  rintro _ s' ⟨rfl, rfl⟩
  rw [h10]
  exact wpAny_pure hq
end
end Mine
end
section
open PySem PySem.W PySem.Calls PyProof.Rows
open PySem.Builtin.Re
set_option Elab.async false
set_option maxRecDepth 100000
set_option linter.unusedSimpArgs false
set_option linter.unusedVariables false
namespace Mine

noncomputable def flat (ys : List Str) : List Nat := ys.flatMap (·.cps.toList)
theorem join_nil (e : Str) (he : e.cps = #[]) : ∀ ys : List Str, (Str.join e ys).cps.toList = flat ys
  | [] => rfl
  | [y] => by simp [Str.join, flat]
  | y :: z :: r => by
    have ih := join_nil e he (z :: r)
    show (y ++ e ++ Str.join e (z :: r)).cps.toList = _
    rw [Str.cps_append, Str.cps_append, Array.toList_append, Array.toList_append, ih, he]
    simp [flat]
theorem txt_join_nil (e : Str) (he : e.cps = #[]) (ys : List Str) : (Txt.join e ys).cps.toList = flat ys := by
  unfold Txt.join
  rw [StrLaws.glued_eq_join, join_nil e he]
theorem strsAre_push {its : Array Value} {ys : List Str} (h : StrsAre its.toList ys) (y : Str) (t : Tok) : StrsAre (its.push (.str y t)).toList (ys ++ [y]) := by
  rw [Array.toList_push]
  have : ∀ {vs : List Value} {ys : List Str}, StrsAre vs ys → StrsAre (vs ++ [.str y t]) (ys ++ [y]) := by
    intro vs ys h
    induction h with
    | nil => exact .cons y t .nil
    | cons y' t' _ ih => exact .cons y' t' ih
  exact this h
theorem strsAre_length {vs : List Value} {ys : List Str} (h : StrsAre vs ys) : vs.length = ys.length := by
  induction h with
  | nil => rfl
  | cons y t _ ih => simp [ih]
theorem flat_push (ys : List Str) (y : Str) : flat (ys ++ [y]) = flat ys ++ y.cps.toList := by simp [flat]
theorem flat_length (ys : List Str) : (ys.map (·.length)).sum = (flat ys).length := by
  induction ys with
  | nil => rfl
  | cons y r ih => simp [flat, Str.length] at ih ⊢

section
variable {prog : Program} {w : World} {A : Around} {E : Value → Shared → Prop} {s : Shared} {h₀ : Heap} {L D : Addr} {m : Str → Option Value} {news : List (Addr × Obj)}

theorem code_entry {id : String} {args : Args} {b : Builtin} {R : Result → Shared → Prop} (hq : plainId id = true) (hb : entryFor table id = some b)
    (h : wpAny (model prog w) A.in1 (b args) (fun fin s' => match fin with | .done f => R (.ok f) s' | .again c' => c'.quiet = true ∧ codeAny (model prog w) A c' R s') (fun e s' => R (.error e) s') s) :
    codeAny (model prog w) A (.builtin id args) R s := by
  refine codeAny_of_tree ?_
  rw [Around.under_plainId hq]
  show wpAny _ _ (match entryFor table id with | some b => b args | none => unsupported ((withoutEnding? id "#data").getD id)) _ _ s
  rw [hb]
  exact h

theorem re_push {M : Model} {its : Array Value} {n : Nat} {v : Value} {Q : Unit → Shared → Prop} (F : Fr h₀ L s.heap m) (N : News h₀ L s.heap ((D, listOf its n) :: news)) (hD : ∀ p ∈ news, p.1 ≠ D) (hz : its.size + 1 ≤ sizeLine)
    (h : ∀ h', Fr h₀ L h' m → News h₀ L h' ((D, listOf (its.push v) (n + 1)) :: news) → Q () { s with heap := h' }) : wpAny M A (updateSeq D (·.push v)) Q E s := by
  have z := N (D, listOf its n) (.head _)
  refine wpAny_updateSeq z.1 rfl (h _ (F.change (Heap.SameBut.update ..) z.2.1 z.2.2) ?_) (by omega) (by simpa using (by omega : its.size ≤ sizeLine))
  exact kl_turn (pre := []) (post := news) (fun x => x.push v) N (fun _ hp => nomatch hp) hD rfl (by simp)

theorem re_slice {M : Model} {text : Array Nat} {b e : Nat} {Q : Value → Shared → Prop} (hz : text.size ≤ sizeLine) (h : Q (.str ⟨text.extract b e⟩ s.toks) { s with toks := s.toks + 1 }) : wpAny M A (reSlice text 0 b e) Q E s := by
  unfold reSlice
  rw [if_pos (by rfl)]
  refine wpAny_mkStr h ?_
  show (text.extract b e).size ≤ sizeLine
  rw [Array.size_extract]
  omega

/-- the loop of sub, from a state of its own to its end -/
theorem re_loop {a : Addr} {code : Array Nat} {x repl : Str} {tx tr : Tok} {R : Result → Shared → Prop} {Fd : Nat → Option (Nat × Nat) → Prop} {G : Nat → List Nat}
    (P : PatAt h₀ a code) (hx : x.cps.size ≤ 1048576) (hr : repl.cps.size ≤ 2) (hD : ∀ p ∈ news, p.1 ≠ D)
    (srch : ∀ p, p ≤ x.cps.size → ∃ n r, n < 2 ^ 60 ∧ Ends n (Sre.forSearch code x.cps 0 p x.cps.size false) r ∧ Fd p r)
    (hFd : ∀ p a b, Fd p (some (a, b)) → p ≤ a ∧ a < b ∧ b ≤ x.cps.size)
    (hG0 : ∀ p, p ≤ x.cps.size → Fd p none → G p = x.cps.toList.drop p)
    (hG1 : ∀ p a b, p ≤ x.cps.size → Fd p (some (a, b)) → G p = (x.cps.toList.drop p).take (a - p) ++ repl.cps.toList ++ G b) :
    ∀ (k p : Nat) (cnt : Int) (its : Array Value) (n : Nat) (ys : List Str) (s : Shared), x.cps.size - p ≤ k → p ≤ x.cps.size → Fr h₀ L s.heap m → News h₀ L s.heap ((D, listOf its n) :: news) → StrsAre its.toList ys →
      its.size ≤ 2 * p → (flat ys).length ≤ 3 * p →
      (∀ t' h' k' (z : Str), z.cps.toList = flat ys ++ G p → Fr h₀ L h' m → News h₀ L h' news → R (.ok (.ret (.str z t'))) { s with heap := h', toks := k' }) →
      codeAny (model prog w) A (.builtin "re.Pattern.sub.loop" ⟨[.ref a, .str x tx, .str repl tr, rawInt 0, rawInt 0, rawInt cnt, rawInt p, rawInt p, .bool false, .ref D, .bool false], []⟩) R s := by
  have hline : sizeLine = 16777216 := rfl
  intro k
  induction k using Nat.strongRecOn with
  | ind k ih =>
    intro p cnt its n ys s hk hp F N hS hn hl hR
    have hsz : its.size = ys.length := by have := strsAre_length hS; simpa using this
    refine code_entry (by decide +kernel) re_entry2 ?_
    unfold Builtin.«re.Pattern.sub.loop»
    dsimp only [rawInt]
    refine wpAny_bind (re_target (P.keeps F.keep) ?_)
    have e1 : reLiteralCannotBeTurned (.str repl tr) = pure () := rfl
    simp only [e1, beq_self_eq_true, if_true]
    refine wpAny_bind (wpAny_pure ?_)
    obtain ⟨ns, r, hns, he, hf⟩ := srch p hp
    have e2 : ((0 : Int) != 0 && decide (cnt ≥ 0)) = false := rfl
    refine wpAny_bind ?_
    show wpAny (model prog w) A.in1 (reNextFound _ _ _) _ _ s
    refine re_run (r := r) he hns ?_
    cases r with
    | none =>
      dsimp only
      have hG := hG0 p hp hf
      have fin : ∀ (its' : Array Value) (n' : Nat) (ys' : List Str) (s' : Shared) (h₁ : Heap) (k₁ : Nat), s' = { s with heap := h₁, toks := k₁ } → Fr h₀ L s'.heap m → News h₀ L s'.heap ((D, listOf its' n') :: news) → StrsAre its'.toList ys' →
          its'.size ≤ 2 * p + 1 → flat ys' = flat ys ++ G p → 
          wpAny (model prog w) A.in1 (do
            let joiner ← reSlice x.cps 0 0 0
            let l ← seqItems? (.ref D)
            if (l.getD #[]).isEmpty = true then do
              let text ← pure joiner
              if false = true then do
                let v ← holding [text] do
                  let k ← mkInt cnt
                  newTuple [text, k]
                ret v
              else ret text
            else do
              let text ← PySem.call (.builtin "str.join") [joiner, .ref D]
              if false = true then do
                let v ← holding [text] do
                  let k ← mkInt cnt
                  newTuple [text, k]
                ret v
              else ret text)
            (fun fin s' => match fin with | .done f => R (.ok f) s' | .again c' => c'.quiet = true ∧ codeAny (model prog w) A c' R s') (fun e s' => R (.error e) s') s' := by
        rintro its' n' ys' s' h₁ k₁ rfl F' N' hS' hn' hfl
        have hsz' : its'.size = ys'.length := by have := strsAre_length hS'; simpa using this
        refine wpAny_bind (re_slice (by omega) ?_)
        have z := N' (D, listOf its' n') (.head _)
        refine wpAny_bind (wpAny_seqItems z.1 rfl ?_)
        have hGl : (G p).length ≤ x.cps.size := by rw [hG]; simp
        by_cases hem : its'.isEmpty = true
        · rw [show (some its').getD #[] = its' from rfl, if_pos hem]
          refine wpAny_bind (wpAny_pure ?_)
          simp only [Bool.false_eq_true, if_false]
          refine wpAny_pure ?_
          refine hR _ _ _ _ ?_ F' fun q hq => N' q (.tail _ hq)
          have : ys' = [] := by
            have h0 : its'.size = 0 := by simpa [Array.isEmpty] using hem
            exact List.eq_nil_of_length_eq_zero (by omega)
          rw [← hfl, this]
          simp [flat]
        · rw [show (some its').getD #[] = its' from rfl, if_neg hem]
          refine wpAny_bind ?_
          refine join_list (D := D) (items := its') (ys := ys') ⟨_, z.1, rfl, n', rfl⟩ hS' ?_ ?_
          · rw [flat_length, hfl, List.length_append]
            have : (⟨x.cps.extract 0 0⟩ : Str).length = 0 := by simp [Str.length]
            rw [this]
            omega
          · intro t' k'
            simp only [Bool.false_eq_true, if_false]
            refine wpAny_pure ?_
            exact hR _ _ _ _ (by rw [txt_join_nil _ (by simp), hfl]) F' fun q hq => N' q (.tail _ hq)
      simp only [Int.toNat_natCast]
      have hsub : x.cps.size - p ≤ x.cps.size := Nat.sub_le _ _
      by_cases hlt : p < x.cps.size
      · rw [if_pos hlt]
        refine wpAny_bind (re_slice (by omega) ?_)
        refine wpAny_bind (re_push F N hD (by omega) fun h' F' N' => ?_)
        refine fin _ _ _ _ h' _ rfl F' N' (strsAre_push hS _ _) (by simp; omega) ?_
        rw [flat_push, hG]
        congr 1
        simp
        exact List.take_of_length_le (by simp)
      · rw [if_neg hlt]
        refine fin its n ys s s.heap s.toks rfl F N hS (by omega) ?_
        rw [hG, List.drop_of_length_le (by simp; omega), List.append_nil]
    | some ab =>
      obtain ⟨b, e⟩ := ab
      obtain ⟨h1, h2, h3⟩ := hFd p b e hf
      have hG := hG1 p b e hp hf
      dsimp only
      intro m' hm1 hm2
      rw [hm1, hm2]
      simp only [Int.toNat_natCast]
      have hne : (e == b) = false := beq_eq_false_iff_ne.mpr (by omega)
      have hnn : (Value.str repl tr != Value.none) = true := rfl
      have fin : ∀ (its' : Array Value) (n' : Nat) (ys' : List Str) (s' : Shared) (h₁ : Heap) (k₁ : Nat), s' = { s with heap := h₁, toks := k₁ } → Fr h₀ L s'.heap m → News h₀ L s'.heap ((D, listOf its' n') :: news) → StrsAre its'.toList ys' →
          its'.size ≤ 2 * p + 1 → flat ys' = flat ys ++ (x.cps.toList.drop p).take (b - p) →
          wpAny (model prog w) A.in1 (do
            let item ← pure (Value.str repl tr)
            if (item != Value.none) = true then do
              updateSeq D fun x => x.push item
              again (Code.builtin "re.Pattern.sub.loop" { pos := [Value.ref a, Value.str x tx, Value.str repl tr, Value.int 0 0, Value.int 0 0, Value.int (cnt + 1) 0, Value.int (e : Int) 0, Value.int (e : Int) 0, Value.bool (e == b), Value.ref D, Value.bool false] })
            else again (Code.builtin "re.Pattern.sub.loop" { pos := [Value.ref a, Value.str x tx, Value.str repl tr, Value.int 0 0, Value.int 0 0, Value.int (cnt + 1) 0, Value.int (e : Int) 0, Value.int (e : Int) 0, Value.bool (e == b), Value.ref D, Value.bool false] }))
            (fun fin s' => match fin with | .done f => R (.ok f) s' | .again c' => c'.quiet = true ∧ codeAny (model prog w) A c' R s') (fun e s' => R (.error e) s') s' := by
        rintro its' n' ys' s' h₁ k₁ rfl F' N' hS' hn' hfl
        have hsz' : its'.size = ys'.length := by have := strsAre_length hS'; simpa using this
        refine wpAny_bind (wpAny_pure ?_)
        rw [if_pos hnn]
        refine wpAny_bind (re_push F' N' hD (by omega) fun h' F'' N'' => ?_)
        refine wpAny_pure ⟨plainId_quiet (by decide +kernel) _, ?_⟩
        rw [hne]
        refine ih (x.cps.size - e) (by omega) e (cnt + 1) _ _ _ _ (Nat.le_refl _) h3 F'' N'' (strsAre_push hS' _ _) (by simp; omega) ?_ ?_
        · rw [flat_push, hfl]
          simp only [List.length_append, List.length_take, List.length_drop, Array.length_toList]
          omega
        · intro t' h' k' z hz F3 N3
          refine hR t' h' k' z ?_ F3 N3
          rw [hz, flat_push, hfl, hG]
          simp only [List.append_assoc]
      by_cases hlt : p < b
      · rw [if_pos hlt]
        refine wpAny_bind (re_slice (by omega) ?_)
        refine wpAny_bind (re_push F N hD (by omega) fun h' F' N' => ?_)
        refine fin _ _ _ _ h' _ rfl F' N' (strsAre_push hS _ _) (by simp; omega) ?_
        rw [flat_push]
        congr 1
        simp [List.take_drop]
      · rw [if_neg hlt]
        refine fin its n ys s s.heap s.toks rfl F N hS (by omega) ?_
        rw [show b - p = 0 by omega]
        simp

theorem str_no_call : typeLookup (.type "str") "__call__" = pure none := by rw [typeLookup_type, builtinLookup_eq_fast]; kernel_rfl
theorem re_named (v1 v2 : Value) : reNamed "re.Pattern.sub" "sub" ["repl", "string", "count"] 2 [v1, v2] [] = pure [some v1, some v2, none] := rfl

theorem re_sub {a : Addr} {code : Array Nat} {x repl : Str} {tx tr : Tok} {Q : Value → Shared → Prop} {Fd : Nat → Option (Nat × Nat) → Prop} {G : Nat → List Nat}
    (P : PatAt h₀ a code) (F : Fr h₀ L s.heap m) (N : News h₀ L s.heap news) (hx : x.cps.size ≤ 1048576) (hr : repl.cps.size ≤ 2) (hb : repl.cps.contains 92 = false)
    (srch : ∀ p, p ≤ x.cps.size → ∃ n r, n < 2 ^ 60 ∧ Ends n (Sre.forSearch code x.cps 0 p x.cps.size false) r ∧ Fd p r)
    (hFd : ∀ p a b, Fd p (some (a, b)) → p ≤ a ∧ a < b ∧ b ≤ x.cps.size)
    (hG0 : ∀ p, p ≤ x.cps.size → Fd p none → G p = x.cps.toList.drop p)
    (hG1 : ∀ p a b, p ≤ x.cps.size → Fd p (some (a, b)) → G p = (x.cps.toList.drop p).take (a - p) ++ repl.cps.toList ++ G b)
    (hQ : ∀ t' h' k' (z : Str), z.cps.toList = G 0 → Fr h₀ L h' m → News h₀ L h' news → Q (.str z t') { s with heap := h', toks := k' }) :
    wpAny (model prog w) A (PySem.call (.builtin "re.Pattern.sub") [.ref a, .str repl tr, .str x tx]) Q E s := by
  have P' := P.keeps F.keep
  obtain ⟨o, vs, c, oc, items, n, h1, h2, _⟩ := P'.ex
  refine wpAny_call (codeAny_call_builtin re_slot.plain re_entry (re_slot.check _ _ _ _ _ _ _ _ ⟨o, h1, h2⟩ (re_args _ _ _) ?_))
  show wpAny (model prog w) A.in1 (reSubstitute "re.Pattern.sub" "sub" false ⟨[.ref a, .str repl tr, .str x tx], []⟩) _ _ s
  unfold reSubstitute
  dsimp only
  rw [re_named]
  refine wpAny_bind (wpAny_pure ?_)
  dsimp only
  refine wpAny_bind (wpAny_pure ?_)
  refine wpAny_bind (wpAny_specialOf (typeIs_str _ _ _) str_no_call ?_)
  have e1 : asStr? (.str repl tr) = pure (some repl) := rfl
  simp only [Option.isSome_none, Bool.false_eq_true, if_false, e1, pure_bind, hb, Bool.not_false, if_true]
  refine wpAny_bind (wpAny_holding (re_target P' ?_))
  rw [if_neg (by decide)]
  refine wpAny_bind (newList_K F N (fun l h' F' N' hl => ?_) (by decide))
  refine wpAny_pure ⟨plainId_quiet (by decide +kernel) _, ?_⟩
  refine re_loop (D := l) (news := news) (G := G) P hx hr (fun p hp => Nat.ne_of_lt (hl p hp)) srch hFd hG0 hG1 x.cps.size 0 0 #[] 0 [] _ (Nat.le_refl _) (Nat.zero_le _) F' N' .nil (by simp) (by simp [flat]) ?_
  intro t' h2 k' z hz F2 N2
  exact hQ t' h2 k' z (by simpa [flat] using hz) F2 N2
end
end Mine
end
section
open PySem PySem.W PySem.Calls PyProof.Rows
set_option Elab.async false
set_option maxRecDepth 100000
set_option linter.unusedSimpArgs false
set_option linter.unusedVariables false
namespace Mine
/-- each end of a row becomes a return and a feed; b: the sign before was a return -/
noncomputable def crlfA : Bool → List Nat → List Nat
  | _, [] => []
  | b, k :: r => if k = 13 then 13 :: 10 :: crlfA true r else if k = 10 then (if b then crlfA false r else 13 :: 10 :: crlfA false r) else k :: crlfA false r
/-- a dot at a row's head twice; b: a row begins here -/
noncomputable def dotsA : Bool → List Nat → List Nat
  | _, [] => []
  | b, k :: r => if b = true ∧ k = 46 then 46 :: 46 :: dotsA false r else k :: dotsA (decide (k = 10)) r
noncomputable def quote (l : List Nat) : List Nat := dotsA true (crlfA false l)

theorem crlfA_free : ∀ (l : List Nat), (∀ k ∈ l, k ≠ 10 ∧ k ≠ 13) → ∀ r, crlfA false (l ++ r) = l ++ crlfA false r
  | [], _, _ => rfl
  | k :: l, h, r => by
    have h1 := h k (.head _)
    show (if k = 13 then _ else if k = 10 then _ else k :: crlfA false (l ++ r)) = _
    rw [if_neg h1.2, if_neg h1.1, crlfA_free l (fun j hj => h j (.tail _ hj)) r]
    rfl
theorem crlfA_true : ∀ (l : List Nat), l.head? ≠ some 10 → crlfA true l = crlfA false l
  | [], _ => rfl
  | k :: l, h => by
    have h1 : k ≠ 10 := fun q => h (by rw [q]; rfl)
    unfold crlfA
    rw [if_neg h1, if_neg h1]

theorem drop_split (l : List Nat) {p a : Nat} (h : p ≤ a) (ha : a < l.length) : l.drop p = (l.drop p).take (a - p) ++ l[a] :: l.drop (a + 1) := by
  have h1 : l.drop p = (l.drop p).take (a - p) ++ (l.drop p).drop (a - p) := (List.take_append_drop _ _).symm
  rw [List.drop_drop, show p + (a - p) = a by omega, List.drop_eq_getElem_cons ha] at h1
  exact h1
theorem mem_take_drop {l : List Nat} {p a k : Nat} (h : k ∈ (l.drop p).take (a - p)) : ∃ j, ∃ hj : j < l.length, p ≤ j ∧ j < a ∧ l[j] = k := by
  obtain ⟨i, hi, e⟩ := List.getElem_of_mem h
  simp at hi e
  exact ⟨p + i, by omega, by omega, by omega, e⟩

theorem found2_none {x : Array Nat} {p : Nat} (h : Found2 x p none) : crlfA false (x.toList.drop p) = x.toList.drop p := by
  have := crlfA_free (x.toList.drop p) (fun k hk => by
    obtain ⟨i, hi, e⟩ := List.getElem_of_mem hk
    simp at hi e
    have := h (p + i) (by omega) (by omega)
    rw [← e]
    exact this) []
  simpa [crlfA] using this
theorem found2_some {x : Array Nat} {p a b : Nat} (h : Found2 x p (some (a, b))) : crlfA false (x.toList.drop p) = (x.toList.drop p).take (a - p) ++ [13, 10] ++ crlfA false (x.toList.drop b) := by
  obtain ⟨ha, h1, h2, h3⟩ := h
  have hal : a < x.toList.length := by simpa using ha
  have e := drop_split x.toList h1 hal
  have hfree : ∀ k ∈ (x.toList.drop p).take (a - p), k ≠ 10 ∧ k ≠ 13 := by
    intro k hk
    obtain ⟨j, hj, q1, q2, q3⟩ := mem_take_drop hk
    have := h2 j (by simpa using hj) q1 q2
    rw [← q3]
    simpa using this
  conv => lhs; rw [e, crlfA_free _ hfree]
  rw [List.append_assoc]
  congr 1
  have ea : x.toList[a] = x[a] := by simp
  rw [ea]
  rcases h3 with ⟨q, rfl⟩ | ⟨q, ⟨h4, h5⟩, rfl⟩ | ⟨q, h5, rfl⟩
  · rw [q]; rfl
  · rw [q]
    have h4' : a + 1 < x.toList.length := by simpa using h4
    rw [List.drop_eq_getElem_cons h4']
    have : x.toList[a + 1] = 10 := by simpa using h5
    rw [this]
    rfl
  · rw [q]
    show 13 :: 10 :: crlfA true (x.toList.drop (a + 1)) = _
    rw [crlfA_true]
    · rfl
    · intro q2
      by_cases h6 : a + 1 < x.size
      · have h6' : a + 1 < x.toList.length := by simpa using h6
        rw [List.drop_eq_getElem_cons h6'] at q2
        have := h5 h6
        simp at q2
        exact this q2
      · rw [List.drop_of_length_le (by simp; omega)] at q2
        cases q2

noncomputable def atHead (x : Array Nat) (p : Nat) : Bool := p == 0 || x[p - 1]?.getD 0 == 10
theorem dotsA_free (x : Array Nat) : ∀ (n p : Nat), p + n ≤ x.size → (∀ j, p ≤ j → j < p + n → ¬ Hit1 x j) →
    dotsA (atHead x p) (x.toList.drop p) = (x.toList.drop p).take n ++ dotsA (atHead x (p + n)) (x.toList.drop (p + n))
  | 0, p, _, _ => by simp
  | n + 1, p, h, hm => by
    have hp : p < x.toList.length := by simp; omega
    have ih := dotsA_free x n (p + 1) (by omega) (fun j h1 h2 => hm j (by omega) (by omega))
    have hp' : p < x.size := by omega
    have h0 : ¬ (atHead x p = true ∧ x.toList[p] = 46) := fun q => hm p (Nat.le_refl _) (by omega) ⟨hp', by simpa [atHead] using q.1, by simpa using q.2⟩
    rw [List.drop_eq_getElem_cons hp]
    show (if atHead x p = true ∧ x.toList[p] = 46 then _ else x.toList[p] :: dotsA (decide (x.toList[p] = 10)) (x.toList.drop (p + 1))) = _
    rw [if_neg h0]
    have eh : decide (x.toList[p] = 10) = atHead x (p + 1) := by
      unfold atHead
      simp [hp']
      rfl
    rw [eh, ih, List.take_succ_cons, List.cons_append, show p + 1 + n = p + (n + 1) by omega]
theorem found1_none {x : Array Nat} {p : Nat} (hp : p ≤ x.size) (h : Found1 x p none) : dotsA (atHead x p) (x.toList.drop p) = x.toList.drop p := by
  have := dotsA_free x (x.size - p) p (by omega) (fun j h1 _ => h j h1)
  rw [show p + (x.size - p) = x.size by omega, List.drop_of_length_le (i := x.size) (by simp)] at this
  rw [this]
  show List.take _ _ ++ [] = _
  rw [List.append_nil]
  exact List.take_of_length_le (by simp)
theorem found1_some {x : Array Nat} {p a b : Nat} (h : Found1 x p (some (a, b))) : dotsA (atHead x p) (x.toList.drop p) = (x.toList.drop p).take (a - p) ++ [46, 46] ++ dotsA (atHead x b) (x.toList.drop b) := by
  obtain ⟨h1, ⟨h2, h3, h4⟩, h5, rfl⟩ := h
  have e := dotsA_free x (a - p) p (by omega) (fun j q1 q2 => h5 j q1 (by omega))
  rw [show p + (a - p) = a by omega] at e
  rw [e, List.append_assoc]
  congr 1
  have hal : a < x.toList.length := by simpa using h2
  rw [List.drop_eq_getElem_cons hal]
  have e1 : atHead x a = true := by simpa [atHead] using h3
  have e2 : x.toList[a] = 46 := by simpa using h4
  show (if atHead x a = true ∧ x.toList[a] = 46 then _ else _) = _
  rw [if_pos ⟨e1, e2⟩]
  have e3 : atHead x (a + 1) = false := by
    unfold atHead
    simp [h2, h4]
  rw [e3]
  rfl
end Mine
end
section
open PySem PySem.W PySem.Calls PyProof.Rows
set_option Elab.async false
set_option maxRecDepth 100000
namespace Mine

/-- a call of the def at f, from any frame, with any ledger: what it gives back -/
noncomputable def Gives (w : World) (mean : ExcName → Option Value) (mg mb : Str → Option Value) (f : Addr) (vs : List Value) (news : List (Addr × Obj))
    (dn uk : Nat) (Post : Value → List (Addr × Obj) → Prop) : Prop :=
  ∀ (dp un : Nat) (gd : Option (List Code)) (cn : Str) (cs : Scope) (a : Addr) (ccd : Value) (cl : List (Str × Addr)) (outer : List Env) (A₀ : Around) (base h₀ : Heap) (L : Addr) (m : Str → Option Value)
    (s : Shared) (Q E : Value → Shared → Prop),
    Below A₀ base outer h₀ → Fr h₀ L s.heap m → (Mine.hk.heap_1 w.params).In h₀ → News h₀ L s.heap news →
    Top Mine.vw (looseW Mine.vw [Str.ofString "EXACT_TOKEN_TYPES", Str.ofString "_twin_re_1", Str.ofString "_twin_re_2"]) mean mg mb h₀ → cs.kind = .function →
    dp + dn < recursionLimit → un + uk < cLine →
    (∀ r h' tk' own, Fr h₀ L h' m → News h₀ L h' (own ++ news) → (∀ q ∈ news, ∀ p ∈ own, q.1 < p.1) → Post r own → Q r { s with heap := h', toks := tk' }) →
    wpAny (model Challenge.rw_st0020_01.row.prog w) (ktrTop dp un gd cn cs L a ccd cl outer) (call (.ref f) vs) Q E s

section
variable {prog : Program} {w : World} {A : Around} {E : Value → Shared → Prop} {s : Shared} {h₀ : Heap} {L : Addr} {m : Str → Option Value} {news : List (Addr × Obj)}
theorem gen_toks {M : Model} {α : Type} {t : Sem α} {Q : α → Shared → Prop} {h : Heap} {g : Array GenState} {d : Drawn} {k : Nat} {o : OsState} (hk : 0 < k) (H : ∀ tk, 0 < tk → wpAny M A t Q E ⟨h, g, d, tk, o⟩) : wpAny M A t Q E ⟨h, g, d, k, o⟩ := H k hk

theorem crlfA_len : ∀ (b : Bool) (l : List Nat), (crlfA b l).length ≤ 2 * l.length
  | _, [] => by simp [crlfA]
  | b, k :: r => by
    have h1 := crlfA_len true r
    have h2 := crlfA_len false r
    unfold crlfA
    (repeat' split) <;> simp only [List.length_cons] <;> omega
theorem dotsA_len : ∀ (b : Bool) (l : List Nat), (dotsA b l).length ≤ 2 * l.length
  | _, [] => by simp [dotsA]
  | b, k :: r => by
    have h1 := dotsA_len (decide (k = 10)) r
    have h2 := dotsA_len false r
    unfold dotsA
    split <;> simp only [List.length_cons] <;> omega
/-! the two patterns of the text -/
theorem pat1 {h : Heap} (X : (Mine.hk.heap_1 w.params).In h) : PatAt h 60 code1 := ⟨⟨_, _, 59, _, _, _, X 60 _ rfl, rfl, rfl, rfl, rfl, rfl, rfl, X 59 _ rfl, rfl, by simp [Builtin.Re.reRawOf]⟩⟩
theorem pat2 {h : Heap} (X : (Mine.hk.heap_1 w.params).In h) : PatAt h 65 code2 := ⟨⟨_, _, 64, _, _, _, X 65 _ rfl, rfl, rfl, rfl, rfl, rfl, rfl, X 64 _ rfl, rfl, by simp [Builtin.Re.reRawOf]⟩⟩
theorem re_method {M : Model} {a : Addr} {code : Array Nat} {pl : Sem Bool} {Q : Value × List Value → Shared → Prop} (P : PatAt s.heap a code) (h : Q (.builtin "re.Pattern.sub", [.ref a]) s) : wpAny M A (getMethod (.ref a) "sub" pl) Q E s := by
  obtain ⟨o, vs, c, oc, items, n, h1, h2, h3, _⟩ := P.ex
  exact getMethod_builtin ⟨o, h1, h2⟩ re_attrs re_slot re_type (fun b e => by cases e; exact ⟨o, h1, h3⟩) h
theorem re_method1 {M : Model} {pl : Sem Bool} {Q : Value × List Value → Shared → Prop} (X : (Mine.hk.heap_1 w.params).In s.heap) (h : Q (.builtin "re.Pattern.sub", [.ref 60]) s) : wpAny M A (getMethod (.ref 60) "sub" pl) Q E s := re_method (pat1 X) h
theorem re_method2 {M : Model} {pl : Sem Bool} {Q : Value × List Value → Shared → Prop} (X : (Mine.hk.heap_1 w.params).In s.heap) (h : Q (.builtin "re.Pattern.sub", [.ref 65]) s) : wpAny M A (getMethod (.ref 65) "sub" pl) Q E s := re_method (pat2 X) h

theorem re_sub1 {x : Str} {tx tr : Tok} {Q : Value → Shared → Prop} (F : Fr h₀ L s.heap m) (X : (Mine.hk.heap_1 w.params).In h₀) (N : News h₀ L s.heap news) (hx : x.cps.size ≤ 1048576)
    (hQ : ∀ t' h' k' (z : Str), z.cps.toList = dotsA true x.cps.toList → z.cps.size ≤ 2 * x.cps.size → Fr h₀ L h' m → News h₀ L h' news → Q (.str z t') { s with heap := h', toks := k' }) :
    wpAny (model prog w) A (PySem.call (.builtin "re.Pattern.sub") [.ref 60, .str (Str.ofString "..") tr, .str x tx]) Q E s := by
  refine re_sub (G := fun p => dotsA (atHead x.cps p) (x.cps.toList.drop p)) (Fd := Found1 x.cps) (pat1 X) F N hx (by decide) (by decide +kernel) ?_ ?_ ?_ ?_ (fun t' h' k' z hz => hQ t' h' k' z hz (by have h1 := dotsA_len true x.cps.toList; have h2 : z.cps.toList = dotsA true x.cps.toList := hz; rw [← h2] at h1; simpa using h1))
  · intro p hp
    obtain ⟨r, h1, h2⟩ := search1 x.cps p hp
    exact ⟨_, r, by omega, h1, h2⟩
  · rintro p a b ⟨h1, ⟨h2, _⟩, _, rfl⟩
    omega
  · exact fun p hp h => found1_none hp h
  · exact fun p a b hp h => found1_some h
theorem re_sub2 {x : Str} {tx tr : Tok} {Q : Value → Shared → Prop} (F : Fr h₀ L s.heap m) (X : (Mine.hk.heap_1 w.params).In h₀) (N : News h₀ L s.heap news) (hx : x.cps.size ≤ 1048576)
    (hQ : ∀ t' h' k' (z : Str), z.cps.toList = crlfA false x.cps.toList → z.cps.size ≤ 2 * x.cps.size → Fr h₀ L h' m → News h₀ L h' news → Q (.str z t') { s with heap := h', toks := k' }) :
    wpAny (model prog w) A (PySem.call (.builtin "re.Pattern.sub") [.ref 65, .str (Str.ofString "\r\n") tr, .str x tx]) Q E s := by
  refine re_sub (G := fun p => crlfA false (x.cps.toList.drop p)) (Fd := Found2 x.cps) (pat2 X) F N hx (by decide) (by decide +kernel) ?_ ?_ ?_ ?_ (fun t' h' k' z hz => hQ t' h' k' z hz (by have h1 := crlfA_len false x.cps.toList; have h2 : z.cps.toList = crlfA false x.cps.toList := hz; rw [← h2] at h1; simpa using h1))
  · intro p hp
    obtain ⟨r, h1, h2⟩ := search2 x.cps p hp
    exact ⟨_, r, by omega, h1, h2⟩
  · rintro p a b ⟨h1, h2, h3, h4⟩
    rcases h4 with ⟨_, rfl⟩ | ⟨_, ⟨q, _⟩, rfl⟩ | ⟨_, _, rfl⟩ <;> omega
  · exact fun p hp h => found2_none h
  · exact fun p a b hp h => found2_some h
end
end Mine
end
section
open PySem PySem.W PySem.Calls PyProof.Rows
set_option Elab.async false
set_option maxRecDepth 100000
namespace Mine
/-- a frame's names: those of the list, else as m says -/
noncomputable def kf (m : Str → Option Value) : List (Str × Value) → Str → Option Value
  | [], z => m z
  | (a, v) :: r, z => if z = a then some v else kf m r z
theorem kf_same {m : Str → Option Value} : ∀ {ps : List (Str × Value)}, (∀ p ∈ ps, m p.1 = some p.2) → kf m ps = m
  | [], _ => rfl
  | (a, v) :: r, h => by
    have ih := kf_same (ps := r) fun p hp => h p (.tail _ hp)
    funext z
    show (if z = a then some v else kf m r z) = m z
    rw [ih]
    split
    · next e => rw [e]; exact (h (a, v) (.head _)).symm
    · rfl
theorem room2 {a b c k n : Nat} (h : a + k < n) (e : b + c ≤ k) : a + b + c < n := by omega
theorem kind_room {dp un : Nat} {gd : Option (List Code)} {cn : Str} {cs : Scope} {a : Addr} {ccd : Value} {cl : List (Str × Addr)} {outer : List Env} {L : Addr} {env : Env} {k : Nat} (hu : un + k < cLine) (e : 67 ≤ k) : ((ktrTop dp un gd cn cs L a ccd cl outer).deeper env).units + 64 < cLine := by
  show un + 3 + 64 < cLine; omega
theorem news_tail {h₀ h : Heap} {L : Addr} {p : Addr × Obj} {news : List (Addr × Obj)} (N : News h₀ L h (p :: news)) : News h₀ L h news := fun q hq => N q (.tail _ hq)
theorem frame_of {h₀ h : Heap} {L : Addr} {m : Str → Option Value} (F : Fr h₀ L h m) (ps : List (Str × Value)) (hk : ∀ p ∈ ps, m p.1 = some p.2) : ∃ M, Fr h₀ L h (kf M ps) := ⟨m, by rw [kf_same hk]; exact F⟩
theorem storeF {M : Model} {A : Around} {E : Value → Shared → Prop} {sh h₀ : Heap} {sg : Array GenState} {sd : Drawn} {st : Nat} {so : OsState} {L a : Addr} {K : Str → Option Value} {ps : List (Str × Value)} {cn : Str} {cs : Scope} {ccd : Value} {cl : List (Str × Addr)} {x : Str} {v : Value} {Q : Unit → Shared → Prop} {news : List (Addr × Obj)}
    (F : Fr h₀ L sh (kf K ps)) (N : News h₀ L sh news) (h : ∀ h', Fr h₀ L h' (kf K ((x, v) :: ps)) → News h₀ L h' news → Q () ⟨h', sg, sd, st + 1, so⟩)
    (hk : cs.kind = .function) (hx : (envX cn cs L a ccd cl).kindOf x = some .local) : wpAny M A (storeName (envX cn cs L a ccd cl) x v) Q E ⟨sh, sg, sd, st, so⟩ :=
  storeX_L (s := ⟨sh, sg, sd, st, so⟩) F N (fun h' F' N' => h h' F' N') hk hx
theorem gen_post {M : Model} {A : Around} {α : Type} {t : Sem α} {Q : α → Shared → Prop} {E : Value → Shared → Prop} {s : Shared} (H : ∀ K : α → Shared → Prop, (∀ a s, Q a s → K a s) → wpAny M A t K E s) : wpAny M A t Q E s := H Q fun _ _ h => h
end Mine
end
section
open PySem PySem.W PySem.Calls PyProof.Rows
open PySem.Builtin PySem.Builtin.Str
set_option Elab.async false
set_option maxRecDepth 100000
set_option linter.unusedSimpArgs false
set_option linter.unusedVariables false
namespace Mine
/-- each sign c becomes w -/
noncomputable def repl (c : Nat) (w l : List Nat) : List Nat := l.flatMap fun k => if k = c then w else [k]
theorem repl_append (c : Nat) (w a b : List Nat) : repl c w (a ++ b) = repl c w a ++ repl c w b := List.flatMap_append
theorem repl_free (c : Nat) (w : List Nat) : ∀ l : List Nat, c ∉ l → repl c w l = l
  | [], _ => rfl
  | k :: r, h => by
    have h1 : ¬ k = c := fun e => h (e ▸ List.mem_cons_self ..)
    have h2 : c ∉ r := fun m => h (List.mem_cons_of_mem _ m)
    have ih := repl_free c w r h2
    unfold repl at ih ⊢
    rw [List.flatMap_cons, if_neg h1, ih]
    rfl
theorem repl_join (c : Nat) (z : Str) : ∀ parts : List Str, (∀ p ∈ parts, c ∉ p.cps.toList) → repl c z.cps.toList (Str.join ⟨#[c]⟩ parts).cps.toList = (Str.join z parts).cps.toList
  | [], _ => rfl
  | [p], h => repl_free c _ _ (h p (List.mem_singleton.mpr rfl))
  | p :: q :: r, h => by
    have ih := repl_join c z (q :: r) fun a ha => h a (List.mem_cons_of_mem _ ha)
    show repl c z.cps.toList (p ++ ⟨#[c]⟩ ++ Str.join ⟨#[c]⟩ (q :: r)).cps.toList = (p ++ z ++ Str.join z (q :: r)).cps.toList
    simp only [Str.cps_append, Array.toList_append]
    rw [repl_append, repl_append, ih, repl_free c _ _ (h p (List.mem_cons_self ..))]
    have : repl c z.cps.toList [c] = z.cps.toList := by simp [repl]
    rw [this]
theorem replace_repl (x z : Str) (c : Nat) : (Txt.replace x ⟨#[c]⟩ z).cps.toList = repl c z.cps.toList x.cps.toList := by
  rw [StrLaws.replace_one, ← repl_join c z _ (StrLaws.split_free x c), StrLaws.join_split]
theorem repl_len (c : Nat) (w : List Nat) (k : Nat) (hw : w.length ≤ k) (hk : 1 ≤ k) : ∀ l : List Nat, (repl c w l).length ≤ k * l.length
  | [] => by simp [repl]
  | j :: r => by
    have ih := repl_len c w k hw hk r
    have e : (repl c w (j :: r)).length = (if j = c then w else [j]).length + (repl c w r).length := by simp [repl]
    rw [e, List.length_cons, Nat.mul_succ]
    split
    · omega
    · simp only [List.length_cons, List.length_nil]; omega
section
variable {prog : Program} {w : World} {A : Around} {E : Value → Shared → Prop} {s : Shared} {h₀ : Heap} {name : Str} {scope : Scope} {L a : Addr} {cd : Value} {m : Str → Option Value} {news : List (Addr × Obj)}
theorem replT {x y z : Str} {t u v : Tok} {Q : Value → Shared → Prop} (hu : u ≠ 0) (hv : v ≠ 0) (huv : u ≠ v) (hyz : (y == z) = false) (hb : x.length + (x.length + 1) * z.length ≤ 16777216)
    (hq : ∀ t' k, s.toks ≤ k → Q (.str (Txt.replace x y z) t') { s with toks := k }) : wpAny (model prog w) A (PySem.call (.builtin "str.replace") [.str x t, .str y u, .str z v]) Q E s := by
  have e : (2 : Nat) ^ 24 = 16777216 := by decide
  have hl : tooLong (x.length + (occurrences x y 0 x.length (x.length + 1)).length * z.length) = false := by
    have h1 := StrLaws.occ_length_le x y 0 x.length (x.length + 1)
    have h2 : (occurrences x y 0 x.length (x.length + 1)).length * z.length ≤ (x.length + 1) * z.length := Nat.mul_le_mul_right _ h1
    unfold tooLong sizeLine
    exact decide_eq_false (by omega)
  refine call_gives PySem.F.slot_str_replace (typeIs_str _ _ _) PySem.F.entry_str_replace (PySem.F.args_str_replace_3 _ _ _)
    (gives_str_replace x y z t u v fun _ => ⟨by simp [hu, hv], by simp [huv], hyz, hl⟩) ?_
  have hq' := hq
  unfold Txt.replace at hq'
  cases hc : ((occurrences x y 0 x.length (x.length + 1)).isEmpty || (y.length == 0 && z.length == 0))
  · rw [hc] at hq'
    simp only [Bool.false_eq_true, if_false] at hq' ⊢
    exact ⟨fits_replaced y hb, hq' _ _ (by show s.toks ≤ s.toks + 1; omega)⟩
  · rw [hc] at hq'
    simp only [if_true] at hq' ⊢
    exact hq' t s.toks (Nat.le_refl _)
theorem rule_repl {cS wS x : Str} {c : Nat} {t u v : Nat} {Q : Value → Shared → Prop} (hc : cS = ⟨#[c]⟩) (hu : u ≠ 0) (hv : v ≠ 0) (huv : u ≠ v) (hne : (cS == wS) = false) (hx : x.cps.size ≤ 1000000) (hw : wS.cps.size ≤ 6) (hw1 : 1 ≤ wS.cps.size)
    (hq : ∀ t' k (z : Str), s.toks ≤ k → z.cps.toList = repl c wS.cps.toList x.cps.toList → z.cps.size ≤ 6 * x.cps.size → Q (.str z t') { s with toks := k }) :
    wpAny (model prog w) A (PySem.call (.builtin "str.replace") [.str x t, .str cS u, .str wS v]) Q E s := by
  subst hc
  refine replT hu hv huv hne ?_ fun t' k hk => hq t' k _ hk (replace_repl x wS c) ?_
  · show x.cps.size + (x.cps.size + 1) * wS.cps.size ≤ 16777216
    have : (x.cps.size + 1) * wS.cps.size ≤ (x.cps.size + 1) * 6 := Nat.mul_le_mul_left _ hw
    omega
  · have h1 := repl_len c wS.cps.toList 6 (by simpa using hw) (by omega) x.cps.toList
    rw [← replace_repl x wS c] at h1
    simpa using h1

/-- behind «if c in x: x = x.replace(c, w)» -/
noncomputable def ReplEnd (h₀ : Heap) (L : Addr) (m : Str → Option Value) (news : List (Addr × Obj)) (s : Shared) (nm : Str) (c : Nat) (wS x : Str) (f : Flow) (s' : Shared) : Prop :=
  f = .next ∧ ∃ (h' : Heap) (z : Str) (t : Tok) (tk : Nat), s' = { s with heap := h', toks := tk } ∧ z.cps.toList = repl c wS.cps.toList x.cps.toList ∧ z.cps.size ≤ 6 * x.cps.size ∧ 0 < tk ∧ Fr h₀ L h' (fun y => if y = nm then some (.str z t) else m y) ∧ News h₀ L h' news
theorem ReplEnd.intro {nm : Str} {c : Nat} {wS x z : Str} {h' : Heap} {t : Tok} {tk : Nat} (h1 : z.cps.toList = repl c wS.cps.toList x.cps.toList) (h2 : z.cps.size ≤ 6 * x.cps.size) (h3 : 0 < tk) (F : Fr h₀ L h' (fun y => if y = nm then some (.str z t) else m y)) (N : News h₀ L h' news) :
    ReplEnd h₀ L m news s nm c wS x .next { s with heap := h', toks := tk } := ⟨rfl, h', z, t, tk, rfl, h1, h2, h3, F, N⟩
theorem if_repl {cS wS x : Str} {tx : Tok} {c : Nat} {nm : Str} {k1 k2 k3 : Nat} {p1 p2 p3 p4 p5 p6 p7 p8 p9 p10 p11 : Pos} {Q : Flow → Shared → Prop} (F : Fr h₀ L s.heap m) (N : News h₀ L s.heap news) (hm : m nm = some (.str x tx)) (ht : 0 < s.toks)
    (hc : cS = ⟨#[c]⟩) (hk : scope.kind = .function) (hl : (envOf name scope L a cd).kindOf nm = some .local) (hd : (nm == ("__debug__" : Str)) = false)
    (hthen : ∀ tk, 0 < tk → wpAny (model prog w) A (execs [.Assign [.Name nm p5] (.Call (.Attribute (.Name nm p6) (Str.ofString "replace") p7) [.Constant (.str cS) k2 p8, .Constant (.str wS) k3 p9] [] p10) p11] (envOf name scope L a cd)) (ReplEnd h₀ L m news s nm c wS x) E { s with toks := tk })
    (h : ∀ h' (z : Str) t tk, z.cps.toList = repl c wS.cps.toList x.cps.toList → z.cps.size ≤ 6 * x.cps.size → 0 < tk → Fr h₀ L h' (fun y => if y = nm then some (.str z t) else m y) → News h₀ L h' news → Q .next { s with heap := h', toks := tk }) :
    wpAny (model prog w) A (exec (.If (.Compare (.Constant (.str cS) k1 p1) [.In] [.Name nm p2] p3) [.Assign [.Name nm p5] (.Call (.Attribute (.Name nm p6) (Str.ofString "replace") p7) [.Constant (.str cS) k2 p8, .Constant (.str wS) k3 p9] [] p10) p11] [] p4) (envOf name scope L a cd)) Q E s := by
  refine wpAny_If (wpAny_isTrue_Compare1 (Constant_str ?_))
  refine ld (s := { s with toks := s.toks + 1 }) F hm ?_ hk hl hd
  refine in_str ?_
  refine wpAny_truthy_bool ?_
  subst hc
  rw [StrLaws.found_one]
  by_cases hin : c ∈ x.cps.toList
  · rw [decide_eq_true hin]
    refine wpAny_mono (hthen (s.toks + 1) (by omega)) (fun f s' q => ?_) fun _ _ x => x
    obtain ⟨rfl, h', z, t, tk, rfl, q1, q2, q3, q4, q5⟩ := q
    exact h h' z t tk q1 q2 q3 q4 q5
  · rw [decide_eq_false hin]
    refine wpAny_execs_nil ?_
    have e : (fun y => if y = nm then some (Value.str x tx) else m y) = m := by
      funext y
      by_cases hy : y = nm
      · rw [if_pos hy, hy, hm]
      · rw [if_neg hy]
    exact h s.heap x tx (s.toks + 1) (repl_free c _ _ hin).symm (by omega) (by omega) (by rw [e]; exact F) N
theorem sgE : (Str.ofString "").cps.toList = [] := by decide +kernel
theorem sg46 : Str.ofString "." = ⟨#[46]⟩ := by decide +kernel
theorem sg38 : Str.ofString "&" = ⟨#[38]⟩ := by decide +kernel
theorem sg60 : Str.ofString "<" = ⟨#[60]⟩ := by decide +kernel
theorem sg62 : Str.ofString ">" = ⟨#[62]⟩ := by decide +kernel
theorem sg34 : Str.ofString "\"" = ⟨#[34]⟩ := by decide +kernel
theorem sg13 : Str.ofString "\r" = ⟨#[13]⟩ := by decide +kernel
theorem sg10 : Str.ofString "\n" = ⟨#[10]⟩ := by decide +kernel
theorem sg9 : Str.ofString "\t" = ⟨#[9]⟩ := by decide +kernel
end
end Mine
end
section
open PySem PySem.W PySem.Calls PyProof.Rows
set_option Elab.async false
set_option maxRecDepth 100000
set_option linter.unusedVariables false
namespace Mine
section
variable {prog : Program} {w : World} {A : Around} {E : Value → Shared → Prop} {h₀ sh : Heap} {sg : Array GenState} {sd : Drawn} {st : Nat} {so : OsState} {name : Str} {scope : Scope} {L a : Addr} {cd : Value} {m : Str → Option Value} {news : List (Addr × Obj)}
theorem then_repl {cS wS x : Str} {tx : Tok} {c : Nat} {nm : Str} {k2 k3 tk : Nat} {p5 p6 p7 p8 p9 p10 p11 : Pos} (F : Fr h₀ L sh m) (N : News h₀ L sh news) (hm : m nm = some (.str x tx)) (ht : 0 < tk)
    (hc : cS = ⟨#[c]⟩) (hk : scope.kind = .function) (hl : (envOf name scope L a cd).kindOf nm = some .local) (hd : (nm == ("__debug__" : Str)) = false) (hx : x.cps.size ≤ 1000000) (hne : (cS == wS) = false) (hw : wS.cps.size ≤ 6) (hw1 : 1 ≤ wS.cps.size) {pl : Sem Bool} (he : eval (.Call (.Attribute (.Name nm p6) (Str.ofString "replace") p7) [.Constant (.str cS) k2 p8, .Constant (.str wS) k3 p9] [] p10) (envOf name scope L a cd) = (do
      let ov ← eval (.Name nm p6) (envOf name scope L a cd)
      standAt p7.atName
      let (f, first) ← holding [ov] (getMethod ov (Str.ofString "replace") pl)
      callWith p10 f first (backTo p10 (starEach [.Constant (.str cS) k2 p8, .Constant (.str wS) k3 p9] (envOf name scope L a cd))) []))
    (hsw : swapsWith (.Call (.Attribute (.Name nm p6) (Str.ofString "replace") p7) [.Constant (.str cS) k2 p8, .Constant (.str wS) k3 p9] [] p10) (some (.Name nm p5)) p11.line (envOf name scope L a cd) = pure false) :
    wpAny (model prog w) A (execs [.Assign [.Name nm p5] (.Call (.Attribute (.Name nm p6) (Str.ofString "replace") p7) [.Constant (.str cS) k2 p8, .Constant (.str wS) k3 p9] [] p10) p11] (envOf name scope L a cd)) (ReplEnd h₀ L m news ⟨sh, sg, sd, st, so⟩ nm c wS x) E ⟨sh, sg, sd, tk, so⟩ := by
  refine wpAny_execs_cons (wpAny_Assign_Name (MethodCall_ (pl := pl) ?_ he) hsw)
  refine ld (s := ⟨sh, sg, sd, tk, so⟩) F hm ?_ hk hl hd
  refine GM.replace (callWith_method1 (args_cons (Constant_str (args_cons (Constant_str (args_nil ?_))))))
  refine rule_repl hc (by show tk ≠ 0; omega) (by show tk + 1 ≠ 0; omega) (by show tk ≠ tk + 1; omega) hne hx hw hw1 fun t' k z hk1 hz hs => ?_
  refine storeX_L (s := ⟨sh, sg, sd, k, so⟩) F N (fun h' F' N' => wpAny_execs_nil ?_) hk hl
  exact ⟨rfl, h', z, t', k + 1, rfl, hz, hs, Nat.succ_pos _, F', N'⟩
theorem if_replF {cS wS x : Str} {tx : Tok} {c : Nat} {nm : Str} {K : Str → Option Value} {k1 k2 k3 : Nat} {p1 p2 p3 p4 p5 p6 p7 p8 p9 p10 p11 : Pos} {Q : Flow → Shared → Prop} (F : Fr h₀ L sh (kf K [(nm, .str x tx)])) (N : News h₀ L sh news) (ht : 0 < st)
    (hx : x.cps.size ≤ 1000000) (hc : cS = ⟨#[c]⟩) (hk : scope.kind = .function) (hl : (envOf name scope L a cd).kindOf nm = some .local) (hd : (nm == ("__debug__" : Str)) = false) (hne : (cS == wS) = false) (hw : wS.cps.size ≤ 6) (hw1 : 1 ≤ wS.cps.size) {pl : Sem Bool} (he : eval (.Call (.Attribute (.Name nm p6) (Str.ofString "replace") p7) [.Constant (.str cS) k2 p8, .Constant (.str wS) k3 p9] [] p10) (envOf name scope L a cd) = (do
      let ov ← eval (.Name nm p6) (envOf name scope L a cd)
      standAt p7.atName
      let (f, first) ← holding [ov] (getMethod ov (Str.ofString "replace") pl)
      callWith p10 f first (backTo p10 (starEach [.Constant (.str cS) k2 p8, .Constant (.str wS) k3 p9] (envOf name scope L a cd))) []))
    (hsw : swapsWith (.Call (.Attribute (.Name nm p6) (Str.ofString "replace") p7) [.Constant (.str cS) k2 p8, .Constant (.str wS) k3 p9] [] p10) (some (.Name nm p5)) p11.line (envOf name scope L a cd) = pure false) 
    (h : ∀ h' (z : Str) t tk M, z.cps.toList = repl c wS.cps.toList x.cps.toList → z.cps.size ≤ 6 * x.cps.size → 0 < tk → Fr h₀ L h' (kf M [(nm, .str z t)]) → News h₀ L h' news → Q .next ⟨h', sg, sd, tk, so⟩) :
    wpAny (model prog w) A (exec (.If (.Compare (.Constant (.str cS) k1 p1) [.In] [.Name nm p2] p3) [.Assign [.Name nm p5] (.Call (.Attribute (.Name nm p6) (Str.ofString "replace") p7) [.Constant (.str cS) k2 p8, .Constant (.str wS) k3 p9] [] p10) p11] [] p4) (envOf name scope L a cd)) Q E ⟨sh, sg, sd, st, so⟩ :=
  have hm : kf K [(nm, .str x tx)] nm = some (.str x tx) := by show (if nm = nm then _ else _) = _; rw [if_pos rfl]
  if_repl (s := ⟨sh, sg, sd, st, so⟩) F N hm ht hc hk hl hd (fun tk htk => then_repl F N hm htk hc hk hl hd hx hne hw hw1 he hsw) (fun h' z t tk q1 q2 q3 F' N' => h h' z t tk _ q1 q2 q3 F' N')
end
end Mine
end
section
open PySem PySem.W PySem.Calls PyProof.Rows
open PySem.Builtin PySem.Builtin.Str PySem.StrLaws
set_option Elab.async false
set_option maxRecDepth 100000
set_option linter.unusedSimpArgs false
set_option linter.unusedVariables false
namespace Mine
abbrev CR : Str := ⟨#[13, 10]⟩
theorem at_cr (x : Str) (i : Nat) : At x CR x.length i ↔ ∃ r, x.cps.toList.drop i = 13 :: 10 :: r := by
  unfold At
  rw [subAt_eq]
  have hl : x.length = x.cps.toList.length := by simp [Str.length]
  constructor
  · rintro ⟨h1, h2⟩
    have h2' := eq_of_beq h2
    have h3 : (x.cps.toList.drop i).take 2 = [13, 10] := h2'
    cases hd : x.cps.toList.drop i with
    | nil => rw [hd] at h3; simp at h3
    | cons a r =>
      cases r with
      | nil => rw [hd] at h3; simp at h3
      | cons b r => rw [hd] at h3; simp at h3; exact ⟨r, by rw [h3.1, h3.2]⟩
  · rintro ⟨r, h⟩
    have h1 : (x.cps.toList.drop i).length = r.length + 2 := by rw [h]; rfl
    rw [List.length_drop] at h1
    refine ⟨?_, ?_⟩
    · show i + 2 ≤ x.length
      omega
    · rw [h]; rfl

noncomputable def crnl : List Nat → List Nat
  | [] => []
  | k :: r => if k = 13 ∧ r.head? = some 10 then crnl r else k :: crnl r
theorem drop_succ' {l : List Nat} {a k : Nat} {r : List Nat} (h : l.drop a = k :: r) : l.drop (a + 1) = r := by
  rw [← List.drop_drop, h]; rfl
theorem crnl_free (x : Str) : ∀ (n a : Nat), (∀ k, a ≤ k → k < a + n → ¬ At x CR x.length k) → crnl (x.cps.toList.drop a) = (x.cps.toList.drop a).take n ++ crnl (x.cps.toList.drop (a + n))
  | 0, a, _ => by simp
  | n + 1, a, h => by
    have ih := crnl_free x n (a + 1) fun k h1 h2 => h k (by omega) (by omega)
    cases hd : x.cps.toList.drop a with
    | nil =>
      have : x.cps.toList.drop (a + (n + 1)) = [] := by rw [← List.drop_drop, hd]; simp
      rw [this]; simp [crnl]
    | cons k r =>
      have hr := drop_succ' hd
      rw [hr] at ih
      have h0 : ¬ (k = 13 ∧ r.head? = some 10) := by
        rintro ⟨rfl, h2⟩
        cases r with
        | nil => simp at h2
        | cons j r' =>
          simp at h2
          subst h2
          exact h a (Nat.le_refl _) (by omega) ((at_cr x a).mpr ⟨r', hd⟩)
      show (if k = 13 ∧ r.head? = some 10 then _ else k :: crnl r) = _
      rw [if_neg h0, ih, show a + 1 + n = a + (n + 1) by omega]
      rfl
theorem crnl_parts (x : Str) : ∀ (cuts : List Nat) (a f : Nat), ChainG x CR x.length a cuts f → (∀ k, f ≤ k → ¬ At x CR x.length k) → (Str.join ⟨#[10]⟩ (partsFrom x CR.length a cuts)).cps.toList = crnl (x.cps.toList.drop a)
  | [], a, f, h, hn => by
    have e : f = a := h
    subst e
    show (strSub x f x.length).cps.toList = _
    rw [strSub_toList]
    have h1 := crnl_free x (x.cps.toList.length - f) f fun k h1 _ => hn k h1
    have h2 : x.cps.toList.drop (f + (x.cps.toList.length - f)) = [] := List.drop_of_length_le (by omega)
    rw [h1, h2]
    have hl : x.length = x.cps.toList.length := by simp [Str.length]
    simp [crnl, hl]
  | c :: r, a, f, h, hn => by
    have ih := crnl_parts x r _ f h.2.2.2 hn
    obtain ⟨p, q, hpq⟩ := partsFrom_ne x CR.length (c + CR.length) r
    have e : partsFrom x CR.length a (c :: r) = strSub x a c :: partsFrom x CR.length (c + CR.length) r := rfl
    rw [hpq] at ih
    rw [e, hpq]
    show (strSub x a c ++ ⟨#[10]⟩ ++ Str.join ⟨#[10]⟩ (p :: q)).cps.toList = _
    simp only [Str.cps_append, Array.toList_append]
    rw [ih, strSub_toList]
    obtain ⟨r', hr'⟩ := (at_cr x c).mp h.2.1
    have h1 := crnl_free x (c - a) a fun k h1 h2 => h.2.2.1 k h1 (by omega)
    rw [show a + (c - a) = c by have := h.1; omega, hr'] at h1
    rw [h1]
    have e2 : x.cps.toList.drop (c + CR.length) = r' := by
      show x.cps.toList.drop (c + 2) = r'
      rw [← List.drop_drop, hr']; rfl
    rw [e2, List.append_assoc]
    congr 1
theorem replace_crnl (x : Str) : (Txt.replace x CR ⟨#[10]⟩).cps.toList = crnl x.cps.toList := by
  obtain ⟨f, h1, h2⟩ := occ_tight x CR (by decide)
  have h3 := crnl_parts x _ 0 f h1 h2
  rw [List.drop_zero] at h3
  rw [← h3]
  unfold Txt.replace
  by_cases he : (occurrences x CR 0 x.length (x.length + 1)).isEmpty = true
  · rw [if_pos (by rw [he]; rfl)]
    rw [List.isEmpty_iff.mp he]
    show _ = (strSub x 0 x.length).cps.toList
    rw [sub_whole]
  · rw [if_neg (by rw [show (CR.length == 0) = false from rfl]; simpa using he), glued_eq_join, partsBetween_eq]

/-! a text cut at its row ends -/
noncomputable def joinCR : List (List Nat) → List Nat
  | [] => []
  | [r] => r
  | r :: q :: t => r ++ 13 :: 10 :: joinCR (q :: t)
noncomputable def Rowed (r : List Nat) : Prop := ∀ k ∈ r, k ≠ 10 ∧ k ≠ 13
theorem no_at_row {x : Str} {a : Nat} {r t : List Nat} (hr : Rowed r) (h : x.cps.toList.drop a = r ++ t) : ∀ k, a ≤ k → k < a + r.length → ¬ At x CR x.length k := by
  intro k h1 h2 hA
  obtain ⟨q, hq⟩ := (at_cr x k).mp hA
  have e : x.cps.toList.drop k = (r ++ t).drop (k - a) := by rw [← h, List.drop_drop, show a + (k - a) = k by omega]
  rw [e, List.drop_append_of_le_length (by omega)] at hq
  cases hd : r.drop (k - a) with
  | nil =>
    have : (r.drop (k - a)).length = 0 := by rw [hd]; rfl
    rw [List.length_drop] at this
    omega
  | cons j r' =>
    rw [hd] at hq
    have hj : j ∈ r := List.mem_of_mem_drop (by rw [hd]; exact .head _)
    have : j = 13 := by simpa using (List.cons.inj hq).1
    exact (hr j hj).2 this
theorem rows_parts (x : Str) : ∀ (rows : List (List Nat)) (cuts : List Nat) (a f : Nat), rows ≠ [] → (∀ r ∈ rows, Rowed r) → x.cps.toList.drop a = joinCR rows → ChainG x CR x.length a cuts f → (∀ k, f ≤ k → ¬ At x CR x.length k) →
    (partsFrom x CR.length a cuts).map (·.cps.toList) = rows
  | [], _, _, _, h, _, _, _, _ => absurd rfl h
  | [r], cuts, a, f, _, hr, hx, hc, hn => by
    have hno : ∀ k, a ≤ k → ¬ At x CR x.length k := by
      intro k hk hA
      by_cases h1 : k < a + r.length
      · exact no_at_row (hr r (.head _)) (t := []) (by rw [hx, List.append_nil]; rfl) k hk h1 hA
      · obtain ⟨q, hq⟩ := (at_cr x k).mp hA
        have : x.cps.toList.drop k = (x.cps.toList.drop a).drop (k - a) := by rw [List.drop_drop, show a + (k - a) = k by omega]
        rw [this, hx, List.drop_of_length_le (by show r.length ≤ _; omega)] at hq
        cases hq
    cases cuts with
    | nil =>
      show [(strSub x a x.length).cps.toList] = [r]
      rw [strSub_toList, hx]
      have hl : x.length = x.cps.toList.length := by simp [Str.length]
      have h2 : (x.cps.toList.drop a).length = r.length := by rw [hx]; rfl
      rw [List.length_drop] at h2
      show [r.take (x.length - a)] = [r]
      rw [List.take_of_length_le (by omega)]
    | cons c t => exact absurd hc.2.1 (hno c hc.1)
  | r :: q :: t, cuts, a, f, _, hr, hx, hc, hn => by
    have hno := no_at_row (t := 13 :: 10 :: joinCR (q :: t)) (hr r (.head _)) hx
    have hat : At x CR x.length (a + r.length) := by
      refine (at_cr x _).mpr ⟨joinCR (q :: t), ?_⟩
      rw [← List.drop_drop, hx]
      show (r ++ _).drop r.length = _
      rw [List.drop_left]
    cases cuts with
    | nil =>
      have e : f = a := hc
      subst e
      exact absurd hat (hn _ (by omega))
    | cons c cs =>
      have h1 : c = a + r.length := by
        have h2 : ¬ c < a + r.length := fun q => hno c hc.1 q hc.2.1
        have h3 : ¬ a + r.length < c := fun q => hc.2.2.1 _ (by omega) q hat
        omega
      subst h1
      have ih := rows_parts x (q :: t) cs (a + r.length + CR.length) f (by simp) (fun r' h' => hr r' (.tail _ h')) ?_ hc.2.2.2 hn
      · show (strSub x a (a + r.length)).cps.toList :: (partsFrom x CR.length (a + r.length + CR.length) cs).map (·.cps.toList) = _
        rw [ih, strSub_toList, hx, show a + r.length - a = r.length by omega]
        show (r ++ _).take r.length :: _ = _
        rw [List.take_left]
      · show x.cps.toList.drop (a + r.length + 2) = _
        rw [Nat.add_assoc, ← List.drop_drop, hx]
        show (r ++ 13 :: 10 :: joinCR (q :: t)).drop (r.length + 2) = _
        rw [← List.drop_drop, List.drop_left]
        rfl
theorem split_cr (x : Str) (rows : List (List Nat)) (h0 : rows ≠ []) (hr : ∀ r ∈ rows, Rowed r) (hx : x.cps.toList = joinCR rows) : (Txt.split x CR).map (·.cps.toList) = rows := by
  obtain ⟨f, h1, h2⟩ := occ_tight x CR (by decide)
  have key := rows_parts x rows _ 0 f h0 hr (by rw [List.drop_zero]; exact hx) h1 h2
  rw [← key]
  unfold Txt.split
  have hk : ¬ strKind x < strKind CR := by
    have h1 : PySem.Builtin.Str.strKind CR = 1 := by decide +kernel
    rw [h1]
    unfold PySem.Builtin.Str.strKind
    (repeat' split) <;> decide
  by_cases hl : x.length < CR.length
  · rw [if_pos (by simp [hl])]
    have : occurrences x CR 0 x.length (x.length + 1) = [] := by
      cases hc : occurrences x CR 0 x.length (x.length + 1) with
      | nil => rfl
      | cons c r =>
        rw [hc] at h1
        have := h1.2.1.1
        omega
    rw [this]
    show [x.cps.toList] = [(strSub x 0 x.length).cps.toList]
    rw [sub_whole]
  · rw [if_neg (by simp [hl, hk])]
    by_cases he : (occurrences x CR 0 x.length (x.length + 1)).isEmpty = true
    · rw [if_pos he, List.isEmpty_iff.mp he]
      show [x.cps.toList] = [(strSub x 0 x.length).cps.toList]
      rw [sub_whole]
    · rw [if_neg he, partsBetween_eq]
theorem crnl_len : ∀ l : List Nat, (crnl l).length ≤ l.length
  | [] => Nat.le_refl _
  | k :: r => by
    have ih := crnl_len r
    unfold crnl
    split <;> simp only [List.length_cons] <;> omega
section
variable {prog : Program} {w : World} {A : Around} {E : Value → Shared → Prop} {s : Shared}
theorem sgCR : Str.ofString "\r\n" = CR := by decide +kernel
theorem rule_crnl {cS wS x : Str} {t u v : Nat} {Q : Value → Shared → Prop} (hc : cS = CR) (hwS : wS = ⟨#[10]⟩) (hu : u ≠ 0) (hv : v ≠ 0) (huv : u ≠ v) (hx : x.cps.size ≤ 1000000)
    (hq : ∀ t' k (z : Str), s.toks ≤ k → z.cps.toList = crnl x.cps.toList → z.cps.size ≤ x.cps.size → Q (.str z t') { s with toks := k }) :
    wpAny (model prog w) A (PySem.call (.builtin "str.replace") [.str x t, .str cS u, .str wS v]) Q E s := by
  subst hc
  subst hwS
  refine replT hu hv huv (by decide) ?_ fun t' k hk => hq t' k _ hk (replace_crnl x) ?_
  · show x.cps.size + (x.cps.size + 1) * 1 ≤ 16777216
    omega
  · have h1 := crnl_len x.cps.toList
    rw [← replace_crnl x] at h1
    simpa using h1
end
end Mine
end
section
open PySem PySem.W PySem.Calls PyProof.Rows
set_option Elab.async false
set_option maxRecDepth 100000
set_option linter.unusedSimpArgs false
set_option linter.unusedVariables false
namespace Mine
theorem ite_yes {p : Prop} [Decidable p] {a b : Prop} (h : p) (ha : a) : if p then a else b := by rw [if_pos h]; exact ha
theorem ite_no {p : Prop} [Decidable p] {a b : Prop} (h : ¬ p) (hb : b) : if p then a else b := by rw [if_neg h]; exact hb
theorem lt_one {news : List (Addr × Obj)} {l : Addr} {o : Obj} (h : ∀ p ∈ news, p.1 < l) : ∀ q ∈ news, ∀ p ∈ [(l, o)], q.1 < p.1 := fun q hq p hp => by rw [List.mem_singleton.mp hp]; exact h q hq
section
variable {prog : Program} {w : World} {A : Around} {E : Value → Shared → Prop} {s : Shared} {h₀ : Heap} {L l : Addr} {m : Str → Option Value} {news : List (Addr × Obj)}
/-- short texts only -/
noncomputable def Shorts (vs : List Value) : Prop := ∀ v ∈ vs, ∃ y t, v = .str y t ∧ y.cps.size ≤ 1
theorem Shorts.nil : Shorts [] := fun _ h => nomatch h
theorem Shorts.cons {y : Str} {t : Tok} {vs : List Value} (h1 : y.cps.size ≤ 1) (h2 : Shorts vs) : Shorts (.str y t :: vs) := fun v hv => by
  cases hv with
  | head => exact ⟨y, t, rfl, h1⟩
  | tail _ h => exact h2 v h
theorem fm10 (x : Int) : 0 ≤ x.fmod 10 ∧ x.fmod 10 < 10 := by
  have h1 := Int.fmod_eq_emod_of_nonneg x (b := 10) (by decide)
  have h2 := Int.emod_nonneg x (b := 10) (by decide)
  have h3 := Int.emod_lt_of_pos x (b := 10) (by decide)
  omega
theorem add_sz {x y : Str} {t u : Tok} {Q : Value → Shared → Prop} (hx : x.cps.size ≤ 1000000) (hy : y.cps.size ≤ 1000000)
    (h : ∀ t' k (z : Str), z.cps.toList = x.cps.toList ++ y.cps.toList → z.cps.size = x.cps.size + y.cps.size → Q (.str z t') { s with toks := k }) :
    wpAny (model prog w) A (binaryOp .Add (.str x t) (.str y u)) Q E s :=
  SBL.add (fun t' k _ => h t' k (x ++ y) (by rw [Str.cps_append]; simp) (by rw [Str.cps_append]; simp)) (by show x.cps.size + y.cps.size ≤ 16777216; omega)
theorem iadd_sz {x y : Str} {t u : Tok} {Q : Value → Shared → Prop} (hx : x.cps.size ≤ 1000000) (hy : y.cps.size ≤ 1000000)
    (h : ∀ t' k (z : Str), z.cps.toList = x.cps.toList ++ y.cps.toList → z.cps.size = x.cps.size + y.cps.size → Q (.str z t') { s with toks := k }) :
    wpAny (model prog w) A (inplaceOp .Add (.str x t) (.str y u)) Q E s :=
  SBL.iadd (fun t' k _ => h t' k (x ++ y) (by rw [Str.cps_append]; simp) (by rw [Str.cps_append]; simp)) (by show x.cps.size + y.cps.size ≤ 16777216; omega)
end
end Mine
end
section
open PySem PySem.W PySem.Calls PyProof.Rows
set_option Elab.async false
set_option maxRecDepth 100000
set_option maxHeartbeats 8000000
namespace Mine
local macro_rules | `(tactic| ktr_enter) => `(tactic| (refine' code_def ?k1 ?k2 ?k3 ?k4 ?k5 ?kA ?kF ?kK ?k6 ?k7 ?k8 ?k9 ?kB ?_ ?c2 ?c3 ?c4 ?c5; (case kA => exact rfl); (case kF => exact rfl); (case kK => first | exact rfl | assumption); (case k1 => k_asm); (case k2 => k_asm); (case k3 => k_asm); (case k4 => k_asm); (case k5 => k_asm); (case k6 => k_is); (case k7 => k_is); (case k8 => ktr_room); (case k9 => exact BindsTo.of_eq rfl); (case c5 => decide); (case kB => exact locs rfl); (case c2 => exact rfl); (case c3 => exact rfl); (case c4 => exact rfl); k_whole; intro g' L' h' FG' F' N' B' X' T'; (try dsimp only); (try k_fold)))
local macro_rules | `(tactic| walk_at "call ref") => `(tactic| (k_here; refine wpAny_call ?_; k_dflt ktr_enter))
section
set_option Elab.async false
set_option maxRecDepth 100000
set_option maxHeartbeats 8000000
local macro_rules | `(tactic| walk_at "getMethod ref") => `(tactic| (k_here; (with_reducible show wpAny _ _ (getMethod (Value.ref _) (Str.ofString "sub") _) _ _ _); k_dflt (first | (refine' re_method1 ?X ?_; (case X => k_in)) | (refine' re_method2 ?X ?_; (case X => k_in)))))
local macro_rules | `(tactic| walk_at "call builtin:re.Pattern.sub") => `(tactic| (k_here; k_dflt (first | (refine' re_sub1 ?F ?X ?N ?z ?_; (case F => k_asm); (case X => k_asm); (case N => k_asm); (case z => first | l_fact | omega); intro t' h' k' z' hz' hs' F' N') | (refine' re_sub2 ?F ?X ?N ?z ?_; (case F => k_asm); (case X => k_asm); (case N => k_asm); (case z => first | l_fact | omega); intro t' h' k' z' hz' hs' F' N'))))
theorem c_quote (w : World) (mean : ExcName → Option Value) (mg mb : Str → Option Value) (x : Str) (tx : Tok) (hx : x.cps.size ≤ 100000) (news : List (Addr × Obj)) :
    Gives w mean mg mb 72 [.str x tx] news 4 32 (fun r own => own = [] ∧ ∃ z t, r = .str z t ∧ z.cps.toList = quote x.cps.toList) := by
  w_top off; unfold Gives; k_fill
  intro dp un gd cn cs a ccd cl outer A₀ base h₀ L m s Q E B F X N T hk hd hu hret
  refine wpAny_call ?_
  k_dflt ktr_enter
  k_steps
  refine hret _ _ _ [] (by assumption) (by assumption) (fun _ _ _ h => nomatch h) ⟨rfl, _, _, rfl, by unfold quote; simp only [*]⟩
end
local macro_rules | `(tactic| walk_at "execs cons") => `(tactic| (k_here; (with_reducible show wpAny _ _ (execs (_ :: _) _) _ _ _); (refine gen_toks ?_ ?_); (fail_if_success (with_reducible assumption)); (first | omega | k_dflt (exact Nat.succ_pos _)); intro tk htk))
local macro_rules | `(tactic| walk_at "execs nil") => `(tactic| (k_here; (with_reducible show wpAny _ _ (execs [] _) _ _ _); (refine gen_toks ?_ ?_); (fail_if_success (with_reducible assumption)); (first | omega | k_dflt (exact Nat.succ_pos _)); intro tk htk))
local macro_rules | `(tactic| ktr_rel) => `(tactic| first | exact sg38 | exact sg60 | exact sg62 | exact sg34 | exact sg13 | exact sg10 | exact sg9)
section
set_option Elab.async false
set_option maxRecDepth 100000
set_option maxHeartbeats 8000000
local macro_rules | `(tactic| walk_at "exec If") => `(tactic| (k_here; k_dflt (refine' if_replF ?F ?N ?ht ?hx ?hc ?hk ?hl ?hd ?hne ?hw ?hw1 ?he ?hs ?_; (case F => k_asm); (case N => k_asm); (case ht => assumption); (case hx => omega); (case hc => ktr_rel); (case hk => exact rfl); (case hl => exact rfl); (case hd => decide); (case hne => decide +kernel); (case hw => decide +kernel); (case hw1 => decide +kernel); (case he => exact rfl); (case hs => exact rfl)); intro h' z t tk M hz hs htk F' N'))
theorem c_cdata (w : World) (mean : ExcName → Option Value) (mg mb : Str → Option Value) (x : Str) (tx : Tok) (hx : x.cps.size ≤ 3) (news : List (Addr × Obj)) :
    Gives w mean mg mb 86 [.str x tx] news 4 32 (fun r own => own = [] ∧ ∃ z t, r = .str z t ∧ z.cps.toList = (repl 62 (Str.ofString "&gt;").cps.toList (repl 60 (Str.ofString "&lt;").cps.toList (repl 38 (Str.ofString "&amp;").cps.toList x.cps.toList)))) := by
  w_top off; unfold Gives; k_fill
  intro dp un gd cn cs a ccd cl outer A₀ base h₀ L m s Q E B F X N T hk hd hu hret
  refine wpAny_call ?_
  k_dflt ktr_enter
  (rename Fr _ _ _ _ => F9)
  obtain ⟨M9, F9⟩ := frame_of F9 [(Str.ofString "text", .str x tx)] (by repeat' (first | exact List.forall_mem_nil _ | (refine List.forall_mem_cons.mpr ⟨?_, ?_⟩; (with_unfolding_all rfl))))
  k_steps
  refine' hret _ _ _ [] ?e1 ?e2 (fun _ _ _ h => nomatch h) ⟨rfl, _, _, rfl, ?e3⟩
  case e1 => k_asm
  case e2 => k_asm
  case e3 => simp only [*]
theorem c_attrib (w : World) (mean : ExcName → Option Value) (mg mb : Str → Option Value) (x : Str) (tx : Tok) (hx : x.cps.size ≤ 3) (news : List (Addr × Obj)) :
    Gives w mean mg mb 93 [.str x tx] news 4 32 (fun r own => own = [] ∧ ∃ z t, r = .str z t ∧ z.cps.toList = (repl 9 (Str.ofString "&#09;").cps.toList (repl 10 (Str.ofString "&#10;").cps.toList (repl 13 (Str.ofString "&#13;").cps.toList (repl 34 (Str.ofString "&quot;").cps.toList (repl 62 (Str.ofString "&gt;").cps.toList (repl 60 (Str.ofString "&lt;").cps.toList (repl 38 (Str.ofString "&amp;").cps.toList x.cps.toList)))))))) := by
  w_top off; unfold Gives; k_fill
  intro dp un gd cn cs a ccd cl outer A₀ base h₀ L m s Q E B F X N T hk hd hu hret
  refine wpAny_call ?_
  k_dflt ktr_enter
  (rename Fr _ _ _ _ => F9)
  obtain ⟨M9, F9⟩ := frame_of F9 [(Str.ofString "text", .str x tx)] (by repeat' (first | exact List.forall_mem_nil _ | (refine List.forall_mem_cons.mpr ⟨?_, ?_⟩; (with_unfolding_all rfl))))
  k_steps
  refine' hret _ _ _ [] ?e1 ?e2 (fun _ _ _ h => nomatch h) ⟨rfl, _, _, rfl, ?e3⟩
  case e1 => k_asm
  case e2 => k_asm
  case e3 => simp only [*]
theorem c_html (w : World) (mean : ExcName → Option Value) (mg mb : Str → Option Value) (x : Str) (tx : Tok) (hx : x.cps.size ≤ 3) (news : List (Addr × Obj)) :
    Gives w mean mg mb 100 [.str x tx] news 4 32 (fun r own => own = [] ∧ ∃ z t, r = .str z t ∧ z.cps.toList = (repl 34 (Str.ofString "&quot;").cps.toList (repl 62 (Str.ofString "&gt;").cps.toList (repl 38 (Str.ofString "&amp;").cps.toList x.cps.toList)))) := by
  w_top off; unfold Gives; k_fill
  intro dp un gd cn cs a ccd cl outer A₀ base h₀ L m s Q E B F X N T hk hd hu hret
  refine wpAny_call ?_
  k_dflt ktr_enter
  (rename Fr _ _ _ _ => F9)
  obtain ⟨M9, F9⟩ := frame_of F9 [(Str.ofString "text", .str x tx)] (by repeat' (first | exact List.forall_mem_nil _ | (refine List.forall_mem_cons.mpr ⟨?_, ?_⟩; (with_unfolding_all rfl))))
  k_steps
  refine' hret _ _ _ [] ?e1 ?e2 (fun _ _ _ h => nomatch h) ⟨rfl, _, _, rfl, ?e3⟩
  case e1 => k_asm
  case e2 => k_asm
  case e3 => simp only [*]
theorem c_cdataC (w : World) (mean : ExcName → Option Value) (mg mb : Str → Option Value) (x : Str) (tx : Tok) (hx : x.cps.size ≤ 3) (news : List (Addr × Obj)) :
    Gives w mean mg mb 107 [.str x tx] news 4 32 (fun r own => own = [] ∧ ∃ z t, r = .str z t ∧ z.cps.toList = (repl 13 (Str.ofString "&#xD;").cps.toList (repl 62 (Str.ofString "&gt;").cps.toList (repl 60 (Str.ofString "&lt;").cps.toList (repl 38 (Str.ofString "&amp;").cps.toList x.cps.toList))))) := by
  w_top off; unfold Gives; k_fill
  intro dp un gd cn cs a ccd cl outer A₀ base h₀ L m s Q E B F X N T hk hd hu hret
  refine wpAny_call ?_
  k_dflt ktr_enter
  (rename Fr _ _ _ _ => F9)
  obtain ⟨M9, F9⟩ := frame_of F9 [(Str.ofString "text", .str x tx)] (by repeat' (first | exact List.forall_mem_nil _ | (refine List.forall_mem_cons.mpr ⟨?_, ?_⟩; (with_unfolding_all rfl))))
  k_steps
  refine' hret _ _ _ [] ?e1 ?e2 (fun _ _ _ h => nomatch h) ⟨rfl, _, _, rfl, ?e3⟩
  case e1 => k_asm
  case e2 => k_asm
  case e3 => simp only [*]
theorem c_attribC (w : World) (mean : ExcName → Option Value) (mg mb : Str → Option Value) (x : Str) (tx : Tok) (hx : x.cps.size ≤ 3) (news : List (Addr × Obj)) :
    Gives w mean mg mb 114 [.str x tx] news 4 32 (fun r own => own = [] ∧ ∃ z t, r = .str z t ∧ z.cps.toList = (repl 13 (Str.ofString "&#xD;").cps.toList (repl 10 (Str.ofString "&#xA;").cps.toList (repl 9 (Str.ofString "&#x9;").cps.toList (repl 34 (Str.ofString "&quot;").cps.toList (repl 60 (Str.ofString "&lt;").cps.toList (repl 38 (Str.ofString "&amp;").cps.toList x.cps.toList))))))) := by
  w_top off; unfold Gives; k_fill
  intro dp un gd cn cs a ccd cl outer A₀ base h₀ L m s Q E B F X N T hk hd hu hret
  refine wpAny_call ?_
  k_dflt ktr_enter
  (rename Fr _ _ _ _ => F9)
  obtain ⟨M9, F9⟩ := frame_of F9 [(Str.ofString "text", .str x tx)] (by repeat' (first | exact List.forall_mem_nil _ | (refine List.forall_mem_cons.mpr ⟨?_, ?_⟩; (with_unfolding_all rfl))))
  k_steps
  refine' hret _ _ _ [] ?e1 ?e2 (fun _ _ _ h => nomatch h) ⟨rfl, _, _, rfl, ?e3⟩
  case e1 => k_asm
  case e2 => k_asm
  case e3 => simp only [*]
end
local macro_rules | `(tactic| k_steps) => `(tactic| repeat' (first | (k_unfold; (try dsimp only)) | walk1 | (dsimp only; walk1) | (leave1; try dsimp only) | fail "no step"))
local macro_rules | `(tactic| walk_at "ite") => `(tactic| (k_here; first | (refine ite_yes ?_ ?_; (k_dflt (first | exact rfl | decide))) | (refine ite_no ?_ ?_; (k_dflt (first | exact Bool.false_ne_true | decide)))))
section
set_option Elab.async false
set_option maxRecDepth 100000
set_option maxHeartbeats 8000000
local macro_rules | `(tactic| walk_at "call builtin:str.replace") => `(tactic| (k_here; k_dflt (refine' rule_repl ?hc ?hu ?hv ?huv ?hne ?hx ?hw ?hw1 ?_; (case hc => ktr_rel); (case hu => omega); (case hv => omega); (case huv => omega); (case hne => decide +kernel); (case hx => omega); (case hw => decide +kernel); (case hw1 => decide +kernel); intro t' k' z hk hz hs; (try dsimp only at hk))))
local macro_rules | `(tactic| walk_at "call builtin:str.replace") => `(tactic| (k_here; k_dflt (refine' rule_crnl ?hc ?hwS ?hu ?hv ?huv ?hx ?_; (case hc => exact sgCR); (case hwS => exact sg10); (case hu => omega); (case hv => omega); (case huv => omega); (case hx => omega); intro t' k' z hk hz hs; (try dsimp only at hk))))
theorem c_plain (w : World) (mean : ExcName → Option Value) (mg mb : Str → Option Value) (x : Str) (tx : Tok) (hx : x.cps.size ≤ 3) (news : List (Addr × Obj)) :
    Gives w mean mg mb 177 [.str x tx] news 4 32 (fun r own => own = [] ∧ ∃ z t, r = .str z t ∧ z.cps.toList = repl 13 (Str.ofString "\n").cps.toList (crnl x.cps.toList) ∧ z.cps.size ≤ 18) := by
  w_top off; unfold Gives; k_fill
  intro dp un gd cn cs a ccd cl outer A₀ base h₀ L m s Q E B F X N T hk hd hu hret
  refine wpAny_call ?_
  k_dflt ktr_enter
  k_steps
  refine' hret _ _ _ [] ?e1 ?e2 (fun _ _ _ h => nomatch h) ⟨rfl, _, _, rfl, ?e3, ?e4⟩
  case e1 => k_asm
  case e2 => k_asm
  case e3 => simp only [*]
  case e4 => omega
theorem c_kind (w : World) (mean : ExcName → Option Value) (mg mb : Str → Option Value) (x : Int) (tx : Tok) (news : List (Addr × Obj)) :
    Gives w mean mg mb 135 [.int x tx] news 4 32 (fun r own => ∃ l, r = .ref l ∧ own = [(l, listOf #[.bool (x == 0), .bool (decide (x < 256)), .bool (decide (256 ≤ x))] 0)]) := by
  w_top off; unfold Gives; k_fill
  intro dp un gd cn cs a ccd cl outer A₀ base h₀ L m s Q E B F X N T hk hd hu hret
  refine wpAny_call ?_
  k_dflt ktr_enter
  k_steps
  refine' hret _ _ _ [_] ?e1 ?e2 ?e4 ⟨_, rfl, rfl⟩
  case e1 => k_asm
  case e2 => k_asm
  case e4 => exact lt_one (by assumption)
end
section
set_option Elab.async false
set_option maxRecDepth 100000
set_option maxHeartbeats 8000000
theorem c_rule256 (w : World) (mean : ExcName → Option Value) (mg mb : Str → Option Value) (b : Bool) (tx : Tok) (news : List (Addr × Obj)) :
    Gives w mean mg mb 142 [.int 256 tx, .bool b] news 4 32 (fun r own => ∃ l vs, r = .ref l ∧ own = [(l, listOf vs.toArray 0)] ∧ IntsAre vs [20, 1, 254, 22, 253, 21, 255, 257, 20, 17, 1, 21]) := by
  w_top off; unfold Gives; k_fill
  intro dp un gd cn cs a ccd cl outer A₀ base h₀ L m s Q E B F X N T hk hd hu hret
  refine wpAny_call ?_
  k_dflt ktr_enter
  k_steps
  refine' hret _ _ _ [_] ?e1 ?e2 ?e4 ⟨_, _, rfl, rfl, ?e5⟩
  case e1 => k_asm
  case e2 => k_asm
  case e4 => exact lt_one (by assumption)
  case e5 => repeat (first | exact IntsAre.nil | refine IntsAre.cons _ _ ?_)
theorem c_rule257 (w : World) (mean : ExcName → Option Value) (mg mb : Str → Option Value) (b : Bool) (tx : Tok) (news : List (Addr × Obj)) :
    Gives w mean mg mb 142 [.int 257 tx, .bool b] news 4 32 (fun r own => ∃ l vs, r = .ref l ∧ own = [(l, listOf vs.toArray 0)] ∧ IntsAre vs (if b then [256, 255, 257] else [])) := by
  cases b
  all_goals
    w_top off; unfold Gives; k_fill
    intro dp un gd cn cs a ccd cl outer A₀ base h₀ L m s Q E B F X N T hk hd hu hret
    refine wpAny_call ?_
    k_dflt ktr_enter
    k_steps
    refine' hret _ _ _ [_] ?e1 ?e2 ?e4 ⟨_, _, rfl, rfl, ?e5⟩
    case e1 => k_asm
    case e2 => k_asm
    case e4 => exact lt_one (by assumption)
    case e5 =>
      first | exact IntsAre.nil | exact IntsAre.cons _ _ (IntsAre.cons _ _ (IntsAre.cons _ _ IntsAre.nil))
end
section
set_option Elab.async false
set_option maxRecDepth 100000
set_option linter.unusedSimpArgs false
set_option linter.unusedVariables false
theorem allLt_mem {d : Addr} (l : List (Addr × Obj)) (h : AllLt d l) (p : Addr × Obj) (hp : p ∈ l) : p.1 < d := by
  induction l with
  | nil => nomatch hp
  | cons q r ih =>
    have h1 : q.1 < d := h.1
    have h2 : AllLt d r := h.2
    rcases List.mem_cons.mp hp with e | hp
    · rw [e]; exact h1
    · exact ih h2 hp
theorem unr_end {h₀ : Heap} {L I : Addr} {it : Obj} {rest : (Str → Option Value) → List (Addr × Obj) → Prop} {s₁ : Shared} {h' : Heap} {tk : Nat} {m' : Str → Option Value} {tail : List (Addr × Obj)}
    (F : Fr h₀ L h' m') (N : News h₀ L h' ((I, it) :: tail)) (lt : AllLt I tail) (r : rest m' tail) : UnrEnd h₀ L s₁ I it rest { s₁ with heap := h', toks := tk } :=
  UnrEnd.intro F N tail (fun p h => h) (fun p hp => Nat.ne_of_lt (allLt_mem _ lt p hp)) r
section
variable {prog : Program} {w : World} {A : Around} {E : Value → Shared → Prop} {s : Shared} {env : Env} {h₀ : Heap} {x : Str} {body : List Stmt} {Q : Flow → Shared → Prop}
/-- a loop over a list that the call has made -/
theorem iter_made {l : Addr} {items : Array Value} {nL : Nat} {m₀ : Str → Option Value} {news : List (Addr × Obj)} (J : Nat → (Str → Option Value) → List (Addr × Obj) → Prop)
    (hh : A.handled = none) (F : Fr h₀ env.locals s.heap m₀) (N : News h₀ env.locals s.heap ((l, listOf items nL) :: news)) (hlo : ∀ p ∈ news, p.1 ≠ l) (hj : J 0 m₀ news)
    (turn : ∀ i v m₁ news₁ h tk own, items[i]? = some v → news₁.map (·.1) = news.map (·.1) → OwnOff own (news.map (·.1)) → J i m₁ news₁ → Fr h₀ env.locals h (fun y => if y = x then some v else m₁ y) → News h₀ env.locals h (news₁ ++ own) →
      wpAny (model prog w) A (execs body env) (InvPostN h₀ env.locals (J (i + 1)) own (news.map (·.1)) { s with heap := h, toks := tk } Q) E { s with heap := h, toks := tk })
    (done : ∀ m₁ news₁ h tk, J items.size m₁ news₁ → Fr h₀ env.locals h m₁ → News h₀ env.locals h news₁ → Q .next { s with heap := h, toks := tk }) :
    wpAny (model prog w) A (pyIter (.ref l)) (fun it s₂ => LoopAtV prog w A h₀ env x body Q E it s₂) E s := by
  have zl := N (l, listOf items nL) (.head _)
  have hls : s.heap.IsList l items := ⟨_, zl.1, rfl, nL, rfl⟩
  have hlt : l < s.heap.objs.size := Heap.lt_size zl.1
  have hne : l ≠ s.heap.objs.size := Nat.ne_of_lt hlt
  have Nn : News h₀ env.locals s.heap news := fun p hp => N p (.tail _ hp)
  refine wpAny_pyIter_list hls ?_
  have W := Walks.list (prog := prog) (w := w) hh s.heap.objs.size l hne items
  let J' : Nat → (Str → Option Value) → List (Addr × Obj) → Prop := fun i m₁ news₁ => news₁.map (·.1) = news.map (·.1) ∧ J i m₁ news₁
  refine ⟨_, _, _, items.size, _, _, m₀, news, J', rfl, W, ?_, ?_, ?_, ⟨⟨_, Heap.get?_push_size _ rfl, rfl, rfl⟩, hls.at fun o e => Heap.get?_push_of_some _ e⟩, F.push _, (fun p hp => ⟨Heap.get?_push_of_some _ (Nn p hp).1, (Nn p hp).2⟩), ⟨rfl, hj⟩, ?_, ?_⟩
  · intro hm
    rcases List.mem_cons.mp hm with e | hm
    · exact absurd F.ns.lt (e ▸ Nat.lt_irrefl _)
    · exact zl.2.1 (List.mem_singleton.mp hm).symm
  · intro b hb
    rw [List.mem_singleton.mp hb]
    exact next_is_new F
  · intro p hp hI
    exact absurd (Heap.lt_size (Nn p hp).1) ((List.mem_singleton.mp hI) ▸ Nat.lt_irrefl _)
  · rintro i v m₁ news₁ s₁ own ⟨hh', tk', rfl⟩ hin hP ⟨hadr, hJ⟩ hoff hown _ _ _ F₁ N₁
    have hsep : OwnOff own (news.map (·.1)) := by
      intro p hp b hb e
      obtain ⟨q, hq, rfl⟩ := List.mem_map.mp hb
      rcases List.mem_cons.mp (hown p hp) with h1 | h1
      · exact absurd (Heap.lt_size (Nn q hq).1) (by rw [← e, h1]; exact Nat.lt_irrefl _)
      · have h2 := List.mem_singleton.mp h1
        exact hlo q hq (by rw [← e, h2])
    have N₂ : News h₀ env.locals hh' (news₁ ++ own) := fun p hp => N₁ p ((List.mem_append.mp hp).elim (fun h => List.mem_append.mpr (.inr h)) fun h => List.mem_append.mpr (.inl h))
    refine wpAny_mono (turn i v m₁ news₁ hh' tk' own hP hadr hsep hJ F₁ N₂) (fun f s₂ p => ?_) fun _ _ e => e
    have fin : InvEndN h₀ env.locals (J (i + 1)) own (news.map (·.1)) { s with heap := hh', toks := tk' } s₂ → LoopStepU h₀ env.locals [s.heap.objs.size] own (J' (i + 1)) { s with heap := hh', toks := tk' } .next s₂ := by
      rintro ⟨h', tk, m', news', nx, e, F', N', hn, ho, ha, hm⟩
      refine ⟨rfl, h', tk, m', nx, e, F', fun p hp => N' p ((List.mem_append.mp hp).elim (ho p) (hn p)), fun p hp hq => ?_, ha, hm⟩
      have h1 : p.1 ∈ nx.map (·.1) := List.mem_map.mpr ⟨p, hp, rfl⟩
      rw [ha, ← hadr] at h1
      obtain ⟨q, hq1, hq2⟩ := List.mem_map.mp h1
      exact hoff q hq1 (by rw [hq2]; exact hq)
    cases f with
    | ret v => exact .ret p
    | brk => exact .brk p
    | next => exact .next (fin p)
    | cont => exact .cont (fin p)
  · rintro h' tk m' news' F' N' _ ⟨_, hJ⟩
    exact done m' news' h' tk hJ F' N'

/-- the same, with the names that stay -/
theorem iter_madeK {l : Addr} {items : Array Value} {nL : Nat} {m₀ : Str → Option Value} {news : List (Addr × Obj)} (ps : List (Str × Value)) (K : Nat → List (Addr × Obj) → Prop)
    (hh : A.handled = none) (F : Fr h₀ env.locals s.heap m₀) (N : News h₀ env.locals s.heap ((l, listOf items nL) :: news)) (hlo : ∀ p ∈ news, p.1 ≠ l) (hk : ∀ p ∈ ps, m₀ p.1 = some p.2) (hj : K 0 news)
    (turn : ∀ i v news₁ h tk own (M : Str → Option Value), items[i]? = some v → news₁.map (·.1) = news.map (·.1) → OwnOff own (news.map (·.1)) → K i news₁ → Fr h₀ env.locals h (kf M ((x, v) :: ps)) → News h₀ env.locals h (news₁ ++ own) →
      wpAny (model prog w) A (execs body env) (InvPostN h₀ env.locals (fun m' nx => (∀ p ∈ ps, m' p.1 = some p.2) ∧ K (i + 1) nx) own (news.map (·.1)) { s with heap := h, toks := tk } Q) E { s with heap := h, toks := tk })
    (done : ∀ (M : Str → Option Value) news₁ h tk, K items.size news₁ → Fr h₀ env.locals h (kf M ps) → News h₀ env.locals h news₁ → Q .next { s with heap := h, toks := tk }) :
    wpAny (model prog w) A (pyIter (.ref l)) (fun it s₂ => LoopAtV prog w A h₀ env x body Q E it s₂) E s := by
  refine iter_made (fun i m' nx => (∀ p ∈ ps, m' p.1 = some p.2) ∧ K i nx) hh F N hlo ⟨hk, hj⟩ ?_ ?_
  · rintro i v m₁ news₁ h tk own hv ha ho ⟨hm, hK⟩ F₁ N₁
    refine turn i v news₁ h tk own m₁ hv ha ho hK ?_ N₁
    have e : kf m₁ ((x, v) :: ps) = (fun y => if y = x then some v else m₁ y) := by
      funext y
      exact congrArg (fun q => if y = x then some v else q) (congrFun (kf_same hm) y)
    rw [e]; exact F₁
  · rintro m₁ news₁ h tk ⟨hm, hK⟩ F₁ N₁
    exact done m₁ news₁ h tk hK (by rw [kf_same hm]; exact F₁) N₁
/-- a loop over range(n): one name followed, the ledger stays -/
theorem iter_rangeE {r : Addr} {n : Nat} {t₀ u₀ v₀ : Tok} {m₀ : Str → Option Value} {news : List (Addr × Obj)} (nv : Str) (ps : List (Str × Value)) (V : Nat → Value → Prop)
    (hh : A.handled = none) (hr : IsRange s.heap r 0 (n : Int) 1 t₀ u₀ v₀) (hn : n ≤ 1000) (F : Fr h₀ env.locals s.heap m₀) (N : News h₀ env.locals s.heap news) (hv : ∃ v, (∀ p ∈ (nv, v) :: ps, m₀ p.1 = some p.2) ∧ V 0 v)
    (turn : ∀ i v h tk own (M : Str → Option Value) (K : Flow → Shared → Prop) t, i < n → V i v → Fr h₀ env.locals h (kf M ((x, .int (0 + i * 1) t) :: (nv, v) :: ps)) → News h₀ env.locals h (news ++ own) →
      (∀ h' tk' m' v', Fr h₀ env.locals h' m' → News h₀ env.locals h' (news ++ own) → (∀ p ∈ (nv, v') :: ps, m' p.1 = some p.2) → V (i + 1) v' → K .next { s with heap := h', toks := tk' }) →
      wpAny (model prog w) A (execs body env) K E { s with heap := h, toks := tk })
    (done : ∀ (M : Str → Option Value) v h tk, V n v → Fr h₀ env.locals h (kf M ((nv, v) :: ps)) → News h₀ env.locals h news → Q .next { s with heap := h, toks := tk }) :
    wpAny (model prog w) A (pyIter (.ref r)) (fun it s₂ => LoopAtV prog w A h₀ env x body Q E it s₂) E s := by
  refine wpAny_pyIter_range hr ?_ ?_
  · exact small_one (by omega) (by omega) (by omega) (by omega)
  have hsz : Builtin.Range.rangeSize 0 (n : Int) 1 = (n : Int) := by
    unfold Builtin.Range.rangeSize
    rw [if_pos (by decide)]
    split
    · simp
    · omega
  rw [hsz]
  have W := Walks.range (prog := prog) (w := w) hh s.heap.objs.size 0 1 n
  let J' : Nat → (Str → Option Value) → List (Addr × Obj) → Prop := fun i m₁ news₁ => news₁ = news ∧ ∃ v, (∀ p ∈ (nv, v) :: ps, m₁ p.1 = some p.2) ∧ V i v
  refine ⟨_, _, _, n, _, _, m₀, news, J', rfl, W, ?_, ?_, ?_, ?_, F.push _, (fun p hp => ⟨Heap.get?_push_of_some _ (N p hp).1, (N p hp).2⟩), ⟨rfl, hv⟩, ?_, ?_⟩
  · intro hm
    exact absurd F.ns.lt ((List.mem_singleton.mp hm) ▸ Nat.lt_irrefl _)
  · intro b hb
    rw [List.mem_singleton.mp hb]
    exact next_is_new F
  · intro p hp hI
    exact absurd (Heap.lt_size (N p hp).1) ((List.mem_singleton.mp hI) ▸ Nat.lt_irrefl _)
  · show IsRangeIter _ _ _ _ _
    have := Heap.get?_push_size (h := s.heap) (o := { cls := .type "range_iterator", data := .fields #[rawInt 0, rawInt (n : Int), rawInt 1] }) rfl
    simpa [IsRangeIter] using this
  · rintro i v m₁ news₁ s₁ own ⟨hh', tk', rfl⟩ hin ⟨t, rfl⟩ ⟨rfl, v', hv1, hv2⟩ hoff hown _ _ _ F₁ N₁
    have N₂ : News h₀ env.locals hh' (news₁ ++ own) := fun p hp => N₁ p ((List.mem_append.mp hp).elim (fun h => List.mem_append.mpr (.inr h)) fun h => List.mem_append.mpr (.inl h))
    have F₂ : Fr h₀ env.locals hh' (kf m₁ ((x, .int (0 + i * 1) t) :: (nv, v') :: ps)) := by
      have e2 : kf m₁ ((x, .int (0 + i * 1) t) :: (nv, v') :: ps) = (fun y => if y = x then some (Value.int (0 + i * 1) t) else m₁ y) := by
        funext y
        exact congrArg (fun q => if y = x then some (Value.int (0 + i * 1) t) else q) (congrFun (kf_same hv1) y)
      rw [e2]; exact F₁
    refine turn i v' hh' tk' own m₁ _ t hin hv2 F₂ N₂ ?_
    intro h' tk m' v2 F' N' g1 g3
    refine .next ⟨rfl, h', tk, m', news₁, rfl, F', fun p hp => N' p ((List.mem_append.mp hp).elim (fun h => List.mem_append.mpr (.inr h)) fun h => List.mem_append.mpr (.inl h)), fun p hp hq => ?_, rfl, v2, g1, g3⟩
    exact hoff p hp hq
  · rintro h' tk m' news' F' N' _ ⟨rfl, v', hv1, hv2⟩
    exact done m' v' h' tk hv2 (by rw [kf_same hv1]; exact F') N'
end
end
section
open PySem.Builtin PySem.Builtin.Str PySem.StrLaws
set_option Elab.async false
set_option maxRecDepth 100000
set_option linter.unusedSimpArgs false
set_option linter.unusedVariables false
theorem sz_toList (z : Str) : z.cps.size = z.cps.toList.length := Array.length_toList.symm
theorem clip_one (a len : Nat) : max (0 : Int) (min (a : Int) (len : Int)) = max (0 : Int) (min ((min a len : Nat) : Int) (len : Int)) := by
  rcases Nat.le_total a len with h | h
  · rw [Nat.min_eq_left h]
  · rw [Nat.min_eq_right h, Int.min_self, Int.min_eq_right (Int.ofNat_le.mpr h)]
theorem not_neg (a : Nat) : ¬ ((a : Int) < 0) := Int.not_lt.mpr (Int.natCast_nonneg a)
theorem sliceIdx_clip (a b len : Nat) : strSliceIndices (some (a : Int)) (some (b : Int)) 1 len = strSliceIndices (some ((min a len : Nat) : Int)) (some ((min b len : Nat) : Int)) 1 len := by
  simp only [strSliceIndices, not_neg, if_false, show ((1 : Int) > 0) = True from by simp, if_true]
  rw [clip_one a, clip_one b]
theorem sliced_any (x : Str) {a b : Nat} (hab : a ≤ b) : (strSliceIndices (some (a : Int)) (some (b : Int)) 1 x.length).filterMap (x.cps[·]?) = (x.cps.toList.drop a).take (b - a) := by
  have hl : x.length = x.cps.toList.length := by simp [Str.length]
  rw [sliceIdx_clip, sliced_plain x (a := min a x.length) (b := min b x.length) (by omega) (by omega)]
  by_cases h : a ≤ x.length
  · rw [Nat.min_eq_left h]
    by_cases h2 : b ≤ x.length
    · rw [Nat.min_eq_left h2]
    · rw [Nat.min_eq_right (by omega)]
      rw [List.take_of_length_le (by simp [hl]), List.take_of_length_le (by rw [List.length_drop]; omega)]
  · rw [Nat.min_eq_right (by omega : x.length ≤ a), List.drop_of_length_le (by omega : x.cps.toList.length ≤ x.length), List.drop_of_length_le (by omega : x.cps.toList.length ≤ a)]
    simp
theorem slice_list (x : Str) {a b : Nat} (hab : a ≤ b) : (Txt.slice x (some (a : Int)) (some (b : Int))).cps.toList = (x.cps.toList.drop a).take (b - a) := by
  show (sliceText x (some (a : Int)) (some (b : Int))).cps.toList = _
  unfold sliceText
  have h := sliced_any x hab
  split
  · rename_i hc
    have hlen : (strSliceIndices (some (a : Int)) (some (b : Int)) 1 x.length).length = x.length := by simpa using hc
    have h1 := sliceIdx_clip a b x.length
    rw [h1] at hlen
    have h2 := strSliceIndices_plain (a := min a x.length) (b := min b x.length) (len := x.length) (by omega) (by omega)
    rw [h2] at hlen
    simp at hlen
    have hl : x.length = x.cps.toList.length := by simp [Str.length]
    by_cases h0 : x.length = 0
    · have : x.cps.toList = [] := List.eq_nil_of_length_eq_zero (by omega)
      rw [this]; simp
    · have ha : a = 0 := by omega
      have hb : x.length ≤ b := by omega
      subst ha
      rw [List.drop_zero, List.take_of_length_le (by omega)]
  · show ((_ : List Nat).toArray).toList = _
    rw [h]
theorem slice_none (x : Str) (b : Nat) : (Txt.slice x none (some (b : Int))).cps.toList = x.cps.toList.take b := by
  have h := slice_list x (Nat.zero_le b)
  have e : Txt.slice x none (some (b : Int)) = Txt.slice x (some ((0 : Nat) : Int)) (some (b : Int)) := by
    show sliceText _ _ _ = sliceText _ _ _
    unfold sliceText
    rw [sliceIdx_none_lo]
    rfl
  rw [e, h]; simp
theorem slice_from (x : Str) (a : Nat) : (Txt.slice x (some (a : Int)) none).cps.toList = x.cps.toList.drop a := by
  have hl : x.length = x.cps.toList.length := by simp [Str.length]
  have e : Txt.slice x (some (a : Int)) none = Txt.slice x (some (a : Int)) (some (x.length : Int)) := by
    show sliceText _ _ _ = sliceText _ _ _
    unfold sliceText
    rw [sliceIdx_none_hi]
  rw [e]
  by_cases h : a ≤ x.length
  · rw [slice_list x h, List.take_of_length_le (by simp [hl])]
  · have e2 : Txt.slice x (some (a : Int)) (some (x.length : Int)) = Txt.slice x (some (x.length : Int)) (some (x.length : Int)) := by
      show sliceText _ _ _ = sliceText _ _ _
      unfold sliceText
      rw [sliceIdx_clip a x.length x.length, Nat.min_eq_right (by omega : x.length ≤ a), Nat.min_self]
    rw [e2, slice_list x (Nat.le_refl _), List.drop_of_length_le (by omega), List.drop_of_length_le (by omega)]
    simp
section
variable {prog : Program} {w : World} {A : Around} {E : Value → Shared → Prop} {s : Shared} {h₀ : Heap} {L : Addr} {m : Str → Option Value} {news : List (Addr × Obj)}
theorem cut_to {value slice : PySem.Expr} {x : Str} {t : Tok} {j : Int} {uj : Tok} {Q : Value → Shared → Prop} (F : Fr h₀ L s.heap m) (N : News h₀ L s.heap news) (hx : x.cps.size ≤ 1000000) (hj : 0 ≤ j)
    (h : ∀ h' t' k (z : Str), z.cps.toList = x.cps.toList.take j.toNat → z.cps.size ≤ x.cps.size → Fr h₀ L h' m → News h₀ L h' news → Q (.str z t') { s with heap := h', toks := k })
    (hs : subscripted slice false (.str x t) (.ref s.heap.objs.size) = operate [.ref s.heap.objs.size, .str x t] (getItem (.str x t) (.ref s.heap.objs.size)) := by with_unfolding_all rfl)
    (ht : ∀ r, letTemporaryGo value (.str x t) r = pure () := by intro _; with_unfolding_all rfl) :
    wpAny (model prog w) A (subscriptTail value slice (.str x t) (.ref s.heap.objs.size)) Q E { s with heap := s.heap.push { cls := .type "slice", data := .fields #[.none, .int j uj, .none] } } := by
  obtain ⟨b, rfl⟩ := Int.eq_ofNat_of_zero_le hj
  have e := slice_none x b
  refine slice_strN_ns F N (fun h' t' k F' N' => h h' t' k _ e ?_ F' N') hs ht (Nat.le_trans hx (by decide))
  rw [sz_toList, sz_toList, e]
  exact List.length_take_le' _ _
theorem cut_from {value slice : PySem.Expr} {x : Str} {t : Tok} {j : Int} {uj : Tok} {Q : Value → Shared → Prop} (F : Fr h₀ L s.heap m) (N : News h₀ L s.heap news) (hx : x.cps.size ≤ 1000000) (hj : 0 ≤ j)
    (h : ∀ h' t' k (z : Str), z.cps.toList = x.cps.toList.drop j.toNat → z.cps.size ≤ x.cps.size → Fr h₀ L h' m → News h₀ L h' news → Q (.str z t') { s with heap := h', toks := k })
    (hs : subscripted slice false (.str x t) (.ref s.heap.objs.size) = operate [.ref s.heap.objs.size, .str x t] (getItem (.str x t) (.ref s.heap.objs.size)) := by with_unfolding_all rfl)
    (ht : ∀ r, letTemporaryGo value (.str x t) r = pure () := by intro _; with_unfolding_all rfl) :
    wpAny (model prog w) A (subscriptTail value slice (.str x t) (.ref s.heap.objs.size)) Q E { s with heap := s.heap.push { cls := .type "slice", data := .fields #[.int j uj, .none, .none] } } := by
  obtain ⟨b, rfl⟩ := Int.eq_ofNat_of_zero_le hj
  have e := slice_from x b
  refine slice_strN_sn F N (fun h' t' k F' N' => h h' t' k _ e ?_ F' N') hs ht (Nat.le_trans hx (by decide))
  rw [sz_toList, sz_toList, e, List.length_drop]
  exact Nat.sub_le _ _
theorem cut_mid {value slice : PySem.Expr} {x : Str} {t : Tok} {i j : Int} {ui uj : Tok} {Q : Value → Shared → Prop} (F : Fr h₀ L s.heap m) (N : News h₀ L s.heap news) (hx : x.cps.size ≤ 1000000) (hi : 0 ≤ i) (hj : i ≤ j)
    (h : ∀ h' t' k (z : Str), z.cps.toList = (x.cps.toList.drop i.toNat).take (j - i).toNat → z.cps.size ≤ x.cps.size → Fr h₀ L h' m → News h₀ L h' news → Q (.str z t') { s with heap := h', toks := k })
    (hs : subscripted slice false (.str x t) (.ref s.heap.objs.size) = operate [.ref s.heap.objs.size, .str x t] (getItem (.str x t) (.ref s.heap.objs.size)) := by with_unfolding_all rfl)
    (ht : ∀ r, letTemporaryGo value (.str x t) r = pure () := by intro _; with_unfolding_all rfl) :
    wpAny (model prog w) A (subscriptTail value slice (.str x t) (.ref s.heap.objs.size)) Q E { s with heap := s.heap.push { cls := .type "slice", data := .fields #[.int i ui, .int j uj, .none] } } := by
  obtain ⟨a, rfl⟩ := Int.eq_ofNat_of_zero_le hi
  obtain ⟨b, rfl⟩ := Int.eq_ofNat_of_zero_le (Int.le_trans hi hj)
  have hab : a ≤ b := Int.ofNat_le.mp hj
  have e := slice_list x hab
  refine slice_strN_ss F N (fun h' t' k F' N' => h h' t' k _ (e.trans (congrArg (fun q => (x.cps.toList.drop a).take q) (Int.toNat_sub b a).symm)) ?_ F' N') hs ht (Nat.le_trans hx (by decide))
  rw [sz_toList, sz_toList, e, List.length_take, List.length_drop]
  exact Nat.le_trans (Nat.min_le_right _ _) (Nat.sub_le _ _)
theorem str_eq_iff (x y : Str) : (x == y) = (x.cps.toList == y.cps.toList) := by
  rw [Bool.eq_iff_iff, beq_iff_eq, beq_iff_eq]
  constructor
  · rintro rfl; rfl
  · intro h
    cases x; cases y
    simp at h
    rw [h]
theorem eq_txt {x y : Str} {t u : Tok} {Q : Value → Shared → Prop} (h : Q (.bool (x.cps.toList == y.cps.toList)) s) : wpAny (model prog w) A (compareOp .Eq (.str x t) (.str y u)) Q E s := by
  rw [← str_eq_iff] at h
  exact P.eq_str (by rw [eq_meets]; exact h)
end
end
section
open PySem.Builtin PySem.Builtin.Str PySem.StrLaws
set_option Elab.async false
set_option maxRecDepth 100000
set_option linter.unusedSimpArgs false
set_option linter.unusedVariables false
noncomputable def dotN (n : Nat) (r : List Nat) : List Nat := if r.head? = some 46 then List.replicate n 46 ++ r else r
noncomputable def joinNL : List (List Nat) → List Nat
  | [] => []
  | [r] => r
  | r :: q :: t => r ++ 10 :: joinNL (q :: t)
theorem strsAre_get {vs : List Value} {ys : List Str} (h : StrsAre vs ys) : ∀ {i : Nat} {v : Value}, vs[i]? = some v → ∃ y t, v = .str y t ∧ ys[i]? = some y := by
  induction h with
  | nil => intro i v h; simp at h
  | cons y t _ ih =>
    intro i v h
    cases i with
    | zero => simp at h; exact ⟨y, t, h.symm, rfl⟩
    | succ i => exact ih (by simpa using h)
theorem rowed_dotN {n : Nat} {r : List Nat} (h : Rowed r) : Rowed (dotN n r) := by
  unfold dotN
  split
  · intro k hk
    rcases List.mem_append.mp hk with h1 | h1
    · rw [List.eq_of_mem_replicate h1]; decide
    · exact h k h1
  · exact h
theorem join_nl (ys : List Str) : (Str.join ⟨#[10]⟩ ys).cps.toList = joinNL (ys.map (·.cps.toList)) := by
  induction ys with
  | nil => rfl
  | cons y r ih =>
    cases r with
    | nil => rfl
    | cons z r =>
      show (y ++ ⟨#[10]⟩ ++ Str.join ⟨#[10]⟩ (z :: r)).cps.toList = _
      rw [Str.cps_append, Str.cps_append, Array.toList_append, Array.toList_append, ih]
      show _ ++ [10] ++ joinNL _ = _ ++ 10 :: joinNL _
      rw [List.append_assoc]
      rfl
theorem txt_join_nl (ys : List Str) : (Txt.join (Str.ofString "\n") ys).cps.toList = joinNL (ys.map (·.cps.toList)) := by
  rw [show Str.ofString "\n" = ⟨#[10]⟩ from sg10]
  unfold Txt.join
  rw [StrLaws.glued_eq_join, join_nl]
theorem joinCR_len : ∀ rows : List (List Nat), rows.length ≤ (joinCR rows).length + 1
  | [] => by simp
  | [r] => by simp
  | r :: q :: t => by
    have ih := joinCR_len (q :: t)
    show (q :: t).length + 1 ≤ (r ++ 13 :: 10 :: joinCR (q :: t)).length + 1
    simp only [List.length_append, List.length_cons] at *
    omega
theorem take_snoc {α : Type} {l : List α} {i : Nat} {a : α} (h : l[i]? = some a) : l.take (i + 1) = l.take i ++ [a] := by
  rw [List.take_add_one, h]; rfl
section
variable {prog : Program} {w : World} {A : Around} {E : Value → Shared → Prop} {s : Shared} {h₀ : Heap} {L : Addr} {m : Str → Option Value} {news : List (Addr × Obj)}
theorem cut_toL {l : List Nat} {value slice : PySem.Expr} {x : Str} {t : Tok} {j : Int} {uj : Tok} {Q : Value → Shared → Prop} (F : Fr h₀ L s.heap m) (N : News h₀ L s.heap news) (hl : x.cps.toList = l) (hx : x.cps.size ≤ 1000000) (hj : 0 ≤ j)
    (h : ∀ h' t' k (z : Str), z.cps.toList = l.take j.toNat → z.cps.size ≤ x.cps.size → Fr h₀ L h' m → News h₀ L h' news → Q (.str z t') { s with heap := h', toks := k })
    (hs : subscripted slice false (.str x t) (.ref s.heap.objs.size) = operate [.ref s.heap.objs.size, .str x t] (getItem (.str x t) (.ref s.heap.objs.size)) := by with_unfolding_all rfl)
    (ht : ∀ r, letTemporaryGo value (.str x t) r = pure () := by intro _; with_unfolding_all rfl) :
    wpAny (model prog w) A (subscriptTail value slice (.str x t) (.ref s.heap.objs.size)) Q E { s with heap := s.heap.push { cls := .type "slice", data := .fields #[.none, .int j uj, .none] } } := by
  subst hl; exact cut_to F N hx hj h hs ht
theorem cut_fromL {l : List Nat} {value slice : PySem.Expr} {x : Str} {t : Tok} {j : Int} {uj : Tok} {Q : Value → Shared → Prop} (F : Fr h₀ L s.heap m) (N : News h₀ L s.heap news) (hl : x.cps.toList = l) (hx : x.cps.size ≤ 1000000) (hj : 0 ≤ j)
    (h : ∀ h' t' k (z : Str), z.cps.toList = l.drop j.toNat → z.cps.size ≤ x.cps.size → Fr h₀ L h' m → News h₀ L h' news → Q (.str z t') { s with heap := h', toks := k })
    (hs : subscripted slice false (.str x t) (.ref s.heap.objs.size) = operate [.ref s.heap.objs.size, .str x t] (getItem (.str x t) (.ref s.heap.objs.size)) := by with_unfolding_all rfl)
    (ht : ∀ r, letTemporaryGo value (.str x t) r = pure () := by intro _; with_unfolding_all rfl) :
    wpAny (model prog w) A (subscriptTail value slice (.str x t) (.ref s.heap.objs.size)) Q E { s with heap := s.heap.push { cls := .type "slice", data := .fields #[.int j uj, .none, .none] } } := by
  subst hl; exact cut_from F N hx hj h hs ht
theorem eq_lit {l : List Nat} {b : Bool} {x y : Str} {t u : Tok} {Q : Value → Shared → Prop} (hl : x.cps.toList = l) (hb : (l == y.cps.toList) = b) (h : Q (.bool b) s) : wpAny (model prog w) A (compareOp .Eq (.str x t) (.str y u)) Q E s := by
  subst hl; subst hb; exact eq_txt h
theorem ne_lit {l : List Nat} {b : Bool} {x y : Str} {t u : Tok} {Q : Value → Shared → Prop} (hl : x.cps.toList = l) (hb : (!(l == y.cps.toList)) = b) (h : Q (.bool b) s) : wpAny (model prog w) A (compareOp .NotEq (.str x t) (.str y u)) Q E s := by
  subst hl; subst hb
  rw [← str_eq_iff] at h
  exact P.ne_str (by rw [ne_meets]; exact h)
theorem in_no {c : Nat} {x cS : Str} {t u : Tok} {Q : Value → Shared → Prop} (hc : cS = ⟨#[c]⟩) (hx : c ∉ x.cps.toList) (h : Q (.bool false) s) : wpAny (model prog w) A (compareOp .In (.str cS u) (.str x t)) Q E s := by
  subst hc
  refine in_str ?_
  rw [StrLaws.found_one, decide_eq_false hx]
  exact h

theorem recv_end {l' : Addr} {lines : List (List Nat)} {line : List Nat} {i k : Nat} {its : Array Value} {ys : List Str} {z : Str} {t : Tok} {own : List (Addr × Obj)} {o : Obj} {m' : Str → Option Value} {ps : List (Str × Value)} {s₁ : Shared} {h' : Heap} {tk : Nat}
    (hS : StrsAre its.toList ys) (hys : ys.map (·.cps.toList) = lines.take i) (hsz : its.size ≤ i) (hline : lines[i]? = some line) (hz : z.cps.toList = line) (F : Fr h₀ L h' m') (N : News h₀ L h' ((l', listOf (its.push (.str z t)) (k + 1)) :: (news ++ own)))
    (same : ∀ p ∈ ps, m' p.1 = some p.2) :
    InvEndN h₀ L (fun m' nx => (∀ p ∈ ps, m' p.1 = some p.2) ∧ ∃ (its : Array Value) (k : Nat) (ys : List Str), nx = (l', listOf its k) :: news ∧ StrsAre its.toList ys ∧ ys.map (·.cps.toList) = lines.take (i + 1) ∧ its.size ≤ i + 1)
      own (((l', o) :: news).map (·.1)) s₁ { s₁ with heap := h', toks := tk } := by
  refine InvEndN.intro (nx := (l', listOf (its.push (.str z t)) (k + 1)) :: news) F N ⟨same, _, _, ys ++ [z], rfl, strsAre_push hS _ _, ?_, by simp; omega⟩ rfl ?_ ?_
  · rw [List.map_append, hys, take_snoc hline]
    simp [hz]
  · intro p hp
    rcases List.mem_cons.mp hp with rfl | hp
    · exact .head _
    · exact .tail _ (List.mem_append_left _ hp)
  · exact fun p hp => .tail _ (List.mem_append_right _ hp)

theorem dotN_hit {n i : Nat} (hi : i < n) {r : List Nat} : ∃ q, dotN (n - i) (46 :: r) = 46 :: 46 :: q ∧ dotN (n - (i + 1)) (46 :: r) = 46 :: q := by
  have hh : (46 :: r).head? = some 46 := rfl
  obtain ⟨k, rfl⟩ := Nat.exists_eq_add_of_le hi
  unfold dotN
  rw [if_pos hh, if_pos hh, Nat.add_sub_cancel_left, Nat.succ_add, ← Nat.add_succ, Nat.add_sub_cancel_left, List.replicate_succ]
  cases k with
  | zero => exact ⟨r, rfl, rfl⟩
  | succ k =>
    rw [List.replicate_succ]
    exact ⟨List.replicate k 46 ++ 46 :: r, rfl, rfl⟩
theorem dotN_zero (r : List Nat) : dotN 0 r = r := by unfold dotN; split <;> rfl
theorem dotN_miss {n : Nat} {r : List Nat} (h : ¬ r.head? = some 46) : dotN n r = r := by unfold dotN; rw [if_neg h]

theorem dotN_len (n : Nat) (r : List Nat) : r.length ≤ (dotN n r).length := by
  unfold dotN; split <;> simp
theorem sum_joinCR (n : Nat) : ∀ rows : List (List Nat), (rows.map (·.length)).sum ≤ (joinCR (rows.map (dotN n))).length
  | [] => by simp
  | [r] => by simpa [joinCR] using dotN_len n r
  | r :: q :: t => by
    have ih := sum_joinCR n (q :: t)
    have h1 := dotN_len n r
    show r.length + ((q :: t).map (·.length)).sum ≤ (dotN n r ++ 13 :: 10 :: joinCR ((q :: t).map (dotN n))).length
    simp only [List.length_append, List.length_cons]
    omega
theorem join_N {D : Addr} {items : Array Value} {nD : Nat} {ys : List Str} {t : Tok} {Q : Value → Shared → Prop} (N : News h₀ L s.heap news) (hm : (D, listOf items nD) ∈ news) (hi : StrsAre items.toList ys) (hok : (ys.map (·.length)).sum + ys.length ≤ 16777216)
    (h : ∀ t' k (z : Str), z.cps.toList = joinNL (ys.map (·.cps.toList)) → Q (.str z t') { s with toks := k }) : wpAny (model prog w) A (PySem.call (.builtin "str.join") [.str (Str.ofString "\n") t, .ref D]) Q E s := by
  refine join_list (D := D) (items := items) (ys := ys) ⟨_, (N _ hm).1, rfl, nD, rfl⟩ hi ?_ fun t' k => h t' k _ (txt_join_nl ys)
  have : (Str.ofString "\n").length = 1 := by rw [sg10]; rfl
  rw [this]; omega
end
end
local macro_rules | `(tactic| walk_at "execs cons") => `(tactic| (k_here; (try dsimp only); refine wpAny_execs_cons ?_))
local macro_rules | `(tactic| k_steps) => `(tactic| repeat' ((fail_if_success (with_reducible show wpAny _ _ (pyIter (Value.ref _)) _ _ _)); (fail_if_success (with_reducible show wpAny _ _ (exec (Stmt.While _ _ _ _) _) _ _ _)); first | (k_unfold; (try dsimp only)) | walk1 | (dsimp only; walk1) | (leave1; try dsimp only) | fail "no step"))
local macro_rules | `(tactic| k_all) => `(tactic| assumption)
local macro_rules | `(tactic| walk_at "UnrEnd") => `(tactic| (k_here; k_dflt (refine' unr_end ?F ?N ?lt ?_; (case F => k_asm); (case N => k_asm); (case lt => assumption))))
local macro_rules | `(tactic| walk_at "call builtin:list.append") => `(tactic| (k_here; (with_reducible show wpAny _ _ (call (Value.builtin _) [Value.ref _, _]) _ _ _); k_dflt (refine' append_K ?k1 ?k2 ?k3 ?_ ?z; (case k1 => k_asm); (case k2 => k_asm); (case k3 => k_upd); (case z => exact Nat.le_trans (by assumption) (by decide)); k_whole); intro h' F' N'; (try k_sweep)))
section
set_option Elab.async false
set_option maxRecDepth 100000
set_option maxHeartbeats 8000000

local macro_rules | `(tactic| walk_at "compareOp In str str") => `(tactic| (k_here; k_dflt (refine' in_no ?hc ?hx ?_; (case hc => ktr_rel); (case hx => assumption))))
local macro_rules | `(tactic| walk_at "subscriptTail Name Slice str ref") => `(tactic| (k_here; k_dflt (first
  | ((with_reducible show wpAny _ _ (subscriptTail _ (Expr.Slice none (some _) none _) _ _) _ _ _); refine' cut_toL (s := ⟨_, _, _, _, _⟩) ?F ?N ?hl ?hx ?hj ?_ ?hs ?ht; (case F => k_asm); (case N => k_asm); (case hl => assumption); (case hx => omega); (case hj => decide); (case hs => with_unfolding_all rfl); (case ht => (intro _; with_unfolding_all rfl)); intro h' t' k' z' hz' hs' F' N')
  | ((with_reducible show wpAny _ _ (subscriptTail _ (Expr.Slice (some _) none none _) _ _) _ _ _); refine' cut_fromL (s := ⟨_, _, _, _, _⟩) ?F ?N ?hl ?hx ?hj ?_ ?hs ?ht; (case F => k_asm); (case N => k_asm); (case hl => assumption); (case hx => omega); (case hj => decide); (case hs => with_unfolding_all rfl); (case ht => (intro _; with_unfolding_all rfl)); intro h' t' k' z' hz' hs' F' N'))))
local macro_rules | `(tactic| walk_at "compareOp Eq str str") => `(tactic| (k_here; k_dflt (first
  | (refine' eq_lit (b := true) ?hl ?hb ?_; (case hl => assumption); (case hb => first | exact rfl | decide +kernel))
  | (refine' eq_lit (b := false) ?hl ?hb ?_; (case hl => assumption); (case hb => first | exact rfl | decide +kernel | assumption)))))
local macro_rules | `(tactic| walk_at "compareOp NotEq str str") => `(tactic| (k_here; k_dflt (first
  | (refine' ne_lit (b := true) ?hl ?hb ?_; (case hl => assumption); (case hb => first | exact rfl | decide +kernel))
  | (refine' ne_lit (b := false) ?hl ?hb ?_; (case hl => assumption); (case hb => first | exact rfl | decide +kernel | assumption)))))
local macro_rules | `(tactic| walk_at "call builtin:str.join") => `(tactic| (k_here; k_dflt (refine' join_N ?N ?hm ?hi ?hok ?_; (case N => k_asm); (case hm => k_mem); (case hi => assumption); (case hok => assumption); intro t' k' z' hz')))
theorem c_recv (w : World) (mean : ExcName → Option Value) (mg mb : Str → Option Value) (x : Str) (tx tn : Tok) (n : Nat) (hn : n ≤ 1000) (lines : List (List Nat)) (h0 : lines ≠ []) (hr : ∀ r ∈ lines, Rowed r)
    (hx : x.cps.toList = joinCR (lines.map (dotN n))) (hxl : x.cps.size ≤ 100000) (news : List (Addr × Obj)) :
    Gives w mean mg mb 156 [.str x tx, .int n tn] news 4 32 (fun r own => own = [] ∧ ∃ z t, r = .str z t ∧ z.cps.toList = joinNL lines) := by
  w_top off; unfold Gives; k_fill
  intro dp un gd cn cs a ccd cl outer A₀ base h₀ L m s Q E B F X N T hk hd hu hret
  refine wpAny_call ?_
  k_dflt ktr_enter
  k_steps
  (with_reducible rename List.map _ _ = Txt.split _ _ => hsp)
  (rename StrsAre _ _ => hst)
  rename_i l' _ l1 _ _ N0 vl _ _ hle _ F1 N1
  have hrows : (vl.map (·.1)).map (·.cps.toList) = lines.map (dotN n) := by
    rw [hsp, sgCR]
    exact split_cr x _ (by simpa using h0) (fun r hr' => by obtain ⟨q, hq, rfl⟩ := List.mem_map.mp hr'; exact rowed_dotN (hr q hq)) hx
  have hlen : (strValues vl).length = lines.length := by
    have e1 := strsAre_length hst
    have e2 := congrArg List.length hrows
    simp at e1 e2
    simpa [e1] using e2
  have hL : lines.length ≤ 200000 := by
    have e1 := joinCR_len (lines.map (dotN n))
    rw [← hx] at e1
    simp at e1
    omega
  refine' iter_madeK [(Str.ofString "page", .ref l'), (Str.ofString "times", .int n tn)] (fun i news₁ => ∃ (its : Array Value) (k : Nat) (ys : List Str), news₁ = (l', listOf its k) :: news ∧ StrsAre its.toList ys ∧ ys.map (·.cps.toList) = lines.take i ∧ its.size ≤ i) rfl F1 N1 ?klo ?kps ⟨_, _, [], rfl, .nil, rfl, by simp⟩ ?turn ?done
  case kps => (repeat' (first | exact List.forall_mem_nil _ | (refine List.forall_mem_cons.mpr ⟨?_, ?_⟩; (with_unfolding_all rfl))))
  case klo => exact fun p hp => Nat.ne_of_lt (Heap.lt_size (N0 p hp).1)
  case turn =>
    intro i v news₁ h tk own M1 hv hadr hoff ⟨its, k, ys, e1, hS, hys, hsz⟩ F3 N3
    obtain ⟨y, t, rfl, hy⟩ := strsAre_get hst (by simpa using hv)
    obtain ⟨line, hline, hyl⟩ : ∃ line, lines[i]? = some line ∧ y.cps.toList = dotN n line := by
      have e := congrArg (fun q => q[i]?) hrows
      simp only [List.getElem?_map] at e
      rw [← List.getElem?_map, hy] at e
      cases hq : lines[i]? with
      | none => rw [hq] at e; simp at e
      | some line => rw [hq] at e; exact ⟨line, rfl, by simpa using e⟩
    have hrow : Rowed line := hr line (List.mem_of_getElem? hline)
    have hyr := rowed_dotN (n := n) hrow
    rw [← hyl] at hyr
    have h13 : 13 ∉ y.cps.toList := fun q => (hyr 13 q).2 rfl
    have h10 : 10 ∉ y.cps.toList := fun q => (hyr 10 q).1 rfl
    have hysz : y.cps.size ≤ 100000 := Nat.le_trans (hle y (List.mem_of_getElem? hy)) hxl
    have hits : its.size ≤ 200000 := by
      have := (List.getElem?_eq_some_iff.mp hline).1
      omega
    subst e1
    simp only [List.cons_append] at N3
    have hne : ∀ p ∈ news ++ own, p.1 ≠ l' := fun p hp => (List.mem_append.mp hp).elim (fun q => Nat.ne_of_lt (l1 p q)) fun q => hoff p q l' (by simp)
    clear hy hv hrows hlen hsp hst hadr hle N0 F1 N1
    refine gen_post fun K1 hK1 => ?_
    k_steps
    rename_i hR F4 N4 _
    refine' iter_rangeE (Str.ofString "row") [(Str.ofString "page", .ref l'), (Str.ofString "times", .int n tn)] (fun j v => ∃ z t, v = .str z t ∧ z.cps.size ≤ 100000 ∧ z.cps.toList = dotN (n - j) line) rfl hR hn F4 N4 ⟨_, ?kps2, y, t, rfl, hysz, hyl⟩ ?turn2 ?done2
    case kps2 => (repeat' (first | exact List.forall_mem_nil _ | (refine List.forall_mem_cons.mpr ⟨?_, ?_⟩; (with_unfolding_all rfl))))
    case turn2 =>
      rintro j v h2 tk2 own2 M2 K2 t2 hj ⟨z, tz, rfl, hzs, hzl⟩ F5 N5 back
      simp only [List.cons_append] at N5
      by_cases hh : line.head? = some 46
      · obtain ⟨r, rfl⟩ : ∃ r, line = 46 :: r := by
          cases line with
          | nil => simp at hh
          | cons a r => simp at hh; exact ⟨r, by rw [hh]⟩
        obtain ⟨q, hq1, hq2⟩ := dotN_hit (r := r) hj
        rw [hq1] at hzl
        k_steps
        refine' back _ _ _ _ ?ra1 ?ra2 ?ra3 ?ra5
        case ra1 => k_asm
        case ra2 => k_asm
        case ra3 => (repeat' (first | exact List.forall_mem_nil _ | (refine List.forall_mem_cons.mpr ⟨?_, ?_⟩; (with_unfolding_all rfl))))
        case ra5 => exact ⟨_, _, rfl, by omega, by rw [hq2]; assumption⟩
      · rw [dotN_miss hh] at hzl
        have hnd : (List.take (1 : Int).toNat line == (Str.ofString ".").cps.toList) = false := by
          rw [sg46]
          cases line with
          | nil => rfl
          | cons a r => simp at hh; simp [hh]
        k_steps
        refine' back _ _ _ _ ?rb1 ?rb2 ?rb3 ?rb5
        case rb1 => k_asm
        case rb2 => k_asm
        case rb3 => (repeat' (first | exact List.forall_mem_nil _ | (refine List.forall_mem_cons.mpr ⟨?_, ?_⟩; (with_unfolding_all rfl))))
        case rb5 => exact ⟨_, _, rfl, hzs, by rw [dotN_miss hh]; exact hzl⟩
    case done2 =>
      rintro M3 v h2 tk2 ⟨z, tz, rfl, hzs, hzl⟩ F5 N5
      rw [Nat.sub_self, dotN_zero] at hzl
      k_steps
      refine hK1 _ _ ?_
      refine' recv_end hS hys hsz hline hzl ?rc1 ?rc2 ?rc3
      case rc1 => k_asm
      case rc2 => k_asm
      case rc3 => (repeat' (first | exact List.forall_mem_nil _ | (refine List.forall_mem_cons.mpr ⟨?_, ?_⟩; (with_unfolding_all rfl))))
  case done =>
    rintro M4 news₁ h tk ⟨its, k, ys, rfl, hS, hys, hsz⟩ F3 N3
    rw [List.size_toArray, hlen, List.take_length] at hys
    have hsum : (ys.map (·.length)).sum + ys.length ≤ 16777216 := by
      have e1 := sum_joinCR n lines
      rw [← hx] at e1
      have e2 : ys.map (·.length) = lines.map (·.length) := by rw [← hys]; simp [Str.length]
      have e3 : ys.length = lines.length := by rw [← hys]; simp
      rw [e2, e3]
      simp at e1
      omega
    k_steps
    refine' hret _ _ _ [] ?e1 ?e2 (fun _ _ _ h => nomatch h) ⟨rfl, _, _, rfl, ?e3⟩
    case e1 => k_asm
    case e2 => exact cb_drop (by assumption) (fun p hp => .tail _ hp)
    case e3 => rw [← hys]; assumption
end
section
set_option Elab.async false
set_option maxRecDepth 100000
set_option linter.unusedSimpArgs false
set_option linter.unusedVariables false
theorem gives_use {w : World} {mean : ExcName → Option Value} {mg mb : Str → Option Value} {f : Addr} {vs : List Value} {news : List (Addr × Obj)} {dn uk : Nat} {Post : Value → List (Addr × Obj) → Prop}
    {dp un : Nat} {gd : Option (List Code)} {cn : Str} {cs : Scope} {a : Addr} {ccd : Value} {cl : List (Str × Addr)} {outer : List Env} {A₀ : Around} {base h₀ : Heap} {L : Addr} {m : Str → Option Value}
    {sh : Heap} {sg : Array GenState} {sd : Drawn} {st : Nat} {so : OsState} {Q E : Value → Shared → Prop}
    (B : Below A₀ base outer h₀) (F : Fr h₀ L sh m) (X : (Mine.hk.heap_1 w.params).In h₀) (N : News h₀ L sh news)
    (T : Top Mine.vw (looseW Mine.vw [Str.ofString "EXACT_TOKEN_TYPES", Str.ofString "_twin_re_1", Str.ofString "_twin_re_2"]) mean mg mb h₀) (hk : cs.kind = .function)
    (C : Gives w mean mg mb f vs news dn uk Post) (hd : dp + dn < recursionLimit) (hu : un + uk < cLine)
    (ret : ∀ r h' tk' own, Fr h₀ L h' m → News h₀ L h' (own ++ news) → (∀ q ∈ news, ∀ p ∈ own, q.1 < p.1) → Post r own → Q r ⟨h', sg, sd, tk', so⟩) :
    wpAny (model Challenge.rw_st0020_01.row.prog w) (ktrTop dp un gd cn cs L a ccd cl outer) (call (.ref f) vs) Q E ⟨sh, sg, sd, st, so⟩ := C _ _ _ _ _ _ _ _ _ _ _ _ _ _ _ _ _ B F X N T hk hd hu ret
/-- the same, for an answer that makes nothing -/
theorem gives_use0 {w : World} {mean : ExcName → Option Value} {mg mb : Str → Option Value} {f : Addr} {vs : List Value} {news : List (Addr × Obj)} {dn uk : Nat} {Post : Value → Prop}
    {dp un : Nat} {gd : Option (List Code)} {cn : Str} {cs : Scope} {a : Addr} {ccd : Value} {cl : List (Str × Addr)} {outer : List Env} {A₀ : Around} {base h₀ : Heap} {L : Addr} {m : Str → Option Value}
    {sh : Heap} {sg : Array GenState} {sd : Drawn} {st : Nat} {so : OsState} {Q E : Value → Shared → Prop}
    (B : Below A₀ base outer h₀) (F : Fr h₀ L sh m) (X : (Mine.hk.heap_1 w.params).In h₀) (N : News h₀ L sh news)
    (T : Top Mine.vw (looseW Mine.vw [Str.ofString "EXACT_TOKEN_TYPES", Str.ofString "_twin_re_1", Str.ofString "_twin_re_2"]) mean mg mb h₀) (hk : cs.kind = .function)
    (C : Gives w mean mg mb f vs news dn uk (fun r own => own = [] ∧ Post r)) (hd : dp + dn < recursionLimit) (hu : un + uk < cLine)
    (ret : ∀ r h' tk', Fr h₀ L h' m → News h₀ L h' news → Post r → Q r ⟨h', sg, sd, tk', so⟩) :
    wpAny (model Challenge.rw_st0020_01.row.prog w) (ktrTop dp un gd cn cs L a ccd cl outer) (call (.ref f) vs) Q E ⟨sh, sg, sd, st, so⟩ :=
  gives_use B F X N T hk C hd hu fun r h' tk' own F' N' _ ⟨e, p⟩ => by subst e; exact ret r h' tk' F' N' p
/-- the same, for an answer that is one new list -/
theorem gives_use1 {w : World} {mean : ExcName → Option Value} {mg mb : Str → Option Value} {f : Addr} {vs : List Value} {news : List (Addr × Obj)} {dn uk : Nat} {σ : Type} {O : σ → Obj} {Post : σ → Prop}
    {dp un : Nat} {gd : Option (List Code)} {cn : Str} {cs : Scope} {a : Addr} {ccd : Value} {cl : List (Str × Addr)} {outer : List Env} {A₀ : Around} {base h₀ : Heap} {L : Addr} {m : Str → Option Value}
    {sh : Heap} {sg : Array GenState} {sd : Drawn} {st : Nat} {so : OsState} {Q E : Value → Shared → Prop}
    (B : Below A₀ base outer h₀) (F : Fr h₀ L sh m) (X : (Mine.hk.heap_1 w.params).In h₀) (N : News h₀ L sh news)
    (T : Top Mine.vw (looseW Mine.vw [Str.ofString "EXACT_TOKEN_TYPES", Str.ofString "_twin_re_1", Str.ofString "_twin_re_2"]) mean mg mb h₀) (hk : cs.kind = .function)
    (C : Gives w mean mg mb f vs news dn uk (fun r own => ∃ l x, r = .ref l ∧ own = [(l, O x)] ∧ Post x)) (hd : dp + dn < recursionLimit) (hu : un + uk < cLine)
    (ret : ∀ l h' tk' x, Fr h₀ L h' m → News h₀ L h' ((l, O x) :: news) → (∀ q ∈ news, q.1 < l) → Post x → Q (.ref l) ⟨h', sg, sd, tk', so⟩) :
    wpAny (model Challenge.rw_st0020_01.row.prog w) (ktrTop dp un gd cn cs L a ccd cl outer) (call (.ref f) vs) Q E ⟨sh, sg, sd, st, so⟩ :=
  gives_use B F X N T hk C hd hu fun r h' tk' own F' N' lt ⟨l, x, e1, e2, p⟩ => by subst e1 e2; exact ret l h' tk' x F' N' (fun q hq => lt q hq _ (.head _)) p
theorem Gives.imp {w : World} {mean : ExcName → Option Value} {mg mb : Str → Option Value} {f : Addr} {vs : List Value} {news : List (Addr × Obj)} {dn uk : Nat} {P P' : Value → List (Addr × Obj) → Prop}
    (C : Gives w mean mg mb f vs news dn uk P) (h : ∀ r own, P r own → P' r own) : Gives w mean mg mb f vs news dn uk P' := by
  unfold Gives at C ⊢
  intro dp un gd cn cs a ccd cl outer A₀ base h₀ L m s Q E B F X N T hk hd hu hret
  exact C dp un gd cn cs a ccd cl outer A₀ base h₀ L m s Q E B F X N T hk hd hu fun r h' tk' own F' N' lt p => hret r h' tk' own F' N' lt (h r own p)
section
variable {prog : Program} {w : World} {A : Around} {E : Value → Shared → Prop} {sh : Heap} {sg : Array GenState} {sd : Drawn} {st : Nat} {so : OsState} {h₀ : Heap} {L D : Addr} {m : Str → Option Value} {news news' : List (Addr × Obj)} {n n2 : Nat}
theorem pop_x {us : List Value} {r : List Int} {x : Int} {Q : Value → Shared → Prop} (F : Fr h₀ L sh m) (N : News h₀ L sh news) (hi : IntsAre us (x :: r).reverse) (U : Upd D (listOf us.toArray n) (listOf us.dropLast.toArray (n + 1)) news news')
    (hz : r.length ≤ 500) (h : ∀ h' t, Fr h₀ L h' m → News h₀ L h' news' → IntsAre us.dropLast r.reverse → Q (.int x t) ⟨h', sg, sd, st, so⟩) : wpAny (model prog w) A (call (.builtin "list.pop") [.ref D]) Q E ⟨sh, sg, sd, st, so⟩ := by
  have hl := IntsAre.length hi
  simp at hl
  refine kpa_pop F N U hi (by omega) (by rw [PySem.sizeLine_eq]; omega) fun h' t F' N' h3 => ?_
  rw [List.reverse_cons] at h3 ⊢
  rw [List.dropLast_concat] at h3
  have e : (r.reverse ++ [x]).getLastD 0 = x := by
    rw [List.getLastD_eq_getLast?, List.getLast?_concat]; rfl
  rw [e]
  exact h h' t F' N' h3
theorem ints_app {us vs : List Value} {a b : List Int} (h : IntsAre us a) (k : IntsAre vs b) : IntsAre (us ++ vs) (a ++ b) := by
  induction h with
  | nil => exact k
  | cons x t r ih => exact .cons x t ih
theorem ext_ints {us vs : List Value} {a r : List Int} {b : Addr} {Q : Value → Shared → Prop} (F : Fr h₀ L sh m) (N : News h₀ L sh news) (hb : (b, listOf vs.toArray n2) ∈ news) (hi : IntsAre us r.reverse) (hj : IntsAre vs a.reverse) (hz : r.length + a.length ≤ 1000)
    (hne : a ≠ []) (U : Upd D (listOf us.toArray n) (listOf (us ++ vs).toArray (n + 1)) news news')
    (h : ∀ h', Fr h₀ L h' m → News h₀ L h' news' → IntsAre (us ++ vs) (a ++ r).reverse → Q .none ⟨h', sg, sd, st, so⟩) : wpAny (model prog w) A (call (.builtin "list.extend") [.ref D, .ref b]) Q E ⟨sh, sg, sd, st, so⟩ := by
  have hl := IntsAre.length hi
  have hl2 := IntsAre.length hj
  simp at hl hl2
  have hap : 0 < a.length := by
    cases a with
    | nil => exact absurd rfl hne
    | cons _ _ => simp
  refine kl_extend F N hb rfl (by show vs.length ≠ 0; omega) U ?_ (by rw [PySem.sizeLine_eq]; simp; omega) (by rw [PySem.sizeLine_eq]; simp; omega) (fun h' F' N' => h h' F' N' (by rw [List.reverse_append]; exact ints_app hi hj))
  simp only [Builtin.List.listTooLong, List.size_toArray, Bool.and_eq_true, decide_eq_true_eq, not_and]
  intro _
  have := PySem.sizeLine_eq
  first | omega | (simp [Builtin.List.listTooLong]; omega) | (intro q; simp at q; omega)
theorem ext_none {us vs : List Value} {r : List Int} {b : Addr} {Q : Value → Shared → Prop} (F : Fr h₀ L sh m) (N : News h₀ L sh news) (hb : (b, listOf vs.toArray n2) ∈ news) (hi : IntsAre us r.reverse) (hj : IntsAre vs ([] : List Int).reverse) (hz : r.length ≤ 500)
    (U : Upd D (listOf us.toArray n) (listOf us.toArray n) news news')
    (h : ∀ h', Fr h₀ L h' m → News h₀ L h' news' → Q .none ⟨h', sg, sd, st, so⟩) : wpAny (model prog w) A (call (.builtin "list.extend") [.ref D, .ref b]) Q E ⟨sh, sg, sd, st, so⟩ := by
  have hl := IntsAre.length hi
  have hl2 := IntsAre.length hj
  simp at hl hl2
  subst hl2
  refine kxn_extend F N hb rfl U ?_ (by rw [PySem.sizeLine_eq]; simp; omega) (by rw [PySem.sizeLine_eq]; simp; omega) h
  simp only [Builtin.List.listTooLong, List.size_toArray, Bool.and_eq_true, decide_eq_true_eq, not_and]
  intro _
  have := PySem.sizeLine_eq
  first | omega | (simp [Builtin.List.listTooLong]; omega) | (intro q; simp at q; omega)
theorem sub2 {x y : Addr × Obj} {news big : List (Addr × Obj)} (h1 : x ∈ big) (h2 : y ∈ big) (h3 : ∀ p ∈ news, p ∈ big) : ∀ p ∈ x :: y :: news, p ∈ big :=
  List.forall_mem_cons.mpr ⟨h1, List.forall_mem_cons.mpr ⟨h2, h3⟩⟩
theorem app_list {us : List Value} {x : Value} {Q : Value → Shared → Prop} (F : Fr h₀ L sh m) (N : News h₀ L sh news) (U : Upd D (listOf us.toArray n) (listOf (us ++ [x]).toArray (n + 1)) news news') (hz : us.length ≤ 1000)
    (h : ∀ h', Fr h₀ L h' m → News h₀ L h' news' → Q .none ⟨h', sg, sd, st, so⟩) : wpAny (model prog w) A (call (.builtin "list.append") [.ref D, x]) Q E ⟨sh, sg, sd, st, so⟩ :=
  append_K F N (by rw [List.push_toArray]; exact U) h (by rw [PySem.sizeLine_eq]; simp; omega)
theorem kind_eq {a b : Addr} {na nb : Nat} {x1 x2 x3 y1 y2 y3 : Bool} {Q : Value → Shared → Prop} (N : News h₀ L sh news) (ha : (a, listOf #[.bool x1, .bool x2, .bool x3] na) ∈ news) (hb : (b, listOf #[.bool y1, .bool y2, .bool y3] nb) ∈ news) (hu : A.units + 64 < cLine)
    (h : Q (.bool (x3 == y3 && x2 == y2 && x1 == y1)) ⟨sh, sg, sd, st, so⟩) : wpAny (model prog w) A (compareOp .Eq (.ref a) (.ref b)) Q E ⟨sh, sg, sd, st, so⟩ := by
  refine eq_dataH (da := .list [.bool x1, .bool x2, .bool x3]) (db := .list [.bool y1, .bool y2, .bool y3]) (reads_list_at (News.get N ha) rfl rfl (.cons (.bool _) (.cons (.bool _) (.cons (.bool _) .nil)))) (reads_list_at (News.get N hb) rfl rfl (.cons (.bool _) (.cons (.bool _) (.cons (.bool _) .nil)))) rfl rfl hu ?_
  have e : PyData.eqv (.list [.bool x1, .bool x2, .bool x3]) (.list [.bool y1, .bool y2, .bool y3]) = (x3 == y3 && x2 == y2 && x1 == y1) := by
    cases x1 <;> cases x2 <;> cases x3 <;> cases y1 <;> cases y2 <;> cases y3 <;> rfl
  rw [e]; exact h
theorem kind_self {a b : Addr} {na nb : Nat} {x1 x2 x3 : Bool} {Q : Value → Shared → Prop} (N : News h₀ L sh news) (ha : (a, listOf #[.bool x1, .bool x2, .bool x3] na) ∈ news) (hb : (b, listOf #[.bool x1, .bool x2, .bool x3] nb) ∈ news) (hu : A.units + 64 < cLine)
    (h : Q (.bool true) ⟨sh, sg, sd, st, so⟩) : wpAny (model prog w) A (compareOp .Eq (.ref a) (.ref b)) Q E ⟨sh, sg, sd, st, so⟩ := by
  refine kind_eq N ha hb hu ?_
  have e : (x3 == x3 && x2 == x2 && x1 == x1) = true := by cases x1 <;> cases x2 <;> cases x3 <;> rfl
  rw [e]; exact h
theorem eq_known {a b : Int} {t u : Tok} {v : Bool} {Q : Value → Shared → Prop} (hb : (a == b) = v) (h : Q (.bool v) ⟨sh, sg, sd, st, so⟩) : wpAny (model prog w) A (compareOp .Eq (.int a t) (.int b u)) Q E ⟨sh, sg, sd, st, so⟩ := by
  subst hb
  exact eq_int h
theorem pile_more {a b : Addr} {na nb : Nat} {us : List Value} {r : List Int} {x : Int} {Q : Value → Shared → Prop} (N : News h₀ L sh news) (ha : (a, listOf us.toArray na) ∈ news) (hb : (b, listOf #[] nb) ∈ news) (hi : IntsAre us (x :: r).reverse) (hu : A.units + 64 < cLine)
    (h : Q (.bool true) ⟨sh, sg, sd, st, so⟩) : wpAny (model prog w) A (compareOp .NotEq (.ref a) (.ref b)) Q E ⟨sh, sg, sd, st, so⟩ := by
  refine ke_ne_ints (xs := us) (ys := []) (ns := (x :: r).reverse) (ms := []) ⟨_, News.get N ha, rfl, _, rfl⟩ ⟨_, News.get N hb, rfl, _, rfl⟩ hi .nil hu ?_
  have e : decide ((x :: r).reverse = []) = false := by simp
  rw [e]; exact h
theorem pile_none {a b : Addr} {na nb : Nat} {us : List Value} {Q : Value → Shared → Prop} (N : News h₀ L sh news) (ha : (a, listOf us.toArray na) ∈ news) (hb : (b, listOf #[] nb) ∈ news) (hi : IntsAre us ([] : List Int).reverse) (hu : A.units + 64 < cLine)
    (h : Q (.bool false) ⟨sh, sg, sd, st, so⟩) : wpAny (model prog w) A (compareOp .NotEq (.ref a) (.ref b)) Q E ⟨sh, sg, sd, st, so⟩ :=
  ke_ne_ints (xs := us) (ys := []) (ns := []) (ms := []) ⟨_, News.get N ha, rfl, _, rfl⟩ ⟨_, News.get N hb, rfl, _, rfl⟩ hi .nil hu h
end
end
section
set_option Elab.async false
set_option maxRecDepth 100000
noncomputable def terms : List Int := [20, 1, 254, 22, 253, 21, 255, 17]
noncomputable def r256 : List Int := [20, 1, 254, 22, 253, 21, 255, 257, 20, 17, 1, 21]
/-- what a pile (its top first) can still give, with k spares -/
inductive Der : Nat → List Int → List Int → Prop
  | nil (k : Nat) : Der k [] []
  | term {k : Nat} {x : Int} {r t : List Int} : x ∈ terms → Der k r t → Der k (x :: r) (x :: t)
  | tag {k : Nat} {r t : List Int} : Der k (r256 ++ r) t → Der k (256 :: r) t
  | stop {k : Nat} {r t : List Int} : Der k (20 :: 17 :: r) t → Der k (257 :: 20 :: 17 :: r) t
  | more {k : Nat} {r t : List Int} : Der k (256 :: 255 :: 257 :: 20 :: 17 :: r) t → Der (k + 1) (257 :: 20 :: 17 :: r) t
noncomputable def wt (x : Int) : Nat := if x = 256 then 15 else if x = 257 then 2 else 1
noncomputable def mu (p : List Int) (k : Nat) : Nat := (p.map wt).sum + 20 * k
noncomputable def Wf : List Int → Prop
  | [] => True
  | x :: r => (x ∈ terms ∨ x = 256 ∨ (x = 257 ∧ ∃ c, r = 20 :: 17 :: c)) ∧ Wf r
theorem Wf.tag {r : List Int} (h : Wf r) : Wf (r256 ++ r) := by
  simp only [r256, List.cons_append, List.nil_append, Wf]
  simp [terms, h]
theorem Wf.grow {r : List Int} (h : Wf (20 :: 17 :: r)) : Wf (256 :: 255 :: 257 :: 20 :: 17 :: r) := by
  have h2 := h.2.2
  simp only [Wf]
  simp [terms, h2]
theorem terms_lt {x : Int} (h : x ∈ terms) : 1 ≤ x ∧ x < 256 := (show ∀ x ∈ terms, 1 ≤ x ∧ x < 256 by decide +kernel) x h
theorem mu_le (p : List Int) (k : Nat) : p.length ≤ mu p k := by
  unfold mu
  have : p.length ≤ (p.map wt).sum := by
    induction p with
    | nil => simp
    | cons x r ih =>
      have h1 : 1 ≤ wt x := by unfold wt; (repeat' split) <;> omega
      simp
      omega
  omega
theorem mu_cons (x : Int) (r : List Int) (k : Nat) : mu (x :: r) k = wt x + mu r k := by
  unfold mu; simp; omega
theorem mu_tag (r : List Int) (k : Nat) : mu (r256 ++ r) k + 2 = mu (256 :: r) k := by
  unfold mu r256
  simp [wt]
  omega
theorem mu_grow (r : List Int) (k : Nat) : mu (256 :: 255 :: 257 :: r) k + 4 = mu (257 :: r) (k + 1) := by
  unfold mu
  simp [wt]
  omega
theorem wt_term {x : Int} (h : x < 256) : wt x = 1 := by unfold wt; rw [if_neg (by omega), if_neg (by omega)]
end
section
set_option Elab.async false
set_option maxRecDepth 100000
section
variable {prog : Program} {w : World} {A : Around} {E : Value → Shared → Prop} {Q : Flow → Shared → Prop} {h : Heap} {g : Array GenState} {d : Drawn} {t : Nat} {o : OsState} {env : Env} {h₀ : Heap} {L : Addr}
/-- a loop whose turn knows of the world only what the state c tells: the frame's other names and what follows are variables -/
theorem kw_while {σ : Type} {test : Expr} {body : List Stmt} {pos : Pos} {m₀ : Str → Option Value} (Led : σ → List (Addr × Obj)) (ps : σ → List (Str × Value)) (P : σ → Prop) (μ : σ → Nat) (c₀ : σ)
    (F : Fr h₀ L h m₀) (N : News h₀ L h (Led c₀)) (hk : ∀ p ∈ ps c₀, m₀ p.1 = some p.2) (hp : P c₀)
    (turn : ∀ (c : σ) (M : Str → Option Value) (K : Flow → Shared → Prop) h tk, P c → Fr h₀ L h (kf M (ps c)) → News h₀ L h (Led c) →
      (∀ (c' : σ) f h' tk' m' news', Fr h₀ L h' m' → News h₀ L h' news' → (∀ p ∈ Led c', p ∈ news') → (∀ p ∈ ps c', m' p.1 = some p.2) → P c' → μ c' < μ c → (f = .next ∨ f = .cont) → K f ⟨h', g, d, tk', o⟩) →
      wpAny (model prog w) A (isTrue test env (eval test env)) (fun b s₂ =>
        if b = true then wpAny (model prog w) A (execs body env) K E s₂ else Q .next s₂) E ⟨h, g, d, tk, o⟩)
    (hE : PassesOwn (model prog w) A env E := by passes_own) :
    wpAny (model prog w) A (exec (.While test body [] pos) env) Q E ⟨h, g, d, t, o⟩ := by
  refine While_inv2 (fun n m nx => ∃ c : σ, nx = Led c ∧ μ c = n ∧ (∀ p ∈ ps c, m p.1 = some p.2) ∧ P c) F N ⟨c₀, rfl, rfl, hk, hp⟩ ?_ hE
  rintro n m₁ nx h₁ tk F₁ N₁ ⟨c, rfl, rfl, hk₁, hp₁⟩
  refine turn c m₁ _ h₁ tk hp₁ (by rw [kf_same hk₁]; exact F₁) N₁ ?_
  rintro c' f h' tk' m' news' F' N' hn hk' hp' hm (rfl | rfl)
  · exact ⟨h', tk', m', Led c', μ c', rfl, F', fun p hp => N' p (hn p hp), hm, c', rfl, rfl, hk', hp'⟩
  · exact ⟨h', tk', m', Led c', μ c', rfl, F', fun p hp => N' p (hn p hp), hm, c', rfl, rfl, hk', hp'⟩
end
/-- what the rule gives for x -/
noncomputable def grow (x : Int) (b : Bool) : List Int := if x = 256 then r256 else if b then [256, 255, 257] else []
theorem grow_len (x : Int) (b : Bool) : (grow x b).length ≤ 12 := by
  unfold grow; split
  · decide
  · split <;> decide
theorem grow_room {x : Int} {b : Bool} : (grow x b).length ≤ 500 := Nat.le_trans (grow_len x b) (by decide)
/-- how often a list that grows by a is changed -/
noncomputable def bump (a : List Int) (n : Nat) : Nat := if a = [] then n else n + 1
section
variable {prog : Program} {w : World} {A : Around} {E : Value → Shared → Prop} {s : Shared} {h₀ : Heap} {L : Addr} {m : Str → Option Value} {news news' : List (Addr × Obj)} {D : Addr} {n n2 : Nat}
theorem ext_any {us vs : List Value} {a r : List Int} {b : Addr} {Q : Value → Shared → Prop} (F : Fr h₀ L s.heap m) (N : News h₀ L s.heap news) (hb : (b, listOf vs.toArray n2) ∈ news) (hi : IntsAre us r.reverse) (hj : IntsAre vs a.reverse) (hz : r.length ≤ 500) (ha : a.length ≤ 500)
    (U : Upd D (listOf us.toArray n) (listOf (us ++ vs).toArray (bump a n)) news news')
    (h : ∀ h', Fr h₀ L h' m → News h₀ L h' news' → IntsAre (us ++ vs) (a ++ r).reverse → Q .none { s with heap := h' }) : wpAny (model prog w) A (call (.builtin "list.extend") [.ref D, .ref b]) Q E s := by
  cases a with
  | nil =>
    obtain rfl : vs = [] := List.eq_nil_of_length_eq_zero (IntsAre.length hj)
    rw [List.append_nil] at h U
    exact ext_none F N hb hi hj hz U fun h' F' N' => h h' F' N' hi
  | cons x l => exact ext_ints F N hb hi hj (by omega) (List.cons_ne_nil _ _) U h
theorem rev_any {value slice : PySem.Expr} {ops : List Value} {vs : List Value} {ns : List Int} {l : Addr} {t : Tok} {Q : Value → Shared → Prop} (F : Fr h₀ L s.heap m) (N : News h₀ L s.heap news) (hm : (l, listOf vs.toArray n) ∈ news) (hi : IntsAre vs ns) (hz : ns.length ≤ 500)
    (h : ∀ D ws h', Fr h₀ L h' m → News h₀ L h' ((D, listOf (List.toArray ws) 0) :: news) → (∀ p ∈ news, p.1 < D) → IntsAre ws ns.reverse → Q (.ref D) { s with heap := h' })
    (hs : subscripted slice false (.ref l) (.ref s.heap.objs.size) = operate ops (getItem (.ref l) (.ref s.heap.objs.size))) (ht : ∀ r, letTemporaryGo value (.ref l) r = pure ()) :
    wpAny (model prog w) A (subscriptTail value slice (.ref l) (.ref s.heap.objs.size)) Q E { s with heap := s.heap.push { cls := .type "slice", data := .fields #[.none, .none, .int (-1) t] } } :=
  krv_ints F N (News.isList N hm) (IsPart.int _ _) hi (fun D ws h' F' N' l1 h1 _ => h D ws h' F' N' l1 h1) hs ht (by rw [List.size_toArray, hi.length, PySem.sizeLine_eq]; omega)
end
theorem nonterm {x : Int} (h : x = 256 ∨ x = 257) : (x == 0) = false ∧ decide (x < 256) = false ∧ decide (256 ≤ x) = true := by
  obtain rfl | rfl := h <;> decide
end
section
set_option Elab.async false
set_option maxRecDepth 100000
theorem c_kindB (w : World) (mean : ExcName → Option Value) (mg mb : Str → Option Value) (x : Int) (tx : Tok) (news : List (Addr × Obj)) {b1 b2 b3 : Bool} (h1 : (x == 0) = b1) (h2 : decide (x < 256) = b2) (h3 : decide (256 ≤ x) = b3) :
    Gives w mean mg mb 135 [.int x tx] news 4 32 (fun r own => ∃ l, ∃ _u : Unit, r = .ref l ∧ own = [(l, listOf #[.bool b1, .bool b2, .bool b3] 0)] ∧ True) := by
  subst h1 h2 h3
  exact (c_kind w mean mg mb x tx news).imp fun r own ⟨l, e1, e2⟩ => ⟨l, (), e1, e2, trivial⟩
theorem c_ruleB (w : World) (mean : ExcName → Option Value) (mg mb : Str → Option Value) (x : Int) (b : Bool) (tx : Tok) (news : List (Addr × Obj)) (h : x = 256 ∨ x = 257) :
    Gives w mean mg mb 142 [.int x tx, .bool b] news 4 32 (fun r own => ∃ l vs, r = .ref l ∧ own = [(l, listOf vs.toArray 0)] ∧ IntsAre vs (grow x b)) := by
  obtain rfl | rfl := h
  · exact c_rule256 w mean mg mb b tx news
  · exact c_rule257 w mean mg mb b tx news
end
section
set_option Elab.async false
set_option maxRecDepth 100000
set_option linter.unusedSimpArgs false
set_option linter.unusedVariables false
/-- a dict of references: key, sign -/
inductive Names : List (Str × Value) → List (List Nat × Nat) → Prop
  | nil : Names [] []
  | cons (k y : Str) (t : Tok) (key : List Nat) (c : Nat) {kvs : List (Str × Value)} {D : List (List Nat × Nat)} : k.cps.toList = key → y.cps.toList = [c] → Names kvs D → Names ((k, .str y t) :: kvs) ((key, c) :: D)
theorem str_of_list {a b : Str} (h : a.cps.toList = b.cps.toList) : a = b := by
  cases a; cases b; simp at h; rw [h]
theorem Names.get {kvs : List (Str × Value)} {D : List (List Nat × Nat)} (h : Names kvs D) {k : Str} {c : Nat} (hk : (D.find? fun p => p.1 = k.cps.toList).map (·.2) = some c) : ∃ y t, valueAt kvs k = some (.str y t) ∧ y.cps.toList = [c] := by
  induction h with
  | nil => simp at hk
  | @cons k' y t key c' kvs D h1 h2 _ ih =>
    unfold valueAt at ih ⊢
    by_cases hh : k' = k
    · subst hh
      simp [h1] at hk
      refine ⟨y, t, by simp, ?_⟩
      rw [h2, hk]
    · have hne : ¬ key = k.cps.toList := fun q => hh (str_of_list (h1.trans q))
      simp [hne] at hk
      obtain ⟨y', t', h3, h4⟩ := ih (by simpa using hk)
      refine ⟨y', t', ?_, h4⟩
      rw [List.find?_cons]
      simp [hh]
      simpa using h3
theorem Names.vals {kvs : List (Str × Value)} {D : List (List Nat × Nat)} (h : Names kvs D) : ∀ p ∈ kvs, ∃ y t c, p.2 = .str y t ∧ y.cps.toList = [c] ∧ c ∈ D.map (·.2) := by
  induction h with
  | nil => intro p hp; nomatch hp
  | @cons k' y t key c' kvs D h1 h2 _ ih =>
    intro p hp
    rcases List.mem_cons.mp hp with rfl | hp
    · exact ⟨y, t, c', rfl, h2, by simp⟩
    · obtain ⟨y', t', c, h3, h4, h5⟩ := ih p hp
      exact ⟨y', t', c, h3, h4, by simp at h5 ⊢; exact .inr h5⟩

theorem dv_nocontains : typeLookup (.type "dict_values") "__contains__" = pure none := by rw [typeLookup_type, builtinLookup_eq_fast]; kernel_rfl
theorem ci_entry : entryFor table "proto.contains_iter" = some Builtin.«proto.contains_iter» := entryFor_of_tree (by kernel_rfl)
section
variable {prog : Program} {w : World} {A : Around} {E : Value → Shared → Prop} {s : Shared} {h₀ : Heap} {L d : Addr} {m : Str → Option Value} {news : List (Addr × Obj)} {o : Obj} {kvs : List (Str × Value)} {D : List (List Nat × Nat)}
theorem dict_at (N : News h₀ L s.heap news) (hp : (d, o) ∈ news) (hd : o.IsDictOf (PySem.strKind prog w) kvs) : ∃ ep, s.heap.DictAt (PySem.strKind prog w) d kvs ep := by
  obtain ⟨es, ep, h1, h2, h3, h4, h5⟩ := hd
  exact ⟨ep, o, es, (N _ hp).1, h1, h2, h3, h4, h5⟩
theorem fr_off {h h' : Heap} {I : Addr} (F : Fr h₀ L h m) (N : News h₀ L h news) (hI : h.objs.size ≤ I) (hk : ∀ b o, b ≠ I → h.get? b = some o → h'.get? b = some o) : Fr h₀ L h' m ∧ News h₀ L h' news :=
  ⟨⟨F.ns.at' fun o e => hk L o (Nat.ne_of_lt (Nat.lt_of_lt_of_le F.ns.lt hI)) e, fun b o e => hk b o (Nat.ne_of_lt (Nat.lt_of_lt_of_le (Heap.lt_size (F.keep b o e)) hI)) (F.keep b o e), F.above⟩,
   fun p hp => ⟨hk _ _ (Nat.ne_of_lt (Nat.lt_of_lt_of_le (Heap.lt_size (N p hp).1) hI)) (N p hp).1, (N p hp).2⟩⟩

theorem vals_loop {x : Str} {t : Tok} {I : Addr} {n : Nat} {P : Nat → Value → Prop} {St : Nat → Heap → Prop} {R : Result → Shared → Prop} {h₁ : Heap} (W : Walks prog w A.in1 I [I, d] [I] n P St)
    (hP : ∀ i v, P i v → ∃ y t, v = .str y t ∧ (y == x) = false)
    (hR : ∀ h' k, (∀ b o, b ≠ I → h₁.get? b = some o → h'.get? b = some o) → R (.ok (.ret (.bool false))) { s with heap := h', toks := k }) :
    ∀ (k i : Nat) (h : Heap) (tk : Nat), n - i = k → i ≤ n → St i h → (∀ b o, b ≠ I → h₁.get? b = some o → h.get? b = some o) →
      codeAny (model prog w) A (.builtin "proto.contains_iter" ⟨[.ref I, .str x t], []⟩) R { s with heap := h, toks := tk }
  | 0, i, h, tk, hk, hi, hst, hkeep => by
    have e : i = n := by omega
    subst e
    refine code_entry (by decide +kernel) ci_entry ?_
    unfold Builtin.«proto.contains_iter»
    dsimp only
    refine wpAny_bind (W.done _ _ _ hst fun h' tk' hk' => ?_)
    dsimp only
    refine wpAny_bind (wpAny_rule (wpAny_pure ?_))
    exact hR h' tk' fun b o hb ho => hk' b o (by simpa using hb) (hkeep b o hb ho)
  | k + 1, i, h, tk, hk, hi, hst, hkeep => by
    refine code_entry (by decide +kernel) ci_entry ?_
    unfold Builtin.«proto.contains_iter»
    dsimp only
    refine wpAny_bind (W.item i _ _ _ (by omega) hst fun v h' tk' hv hst' hk' => ?_)
    obtain ⟨y, ty, rfl, hne⟩ := hP i v hv
    dsimp only
    refine wpAny_bind (eqBool_str ?_)
    rw [hne, if_neg Bool.false_ne_true]
    refine wpAny_pure ⟨plainId_quiet (by decide +kernel) _, ?_⟩
    exact vals_loop W hP hR k (i + 1) h' tk' (by omega) (by omega) hst' fun b o hb ho => hk' b o (by simpa using hb) (hkeep b o hb ho)

theorem in_values_no {vw : Addr} {x : Str} {c : Nat} {t : Tok} {Q : Value → Shared → Prop} (hh : A.handled = none) (F : Fr h₀ L s.heap m) (N : News h₀ L s.heap news) (hp : (d, o) ∈ news) (hv : (vw, ({ cls := .type "dict_values", data := .fields #[.ref d] } : Obj)) ∈ news)
    (hd : o.IsDictOf (PySem.strKind prog w) kvs) (hN : Names kvs D) (hx : x.cps.toList = [c]) (hc : c ∉ D.map (·.2))
    (h : ∀ h' k, Fr h₀ L h' m → News h₀ L h' news → Q (.bool false) { s with heap := h', toks := k }) : wpAny (model prog w) A (compareOp .In (.str x t) (.ref vw)) Q E s := by
  obtain ⟨ep, hDA⟩ := dict_at N hp hd
  have hV : s.heap.IsValuesView vw d := ⟨_, (N _ hv).1, rfl, rfl⟩
  show wpAny _ _ (do return .bool (← contains (.ref vw) (.str x t))) Q E s
  refine wpAny_bind ?_
  unfold contains
  refine wpAny_holding ?_
  rw [stdlibNamesSay?_ref]
  dsimp only
  refine wpAny_bind (wpAny_specialOf hV.typeIs dv_nocontains ?_)
  rw [if_neg (by decide)]
  refine wpAny_bind (wpAny_callSpecialUnlessNone?_none hV.typeIs dv_nocontains ?_)
  dsimp only
  refine wpAny_bind (wpAny_rule ?_)
  refine wpAny_bind (wpAny_tryCatch (wpAny_pyIter_values hV hDA ?_))
  have hlt : d < s.heap.objs.size := Heap.lt_size (N _ hp).1
  have hne : d ≠ s.heap.objs.size := Nat.ne_of_lt hlt
  have W := Walks.dictValues (prog := prog) (w := w) (knd := PySem.strKind prog w) (A := A.in1) hh s.heap.objs.size d hne kvs ep
  refine wpAny_bind (wpAny_runValue ?_)
  refine vals_loop (h₁ := s.heap) (s := s) W ?_ ?_ kvs.length 0 _ s.toks rfl (Nat.zero_le _) ⟨⟨_, Heap.get?_push_size _ rfl, rfl, rfl⟩, hDA.at' fun o e => Heap.get?_push_of_some _ e⟩ fun b o _ e => Heap.get?_push_of_some _ e
  · rintro i v ⟨k, hk⟩
    obtain ⟨y, ty, c', h1, h2, h3⟩ := hN.vals (k, v) (List.mem_of_getElem? hk)
    refine ⟨y, ty, h1, ?_⟩
    rw [str_eq_iff, h2, hx]
    simp
    intro q
    exact hc (q ▸ h3)
  · intro h' k hk
    obtain ⟨F', N'⟩ := fr_off F N (Nat.le_refl _) hk
    exact wpAny_pure (wpAny_pure (h h' k F' N'))
theorem dict_method {name : Str} {id : String} {pl : Sem Bool} {Q : Value × List Value → Shared → Prop} (N : News h₀ L s.heap news) (hp : (d, o) ∈ news) (hd : o.IsDictOf (PySem.strKind prog w) kvs) (slot : Slot "dict" name id) (hty : typeOf (.builtin id) = pure (.type "method_descriptor"))
    (h : Q (.builtin id, [.ref d]) s) : wpAny (model prog w) A (getMethod (.ref d) name pl) Q E s :=
  have hD := kda_dict N hp hd
  getMethod_builtin hD.typeIs PySem.F.plainAttrs_dict slot hty hD.mapOf.noDict h
theorem dict_get {x : Str} {t : Tok} {v₂ : Value} {key : List Nat} {c : Nat} {Q : Value → Shared → Prop} (N : News h₀ L s.heap news) (hp : (d, o) ∈ news) (hd : o.IsDictOf (PySem.strKind prog w) kvs) (lo : (d == sysModules) = false) (hN : Names kvs D)
    (hx : x.cps.toList = key) (hk : (D.find? fun p => p.1 = key).map (·.2) = some c) (h : ∀ (y : Str) t k, y.cps.toList = [c] → y.cps.size = 1 → Q (.str y t) { s with toks := k }) :
    wpAny (model prog w) A (PySem.call (.builtin "dict.get") [.ref d, .str x t, v₂]) Q E s := by
  subst hx
  obtain ⟨y, ty, h1, h2⟩ := hN.get hk
  exact kdg_get2 N hp hd lo (strKind_is _ _ _ _) (some _) h1 (h y ty _ h2 (by have := congrArg List.length h2; simpa using this))
theorem dict_values {Q : Value → Shared → Prop} (F : Fr h₀ L s.heap m) (N : News h₀ L s.heap news) (hp : (d, o) ∈ news) (hd : o.IsDictOf (PySem.strKind prog w) kvs) (lo : (d == sysModules) = false)
    (h : ∀ v h', Fr h₀ L h' m → News h₀ L h' ((v, ({ cls := .type "dict_values", data := .fields #[.ref d] } : Obj)) :: news) → (∀ p ∈ news, p.1 < v) → Q (.ref v) { s with heap := h' }) :
    wpAny (model prog w) A (PySem.call (.builtin "dict.values") [.ref d]) Q E s := by
  have hD := kda_dict N hp hd
  refine call_meetsIn PySem.F.slot_dict_values hD.typeIs PySem.F.entry_dict_values (PySem.F.args_dict_values_1 _) (meets_dict_values (PySem.strKind prog w) d lo) ⟨⟨kvs, hD⟩, ?_⟩
  exact h s.heap.objs.size _ (F.push _) (N.push F _) fun p hp => Heap.lt_size (N p hp).1
end
end
section
open PySem.Builtin PySem.Builtin.Str PySem.StrLaws
set_option Elab.async false
set_option maxRecDepth 100000
set_option linter.unusedSimpArgs false
set_option linter.unusedVariables false
/-- a sign as it is spelled -/
noncomputable def spell1 (D : List (List Nat × Nat)) (c : Nat) : List Nat := match D.find? fun p => p.2 = c with
  | some p => p.1
  | none => [c]
noncomputable def spell (D : List (List Nat × Nat)) (l : List Nat) : List Nat := l.flatMap (spell1 D)
structure GoodD (D : List (List Nat × Nat)) (stop : Nat) : Prop where
  keys : ∀ p ∈ D, ∃ body, p.1 = 38 :: (body ++ [59]) ∧ 59 ∉ body
  back : ∀ p ∈ D, (D.find? fun q => q.1 = p.1).map (·.2) = some p.2
  amp : 38 ∈ D.map (·.2)
  other : stop ≠ 38
  stops : stop ∈ D.map (·.2)
theorem spell_nil (D : List (List Nat × Nat)) : spell D [] = [] := rfl
theorem spell_cons (D : List (List Nat × Nat)) (c : Nat) (r : List Nat) : spell D (c :: r) = spell1 D c ++ spell D r := rfl
theorem spell_append (D : List (List Nat × Nat)) (a b : List Nat) : spell D (a ++ b) = spell D a ++ spell D b := List.flatMap_append
theorem spell1_cases (D : List (List Nat × Nat)) (stop c : Nat) (g : GoodD D stop) : (∃ body, spell1 D c = 38 :: (body ++ [59]) ∧ 59 ∉ body ∧ (D.find? fun q => q.1 = spell1 D c).map (·.2) = some c) ∨ (spell1 D c = [c] ∧ c ∉ D.map (·.2) ∧ c ≠ 38 ∧ c ≠ stop) := by
  unfold spell1
  cases h : D.find? fun p => p.2 = c with
  | some p =>
    have hm := List.mem_of_find?_eq_some h
    have hc : p.2 = c := by simpa using List.find?_some h
    obtain ⟨body, h1, h2⟩ := g.keys p hm
    exact .inl ⟨body, h1, h2, by rw [← hc]; exact g.back p hm⟩
  | none =>
    have hn : c ∉ D.map (·.2) := by
      intro q
      obtain ⟨p, hp, e⟩ := List.mem_map.mp q
      have := List.find?_eq_none.mp h p hp
      simp at this
      exact this e
    exact .inr ⟨rfl, hn, fun e => hn (e ▸ g.amp), fun e => hn (e ▸ g.stops)⟩
section
variable {prog : Program} {w : World} {A : Around} {E : Value → Shared → Prop} {s : Shared}
theorem char_at {c : Nat} {r : List Nat} {value slice : PySem.Expr} {x : Str} {t : Tok} {i : Int} {u : Tok} {Q : Value → Shared → Prop} (hx : x.cps.toList.drop i.toNat = c :: r) (h0 : 0 ≤ i) (hsz : x.cps.size ≤ 1000000)
    (h : ∀ (z : Str) t' k, z.cps.toList = [c] → z.cps.size = 1 → Q (.str z t') { s with toks := k })
    (hs : subscripted slice false (.str x t) (.int i u) = operate [.str x t, .int i u] (getItem (.str x t) (.int i u)) := by with_unfolding_all rfl)
    (ht : ∀ r, letTemporaryGo value (.str x t) r = pure () := by intro _; with_unfolding_all rfl) :
    wpAny (model prog w) A (subscriptTail value slice (.str x t) (.int i u)) Q E s := by
  have hlt : i.toNat < x.cps.toList.length := by
    have := congrArg List.length hx
    simp at this
    simp
    omega
  have hlt' : i.toNat < x.cps.size := by simpa using hlt
  have hc : x.cps[i.toNat]? = some c := by
    rw [List.drop_eq_getElem_cons hlt] at hx
    have := (List.cons.inj hx).1
    rw [← this]
    simp [hlt']
  have hsl : x.length = x.cps.size := rfl
  refine item_str (fitsSsize_of (N := 9223372036854775808) (by omega) (by omega) (Int.le_refl _)) (by omega) (by omega) (fun _ => ?_) hs ht
  refine h _ _ _ ?_ rfl
  unfold Txt.item Txt.charAt
  rw [at_nonneg h0 hc]
  rfl
theorem find_semi {body rest : List Nat} {x : Str} {t u v : Tok} {i : Int} {Q : Value → Shared → Prop} (hx : x.cps.toList.drop i.toNat = 38 :: (body ++ [59]) ++ rest) (hb : 59 ∉ body) (h0 : 0 ≤ i)
    (h : Q (.int (i + body.length + 1) s.toks) { s with toks := s.toks + 1 }) : wpAny (model prog w) A (PySem.call (.builtin "str.find") [.str x t, .str (Str.ofString ";") u, .int i v]) Q E s := by
  refine SC.find3 ?_
  have e59 : Str.ofString ";" = ⟨#[59]⟩ := by decide +kernel
  rw [e59]
  have hl : x.length = x.cps.toList.length := by simp [Str.length]
  have hlen := congrArg List.length hx
  simp at hlen
  have hfi : fromIndex x.length i = i.toNat := by unfold fromIndex; rw [if_neg (by omega)]; omega
  -- the sign at place i + j
  have hat : ∀ j, x.cps.toList[i.toNat + j]? = (38 :: (body ++ [59]) ++ rest)[j]? := by
    intro j
    rw [← List.getElem?_drop, hx]
  have hgd : ∀ j (hj : i.toNat + j < x.cps.size), x.cps.getD (i.toNat + j) 0 = ((38 :: (body ++ [59]) ++ rest)[j]?).getD 0 := by
    intro j hj
    rw [← hat j]
    simp [hj]
  have h59 : x.cps.getD (i.toNat + (body.length + 1)) 0 = 59 := by
    rw [hgd _ (by omega)]
    simp
  have hno : ∀ v, i.toNat ≤ v → v < i.toNat + (body.length + 1) → x.cps.getD v 0 ≠ 59 := by
    intro v h1 h2
    obtain ⟨j, rfl⟩ := Nat.le.dest h1
    rw [hgd _ (by omega)]
    cases j with
    | zero => simp
    | succ j =>
      have hj : j < body.length := by omega
      simp [List.getElem?_append_left, hj]
      exact fun q => hb (q ▸ List.getElem_mem hj)
  have key : Txt.find3 x ⟨#[59]⟩ i = i + body.length + 1 := by
    rcases find3_spec x 59 i with ⟨_, hn⟩ | ⟨k, hk, h1, h2, h3, h4⟩
    · rw [hfi] at hn
      exact absurd h59 (hn _ (by omega) (by rw [hl]; simp; omega))
    · rw [hfi] at h1 h4
      have a1 : ¬ k < i.toNat + (body.length + 1) := fun q => hno k h1 q h3
      have a2 : ¬ i.toNat + (body.length + 1) < k := fun q => h4 _ (by omega) q h59
      rw [hk]
      omega
  rw [key]
  exact h
theorem cut_key {h₀ : Heap} {L : Addr} {m : Str → Option Value} {news : List (Addr × Obj)} {key rest : List Nat} {value slice : PySem.Expr} {x : Str} {t : Tok} {i j : Int} {ui uj : Tok} {Q : Value → Shared → Prop} (F : Fr h₀ L s.heap m) (N : News h₀ L s.heap news) (hx : x.cps.toList.drop i.toNat = key ++ rest) (hsz : x.cps.size ≤ 1000000) (hi : 0 ≤ i) (hj : j = i + key.length)
    (h : ∀ h' t' k (z : Str), z.cps.toList = key → z.cps.size ≤ x.cps.size → Fr h₀ L h' m → News h₀ L h' news → Q (.str z t') { s with heap := h', toks := k })
    (hs : subscripted slice false (.str x t) (.ref s.heap.objs.size) = operate [.ref s.heap.objs.size, .str x t] (getItem (.str x t) (.ref s.heap.objs.size)) := by with_unfolding_all rfl)
    (ht : ∀ r, letTemporaryGo value (.str x t) r = pure () := by intro _; with_unfolding_all rfl) :
    wpAny (model prog w) A (subscriptTail value slice (.str x t) (.ref s.heap.objs.size)) Q E { s with heap := s.heap.push { cls := .type "slice", data := .fields #[.int i ui, .int j uj, .none] } } := by
  refine cut_mid F N hsz hi (by omega) (fun h' t' k z hz => h h' t' k z ?_) hs ht
  rw [hz, hx, show (j - i).toNat = key.length by omega, List.take_left]
end
end
local macro_rules | `(tactic| walk_at "storeName") => `(tactic| (k_here; k_dflt (refine' storeF ?F ?N ?_ ?a ?b; (case F => k_asm); (case N => k_asm); (case a => rfl); (case b => rfl)); intro h' F' N'))
local macro_rules | `(tactic| walk_at "ite") => `(tactic| (k_here; first | (refine ite_yes ?_ ?_; (k_dflt (first | exact rfl | decide | exact decide_eq_true (by assumption)))) | (refine ite_no ?_ ?_; (k_dflt (first | exact Bool.false_ne_true | decide | exact fun h => absurd (of_decide_eq_true h) (by assumption))))))
local macro_rules | `(tactic| walk_at "inplaceOp Add str str") => `(tactic| (k_here; k_dflt (refine' iadd_sz ?hx ?hy ?_; (case hx => omega); (case hy => omega); intro t' k' z' hz' hs')))
section
set_option Elab.async false
set_option maxRecDepth 100000
set_option maxHeartbeats 8000000
local macro_rules | `(tactic| k_mem) => `(tactic| assumption)
local macro_rules | `(tactic| walk_at "subscriptTail Name Name str int") => `(tactic| (k_here; k_dflt (refine' char_at ?hx ?h0 ?hsz ?_ ?hs ?ht; (case hx => assumption); (case h0 => omega); (case hsz => omega); (case hs => with_unfolding_all rfl); (case ht => (intro _; with_unfolding_all rfl)); intro z' t' k' hz' hs')))
local macro_rules | `(tactic| walk_at "subscriptTail Name Slice str ref") => `(tactic| (k_here; k_dflt (refine' cut_key (s := ⟨_, _, _, _, _⟩) ?F ?N ?hx ?hsz ?hi ?hj ?_ ?hs ?ht; (case F => k_asm); (case N => k_asm); (case hx => assumption); (case hsz => omega); (case hi => omega); (case hj => (simp only [List.length_cons, List.length_append, List.length_nil]; omega)); (case hs => with_unfolding_all rfl); (case ht => (intro _; with_unfolding_all rfl)); intro h' t' k' z' hz' hs' F' N')))
local macro_rules | `(tactic| walk_at "compareOp Eq str str") => `(tactic| (k_here; k_dflt (first
  | (refine' eq_lit (b := true) ?hl ?hb ?_; (case hl => assumption); (case hb => assumption))
  | (refine' eq_lit (b := false) ?hl ?hb ?_; (case hl => assumption); (case hb => assumption)))))
local macro_rules | `(tactic| walk_at "compareOp NotEq str str") => `(tactic| (k_here; k_dflt (first
  | (refine' ne_lit (b := true) ?hl ?hb ?_; (case hl => assumption); (case hb => assumption))
  | (refine' ne_lit (b := false) ?hl ?hb ?_; (case hl => assumption); (case hb => assumption)))))
local macro_rules | `(tactic| walk_at "call builtin:str.find") => `(tactic| (k_here; k_dflt (refine' find_semi ?hx ?hb ?h0 ?_; (case hx => assumption); (case hb => assumption); (case h0 => omega))))
local macro_rules | `(tactic| walk_at "getMethod ref") => `(tactic| (k_here; (with_reducible show wpAny _ _ (getMethod (Value.ref _) (Str.ofString "get") _) _ _ _); k_dflt (refine' dict_method ?N ?hp ?hd PySem.F.slot_dict_get PySem.F.type_dict_get ?_; (case N => k_asm); (case hp => k_mem); (case hd => assumption))))
local macro_rules | `(tactic| walk_at "getMethod ref") => `(tactic| (k_here; (with_reducible show wpAny _ _ (getMethod (Value.ref _) (Str.ofString "values") _) _ _ _); k_dflt (refine' dict_method ?N ?hp ?hd PySem.F.slot_dict_values PySem.F.type_dict_values ?_; (case N => k_asm); (case hp => k_mem); (case hd => assumption))))
local macro_rules | `(tactic| walk_at "call builtin:dict.get") => `(tactic| (k_here; k_dflt (refine' dict_get ?N ?hp ?hd ?lo ?hN ?hx ?hk ?_; (case N => k_asm); (case hp => k_mem); (case hd => assumption); (case lo => assumption); (case hN => assumption); (case hx => assumption); (case hk => assumption); intro y' t' k' hy' hs')))
local macro_rules | `(tactic| walk_at "call builtin:dict.values") => `(tactic| (k_here; k_dflt (refine' dict_values ?F ?N ?hp ?hd ?lo ?_; (case F => k_asm); (case N => k_asm); (case hp => k_mem); (case hd => assumption); (case lo => assumption); intro v' h' F' N' l1)))
local macro_rules | `(tactic| walk_at "compareOp In str ref") => `(tactic| (k_here; k_dflt (refine' in_values_no ?hh ?F ?N ?hp ?hv ?hd ?hN ?hx ?hc ?_; (case hh => exact rfl); (case F => k_asm); (case N => k_asm); (case hv => exact .head _); (case hp => exact .tail _ (by assumption)); (case hd => assumption); (case hN => assumption); (case hx => assumption); (case hc => assumption); intro h' k' F' N')))
theorem app_eq {a a' b b' : List Nat} (h : a = a') (k : b = b') : a ++ b = a' ++ b' := by rw [h, k]
structure PSt where
  d1 : List Nat
  d2 : List Nat
  z : Str
  t : Tok
  k : Int
  tk : Tok
theorem c_piece (w : World) (mean : ExcName → Option Value) (mg mb : Str → Option Value) (page stopS : Str) (tx ta ts : Tok) (pos : Nat) (stop : Nat) (hstop : stopS.cps.toList = [stop]) (D : List (List Nat × Nat)) (g : GoodD D stop) (dw post : List Nat)
    (hpg : page.cps.toList.drop pos = spell D dw ++ stop :: post) (hsz : page.cps.size ≤ 100000) (hdw : dw.length ≤ 1000) (d : Addr) (o : Obj) (kvs : List (Str × Value)) (news : List (Addr × Obj)) (hp : (d, o) ∈ news)
    (hd' : o.IsDictOf (PySem.strKind Challenge.rw_st0020_01.row.prog w) kvs) (hN : Names kvs D) (lo : (d == sysModules) = false) :
    Gives w mean mg mb 163 [.str page tx, .int pos ta, .str stopS ts, .ref d] news 4 32 (fun r own => ∃ l z t t', r = .ref l ∧ own = [(l, listOf #[.str z t, .int (pos + (spell D dw).length : Nat) t'] 0)] ∧ z.cps.toList = dw) := by
  w_top off; unfold Gives; k_fill
  intro dp un gd cn cs a ccd cl outer A₀ base h₀ L m s Q E B F X N T hk hd hu hret
  refine wpAny_call ?_
  k_dflt ktr_enter
  k_steps
  rename_i F1 N1
  have hsl : page.length = page.cps.toList.length := by simp [Str.length]
  have hlen := congrArg List.length hpg
  simp only [List.length_drop, List.length_append, List.length_cons] at hlen
  have hsz' : page.cps.toList.length ≤ 100000 := by simpa using hsz
  refine' kw_while (σ := PSt) (fun _ => news) (fun c => [(Str.ofString "word", .str c.z c.t), (Str.ofString "at", .int c.k c.tk), (Str.ofString "page", .str page tx), (Str.ofString "stop", .str stopS ts), (Str.ofString "names", .ref d)])
    (fun c => dw = c.d1 ++ c.d2 ∧ c.z.cps.toList = c.d1 ∧ c.k = ((pos + (spell D c.d1).length : Nat) : Int)) (fun c => c.d2.length) ⟨[], dw, _, _, pos, ta⟩ F1 N1 ?kk ⟨rfl, sgE, by simp [spell_nil]⟩ ?turn
  case kk => (repeat' (first | exact List.forall_mem_nil _ | (refine List.forall_mem_cons.mpr ⟨?_, ?_⟩; (with_unfolding_all rfl))))
  rintro ⟨d1, d2, z, t, k, tk⟩ M K h tk2 ⟨hdd, hz, hkk⟩ F3 N3 back
  dsimp only at hdd hz hkk F3 N3
  have hzs : z.cps.size ≤ 1000 := by
    have e1 := congrArg List.length hz
    have e2 := congrArg List.length hdd
    simp only [List.length_append, Array.length_toList] at e1 e2
    omega
  have hk0 : 0 ≤ k := by omega
  have hkn : k.toNat = pos + (spell D d1).length := by omega
  have hdrop : page.cps.toList.drop k.toNat = spell D d2 ++ stop :: post := by
    rw [hkn, ← List.drop_drop, hpg, hdd, spell_append, List.append_assoc, List.drop_left]
  have hdl := congrArg List.length hdrop
  simp only [List.length_drop, List.length_append, List.length_cons] at hdl
  have hlt : k < (page.length : Int) := by omega
  cases d2 with
  | nil =>
    rw [spell_nil] at hdrop
    have hne0 : (!([stop] == stopS.cps.toList)) = false := by rw [hstop]; simp
    have hdd' : dw = d1 := by simpa using hdd
    subst hdd'
    clear hpg hlen hdl hdd F1 N1
    k_steps
    refine' hret _ _ _ [_] ?e1 ?e2 ?e4 ⟨_, _, _, _, rfl, rfl, hz⟩
    case e1 => k_asm
    case e2 => rw [← hkk]; k_asm
    case e4 => exact lt_one (by assumption)
  | cons c d2 =>
    rw [spell_cons, List.append_assoc] at hdrop
    have hemp : ([c] == (Str.ofString "").cps.toList) = false := by rw [sgE]; rfl
    have e38 : (Str.ofString "&").cps.toList = [38] := by rw [sg38]
    rcases spell1_cases D stop c g with ⟨body, hb1, hb2, hb3⟩ | ⟨hr1, hr2, hr3, hr4⟩
    · have hne1 : (!([38] == stopS.cps.toList)) = true := by rw [hstop]; simp; exact fun q => g.other q.symm
      have heq1 : ([38] == (Str.ofString "&").cps.toList) = true := by rw [e38]; rfl
      rw [hb1] at hdrop hb3
      have hdrop2 : page.cps.toList.drop k.toNat = 38 :: ((body ++ [59]) ++ (spell D d2 ++ stop :: post)) := hdrop
      have hl1 : (spell1 D c).length = body.length + 2 := by rw [hb1]; simp
      clear hpg hlen hdl F1 N1
      k_steps
      refine' back ⟨d1 ++ [c], d2, _, _, _, _⟩ _ _ _ _ _ ?q1 ?q2 ?q3 ?q5 ?q7 ?q8 (.inl rfl)
      case q1 => k_asm
      case q2 => k_asm
      case q3 => exact fun p hp => by first | exact hp | exact .tail _ hp
      case q5 => (repeat' (first | exact List.forall_mem_nil _ | (refine List.forall_mem_cons.mpr ⟨?_, ?_⟩; (with_unfolding_all rfl))))
      case q7 => (rename _ = _ ++ _ => hz'; exact ⟨by rw [hdd]; simp, hz'.trans (app_eq hz (by assumption)), by (dsimp only; rw [spell_append, spell_cons, spell_nil, List.append_nil, List.length_append, hl1]; omega)⟩)
      case q8 => (dsimp only [List.length_cons]; omega)
    · have hne1 : (!([c] == stopS.cps.toList)) = true := by rw [hstop]; simp; exact hr4
      have heq1 : ([c] == (Str.ofString "&").cps.toList) = false := by rw [e38]; simp; exact hr3
      rw [hr1] at hdrop
      have hdrop2 : page.cps.toList.drop k.toNat = c :: (spell D d2 ++ stop :: post) := hdrop
      clear hpg hlen hdl F1 N1
      k_steps
      refine' back ⟨d1 ++ [c], d2, _, _, _, _⟩ _ _ _ _ _ ?q1 ?q2 ?q3 ?q5 ?q7 ?q8 (.inl rfl)
      case q1 => k_asm
      case q2 => k_asm
      case q3 => exact fun p hp => by first | exact hp | exact .tail _ hp
      case q5 => (repeat' (first | exact List.forall_mem_nil _ | (refine List.forall_mem_cons.mpr ⟨?_, ?_⟩; (with_unfolding_all rfl))))
      case q7 => (rename _ = _ ++ _ => hz'; exact ⟨by rw [hdd]; simp, hz'.trans (app_eq hz (by assumption)), by (dsimp only; rw [spell_append, spell_cons, spell_nil, List.append_nil, List.length_append, hr1, List.length_singleton]; omega)⟩)
      case q8 => (dsimp only [List.length_cons]; omega)
end
local macro_rules | `(tactic| k_mem) => `(tactic| ((with_reducible (repeat (first | exact List.Mem.head _ | refine List.Mem.tail _ ?_))); done))
local macro_rules | `(tactic| walk_at "compareOp NotEq ref ref") => `(tactic| (k_here; k_dflt (first
  | (refine' pile_none ?N ?a ?b ?i ?u ?_; (case N => k_asm); (case i => assumption); (case a => k_mem); (case b => k_mem); (case u => exact kind_room (by assumption) (by decide)))
  | (refine' pile_more ?N ?a ?b ?i ?u ?_; (case N => k_asm); (case i => assumption); (case a => k_mem); (case b => k_mem); (case u => exact kind_room (by assumption) (by decide)))); (rename News _ _ _ (_ :: _) => N9; replace N9 := news_tail N9)))
local macro_rules | `(tactic| walk_at "compareOp Eq ref ref") => `(tactic| (k_here; k_dflt (first | (refine' kind_self ?N ?a ?b ?u ?_; (case N => k_asm); (case a => k_mem); (case b => k_mem); (case u => exact kind_room (by assumption) (by decide))) | (refine' kind_eq ?N ?a ?b ?u ?_; (case N => k_asm); (case a => k_mem); (case b => k_mem); (case u => exact kind_room (by assumption) (by decide)))); (rename News _ _ _ (_ :: _) => N9; replace N9 := news_tail N9)))
local macro_rules | `(tactic| walk_at "compareOp Eq int int") => `(tactic| (k_here; k_dflt (refine' eq_known ?b ?_; (case b => with_reducible assumption))))
local macro_rules | `(tactic| walk_at "call builtin:list.pop") => `(tactic| (k_here; k_dflt (refine' pop_x ?F ?N ?i ?U ?z ?_; (case F => k_asm); (case N => k_asm); (case i => assumption); (case U => k_upd); (case z => assumption); intro h' t' F' N' hI')))
local macro_rules | `(tactic| walk_at "subscriptTail Name Slice ref ref") => `(tactic| (k_here; (try dsimp only); k_dflt (refine' rev_any (s := ⟨_, _, _, _, _⟩) ?F ?N ?hm ?hi ?hz ?_ ?hs ?ht; (case F => k_asm); (case N => k_asm); (case hm => k_mem); (case hi => assumption); (case hz => exact grow_room); (case hs => with_unfolding_all rfl); (case ht => kmk_pure); intro D' ws' h' F' N' l1 hI'); (try k_lt l1)))
local macro_rules | `(tactic| walk_at "call builtin:list.extend") => `(tactic| (k_here; k_dflt (refine' ext_any ?F ?N ?b ?i ?j ?z ?y ?U ?_; (case F => k_asm); (case N => k_asm); (case b => k_mem); (case U => k_upd); (case j => assumption); (case i => assumption); (case z => assumption); (case y => exact grow_room); intro h' F' N' hI')))
local macro_rules | `(tactic| walk_at "call builtin:list.append") => `(tactic| (k_here; (with_reducible show wpAny _ _ (call (Value.builtin _) [Value.ref _, _]) _ _ _); k_dflt (refine' app_list ?F ?N ?U ?z ?_; (case F => k_asm); (case N => k_asm); (case U => k_upd); (case z => first | assumption | omega)); intro h' F' N'))
local macro_rules | `(tactic| walk_at "ToIf") => `(tactic| repeat' ((fail_if_success (with_reducible show wpAny _ _ (exec (Stmt.If _ _ _ _) _) _ _ _)); first | (k_unfold; (try dsimp only)) | walk1 | (dsimp only; walk1) | (leave1; try dsimp only) | fail "no step"))
section
set_option Elab.async false
set_option maxRecDepth 100000
set_option maxHeartbeats 8000000
local macro_rules | `(tactic| walk_at "call ref") => `(tactic| (k_here; k_dflt (first
  | (refine' gives_use1 (f := 135) (σ := Unit) (O := fun _ => listOf #[.bool _, .bool _, .bool _] 0) ?B ?F ?X ?N ?T ?k ?C ?d ?u ?_; (case B => k_asm); (case F => k_asm); (case X => k_asm); (case N => k_asm); (case T => k_asm); (case k => first | exact rfl | assumption); (case C => exact c_kindB _ _ _ _ _ _ _ (by with_reducible assumption) (by with_reducible assumption) (by with_reducible assumption)); (case d => exact room2 (by assumption) (by decide)); (case u => exact room2 (by assumption) (by decide)); intro l' h' tk' x' F' N' l1 _)
  | (refine' gives_use1 (f := 142) (σ := List Value) (O := fun vs => listOf vs.toArray 0) (Post := fun vs => IntsAre vs (grow _ _)) ?B ?F ?X ?N ?T ?k ?C ?d ?u ?_; (case B => k_asm); (case F => k_asm); (case X => k_asm); (case N => k_asm); (case T => k_asm); (case k => first | exact rfl | assumption); (case C => exact c_ruleB _ _ _ _ _ _ _ _ (by with_reducible assumption)); (case d => exact room2 (by assumption) (by decide)); (case u => exact room2 (by assumption) (by decide)); intro l' h' tk' x' F' N' l1 hI1)); (try k_lt l1)))
structure DSt where
  rv : List Value
  rl : List Int
  n1 : Nat
  pv : List Value
  pl : List Int
  n2 : Nat
  bits : Int
  tb : Tok
  sp : Int
  tk : Tok
noncomputable def DInv (c : DSt) : Prop := IntsAre c.rv c.rl ∧ IntsAre c.pv c.pl.reverse ∧ c.rl.length + mu c.pl c.sp.toNat ≤ 100 ∧ c.sp ≤ 2 ∧
  ((∃ q, c.pl = q ++ [0] ∧ Wf q ∧ ∀ t, Der c.sp.toNat q t → Der 2 [256] (c.rl ++ t)) ∨ (c.pl = [] ∧ ∃ rq, c.rl = rq ++ [0] ∧ Der 2 [256] rq))
noncomputable def dmu (c : DSt) : Nat := mu c.pl c.sp.toNat

/-- one turn, told without the program -/
theorem DInv.turn {rv : List Value} {rl : List Int} {n1 : Nat} {pv : List Value} {pl : List Int} {n2 : Nat} {bits : Int} {tb : Tok} {sp : Int} {ts : Tok} (h : DInv ⟨rv, rl, n1, pv, pl, n2, bits, tb, sp, ts⟩) : (pl = [] ∧ IntsAre pv ([] : List Int).reverse ∧ ∃ rq, IntsAre rv (rq ++ [0]) ∧ Der 2 [256] rq ∧ rq.length ≤ 100) ∨ ∃ x r, pl = x :: r ∧ IntsAre pv (x :: r).reverse ∧ r.length ≤ 500 ∧ rv.length ≤ 1000 ∧
    ((x < 256 ∧ ∀ t pv' n1' n2', IntsAre pv' r.reverse → DInv ⟨rv ++ [.int x t], rl ++ [x], n1', pv', r, n2', bits, tb, sp, ts⟩ ∧ mu r sp.toNat < mu pl sp.toNat) ∨
     ((x = 256 ∨ x = 257) ∧ ∀ (b : Bool) pv' n2' bits' tb' sp' tk', (b = true → x = 257 ∧ 0 < sp) → sp' = (if b = true then sp - 1 else sp) → IntsAre pv' (grow x b ++ r).reverse →
        DInv ⟨rv, rl, n1, pv', grow x b ++ r, n2', bits', tb', sp', tk'⟩ ∧ mu (grow x b ++ r) sp'.toNat < mu pl sp.toNat)) := by
  obtain ⟨hrv, hpv, hsz, hsp, hst⟩ := h
  dsimp only at hrv hpv hsz hsp hst
  have hlr := IntsAre.length hrv
  have hlp := mu_le pl sp.toNat
  rcases hst with ⟨q, rfl, hwf, hder⟩ | ⟨rfl, rq, rfl, hder⟩
  · refine .inr ?_
    cases q with
    | nil =>
      have hm : mu (0 :: []) sp.toNat = 1 + mu [] sp.toNat := (mu_cons 0 [] _).trans (by rw [wt_term (by decide)])
      refine ⟨0, [], rfl, hpv, by decide, by omega, .inl ⟨by decide, fun t pv' n1' n2' hp => ⟨⟨ints_app hrv (.cons _ _ .nil), hp, ?_, hsp, .inr ⟨rfl, rl, rfl, ?_⟩⟩, ?_⟩⟩⟩
      · show (rl ++ [0]).length + mu [] sp.toNat ≤ 100
        rw [List.length_append, List.length_singleton]; have : mu ([] ++ [0]) sp.toNat = 1 + mu [] sp.toNat := hm; omega
      · simpa using hder [] (.nil _)
      · show mu [] sp.toNat < mu ([] ++ [0]) sp.toNat
        have : mu ([] ++ [0]) sp.toNat = 1 + mu [] sp.toNat := hm; omega
    | cons x r =>
      have hm1 : mu (x :: r ++ [0]) sp.toNat = wt x + mu (r ++ [0]) sp.toNat := by show mu (x :: (r ++ [0])) sp.toNat = _; exact mu_cons x (r ++ [0]) _
      have hl2 : (x :: r ++ [0]).length = (r ++ [0]).length + 1 := rfl
      refine ⟨x, r ++ [0], rfl, (by exact hpv : IntsAre pv (x :: (r ++ [0])).reverse), by omega, by omega, ?_⟩
      rcases hwf.1 with ht | hx
      · have h0 := (terms_lt ht).2
        rw [wt_term h0] at hm1
        refine .inl ⟨h0, fun t pv' n1' n2' hp => ⟨⟨ints_app hrv (.cons _ _ .nil), hp, ?_, hsp, .inl ⟨r, rfl, hwf.2, fun t ht' => ?_⟩⟩, ?_⟩⟩
        · show (rl ++ [x]).length + mu (r ++ [0]) sp.toNat ≤ 100
          rw [List.length_append, List.length_singleton]; omega
        · simpa using hder (x :: t) (.term ht ht')
        · show mu (r ++ [0]) _ < _; omega
      · refine .inr ⟨by rcases hx with h | ⟨h, _⟩ <;> simp [h], fun b pv' n2' bits' tb' sp' tk' hb hs hp => ?_⟩
        rcases hx with rfl | ⟨rfl, c, rfl⟩
        · cases b with
          | true => exact absurd (hb rfl).1 (by decide)
          | false =>
            obtain rfl : sp' = sp := hs
            have hm := mu_tag (r ++ [0]) sp'.toNat
            refine ⟨⟨hrv, hp, ?_, hsp, .inl ⟨r256 ++ r, (List.append_assoc _ _ _).symm, hwf.2.tag, fun t ht' => hder t (.tag ht')⟩⟩, ?_⟩
            · show rl.length + mu (r256 ++ (r ++ [0])) sp'.toNat ≤ 100
              have : mu (256 :: r ++ [0]) sp'.toNat = mu (256 :: (r ++ [0])) sp'.toNat := rfl
              omega
            · show mu (r256 ++ (r ++ [0])) sp'.toNat < mu (256 :: (r ++ [0])) sp'.toNat; omega
        · cases b with
          | false =>
            obtain rfl : sp' = sp := hs
            rw [show wt 257 = 2 from rfl] at hm1
            refine ⟨⟨hrv, hp, ?_, hsp, .inl ⟨20 :: 17 :: c, rfl, hwf.2, fun t ht' => hder t (.stop ht')⟩⟩, ?_⟩
            · show rl.length + mu (20 :: 17 :: c ++ [0]) sp'.toNat ≤ 100; omega
            · show mu (20 :: 17 :: c ++ [0]) sp'.toNat < mu (257 :: (20 :: 17 :: c) ++ [0]) sp'.toNat; omega
          | true =>
            obtain rfl : sp' = sp - 1 := hs
            have hp0 := (hb rfl).2
            have hg := mu_grow (20 :: 17 :: c ++ [0]) (sp - 1).toNat
            have e : (sp - 1).toNat + 1 = sp.toNat := by omega
            rw [e] at hg
            refine ⟨⟨hrv, hp, ?_, by show sp - 1 ≤ 2; omega, .inl ⟨256 :: 255 :: 257 :: 20 :: 17 :: c, rfl, Wf.grow hwf.2, fun t ht' => hder t (e ▸ .more ht')⟩⟩, ?_⟩
            · show rl.length + mu (256 :: 255 :: 257 :: (20 :: 17 :: c ++ [0])) (sp - 1).toNat ≤ 100
              have : mu (257 :: (20 :: 17 :: c) ++ [0]) sp.toNat = mu (257 :: (20 :: 17 :: c ++ [0])) sp.toNat := rfl
              omega
            · show mu (256 :: 255 :: 257 :: (20 :: 17 :: c ++ [0])) (sp - 1).toNat < mu (257 :: (20 :: 17 :: c ++ [0])) sp.toNat; omega
  · refine .inl ⟨rfl, hpv, rq, hrv, hder, ?_⟩
    rw [List.length_append] at hsz; omega
theorem c_derived (w : World) (mean : ExcName → Option Value) (mg mb : Str → Option Value) (x : Int) (tx : Tok) (news : List (Addr × Obj)) :
    Gives w mean mg mb 149 [.int x tx] news 8 200 (fun r own => ∃ l, ∃ p : List Value × Nat, r = .ref l ∧ own = [(l, listOf p.1.toArray p.2)] ∧ ∃ rq, IntsAre p.1 (rq ++ [0]) ∧ Der 2 [256] rq ∧ rq.length ≤ 100) := by
  w_top off; unfold Gives; k_fill
  intro dp un gd cn cs a ccd cl outer A₀ base h₀ L m s Q E B F X N T hk hd hu hret
  refine wpAny_call ?_
  k_dflt ktr_enter
  k_steps
  rename_i rA _ hrow _ pA _ hlt _ _ F1 N1
  refine' kw_while (σ := DSt) (fun c => (pA, listOf c.pv.toArray c.n2) :: (rA, listOf c.rv.toArray c.n1) :: news) (fun c => [(Str.ofString "bits", .int c.bits c.tb), (Str.ofString "spare", .int c.sp c.tk), (Str.ofString "pile", .ref pA), (Str.ofString "row", .ref rA)])
    DInv (fun c => mu c.pl c.sp.toNat) ⟨[], [], 0, [.int 0 _, .int 256 _], [256, 0], 0, x, tx, 2, _⟩ F1 N1 ?kk ?pp ?turn
  case kk => kst_all
  case pp => exact ⟨.nil, .cons _ _ (.cons _ _ .nil), by show 0 + mu [256, 0] 2 ≤ 100; decide +kernel, Int.le_refl 2, .inl ⟨[256], rfl, ⟨.inr (.inl rfl), trivial⟩, fun t ht => ht⟩⟩
  clear F1 N1
  rintro ⟨rv, rl, n1, pv, pl, n2, bits, tb, sp, ts⟩ M K h tk2 hI F3 N3 back
  have hrv := hI.1
  have hI := hI.turn
  dsimp only at hI hrv F3 N3
  rcases hI with ⟨rfl, hp0, rq, hrq, hder, hlq⟩ | ⟨x, r, rfl, hpv, hz, hz1, hx⟩

  · k_steps
    refine' hret _ _ _ [(rA, listOf rv.toArray n1)] ?e1 ?e2 ?e4 ⟨rA, (rv, n1), rfl, rfl, rq, hrq, hder, hlq⟩
    case e1 => k_asm
    case e2 => exact cb_drop (by assumption) (fun p hp => .tail _ hp)
    case e4 => exact lt_one (by assumption)
  · obtain ⟨b1, hb1⟩ : ∃ b, (x == 0) = b := ⟨_, rfl⟩
    obtain ⟨b2, hb2⟩ : ∃ b, decide (x < 256) = b := ⟨_, rfl⟩
    obtain ⟨b3, hb3⟩ : ∃ b, decide (256 ≤ x) = b := ⟨_, rfl⟩
    walk_at "ToIf"
    rcases hx with ⟨hlt, hend⟩ | ⟨h2, hend⟩
    · obtain rfl : b2 = true := hb2.symm.trans (decide_eq_true hlt)
      obtain rfl : b3 = false := hb3.symm.trans (decide_eq_false (Int.not_le.mpr hlt))
      k_steps
      refine' back ⟨rv ++ [.int x _], rl ++ [x], n1 + 1, pv.dropLast, r, n2 + 1, bits, tb, sp, ts⟩ _ _ _ _ _ ?q1 ?q2 ?q3 ?q5 ?q7 ?q8 (.inl rfl)
      case q1 => k_asm
      case q2 => k_asm
      case q3 => exact sub2 (by k_mem) (by k_mem) (fun p hp => by repeat (first | exact hp | refine List.Mem.tail _ ?_))
      case q5 => (repeat' (first | exact List.forall_mem_nil _ | (refine List.forall_mem_cons.mpr ⟨?_, ?_⟩; (with_unfolding_all rfl))))
      case q7 => exact (hend _ _ _ _ (by assumption)).1
      case q8 => exact (hend tx _ 0 0 (by assumption)).2
    · obtain ⟨e1, e2, e3⟩ := nonterm h2
      obtain rfl : b1 = false := hb1.symm.trans e1
      obtain rfl : b2 = false := hb2.symm.trans e2
      obtain rfl : b3 = true := hb3.symm.trans e3
      cases hv : (x == 257)
      · k_steps
        refine' back ⟨rv, rl, n1, pv.dropLast ++ (_ : List Value), grow x false ++ r, bump (grow x false) (n2 + 1), _, _, sp, _⟩ _ _ _ _ _ ?q1 ?q2 ?q3 ?q5 ?q7 ?q8 (.inl rfl)
        case q1 => k_asm
        case q2 => k_asm
        case q3 => exact sub2 (by k_mem) (by k_mem) (fun p hp => by repeat (first | exact hp | refine List.Mem.tail _ ?_))
        case q5 => (repeat' (first | exact List.forall_mem_nil _ | (refine List.forall_mem_cons.mpr ⟨?_, ?_⟩; (with_unfolding_all rfl))))
        case q7 => exact (hend false _ _ _ _ _ _ (fun e => Bool.noConfusion e) rfl (by assumption)).1
        case q8 => exact (hend false _ 0 0 tx _ tx (fun e => Bool.noConfusion e) rfl (by assumption)).2
      · by_cases hs : 0 < sp
        · cases hb : (bits.fmod 2 == 1)
          · k_steps
            refine' back ⟨rv, rl, n1, pv.dropLast ++ (_ : List Value), grow x false ++ r, bump (grow x false) (n2 + 1), _, _, sp, _⟩ _ _ _ _ _ ?q1 ?q2 ?q3 ?q5 ?q7 ?q8 (.inl rfl)
            case q1 => k_asm
            case q2 => k_asm
            case q3 => exact sub2 (by k_mem) (by k_mem) (fun p hp => by repeat (first | exact hp | refine List.Mem.tail _ ?_))
            case q5 => (repeat' (first | exact List.forall_mem_nil _ | (refine List.forall_mem_cons.mpr ⟨?_, ?_⟩; (with_unfolding_all rfl))))
            case q7 => exact (hend false _ _ _ _ _ _ (fun e => Bool.noConfusion e) rfl (by assumption)).1
            case q8 => exact (hend false _ 0 0 tx _ tx (fun e => Bool.noConfusion e) rfl (by assumption)).2
          · k_steps
            refine' back ⟨rv, rl, n1, pv.dropLast ++ (_ : List Value), grow x true ++ r, bump (grow x true) (n2 + 1), _, _, sp - 1, _⟩ _ _ _ _ _ ?q1 ?q2 ?q3 ?q5 ?q7 ?q8 (.inl rfl)
            case q1 => k_asm
            case q2 => k_asm
            case q3 => exact sub2 (by k_mem) (by k_mem) (fun p hp => by repeat (first | exact hp | refine List.Mem.tail _ ?_))
            case q5 => (repeat' (first | exact List.forall_mem_nil _ | (refine List.forall_mem_cons.mpr ⟨?_, ?_⟩; (with_unfolding_all rfl))))
            case q7 => exact (hend true _ _ _ _ _ _ (fun _ => ⟨eq_of_beq hv, hs⟩) rfl (by assumption)).1
            case q8 => exact (hend true _ 0 0 tx _ tx (fun _ => ⟨eq_of_beq hv, hs⟩) rfl (by assumption)).2
        · k_steps
          refine' back ⟨rv, rl, n1, pv.dropLast ++ (_ : List Value), grow x (decide (0 < sp)) ++ r, bump (grow x (decide (0 < sp))) (n2 + 1), _, _, sp, _⟩ _ _ _ _ _ ?q1 ?q2 ?q3 ?q5 ?q7 ?q8 (.inl rfl)
          case q1 => k_asm
          case q2 => k_asm
          case q3 => exact sub2 (by k_mem) (by k_mem) (fun p hp => by repeat (first | exact hp | refine List.Mem.tail _ ?_))
          case q5 => (repeat' (first | exact List.forall_mem_nil _ | (refine List.forall_mem_cons.mpr ⟨?_, ?_⟩; (with_unfolding_all rfl))))
          case q7 => exact (hend (decide (0 < sp)) _ _ _ _ _ _ (fun e => absurd (of_decide_eq_true e) hs) (if_neg (fun e => hs (of_decide_eq_true e))).symm (by assumption)).1
          case q8 => exact (hend (decide (0 < sp)) _ 0 0 tx _ tx (fun e => absurd (of_decide_eq_true e) hs) (if_neg (fun e => hs (of_decide_eq_true e))).symm (by assumption)).2
end
section
open PyProof.Rows.KTD
set_option Elab.async false
set_option maxRecDepth 100000
set_option linter.unusedVariables false
noncomputable def tokD : List (Str × KTD.Dat) := [(Str.ofString "!", .flat (.int 54)), (Str.ofString "!=", .flat (.int 28)), (Str.ofString "%", .flat (.int 24)), (Str.ofString "%=", .flat (.int 40)), (Str.ofString "&", .flat (.int 19)), (Str.ofString "&=", .flat (.int 41)), (Str.ofString "(", .flat (.int 7)), (Str.ofString ")", .flat (.int 8)), (Str.ofString "*", .flat (.int 16)), (Str.ofString "**", .flat (.int 35)), (Str.ofString "**=", .flat (.int 46)), (Str.ofString "*=", .flat (.int 38)), (Str.ofString "+", .flat (.int 14)), (Str.ofString "+=", .flat (.int 36)), (Str.ofString ",", .flat (.int 12)), (Str.ofString "-", .flat (.int 15)), (Str.ofString "-=", .flat (.int 37)), (Str.ofString "->", .flat (.int 51)), (Str.ofString ".", .flat (.int 23)), (Str.ofString "...", .flat (.int 52)), (Str.ofString "/", .flat (.int 17)), (Str.ofString "//", .flat (.int 47)), (Str.ofString "//=", .flat (.int 48)), (Str.ofString "/=", .flat (.int 39)), (Str.ofString ":", .flat (.int 11)), (Str.ofString ":=", .flat (.int 53)), (Str.ofString ";", .flat (.int 13)), (Str.ofString "<", .flat (.int 20)), (Str.ofString "<<", .flat (.int 33)), (Str.ofString "<<=", .flat (.int 44)), (Str.ofString "<=", .flat (.int 29)), (Str.ofString "=", .flat (.int 22)), (Str.ofString "==", .flat (.int 27)), (Str.ofString ">", .flat (.int 21)), (Str.ofString ">=", .flat (.int 30)), (Str.ofString ">>", .flat (.int 34)), (Str.ofString ">>=", .flat (.int 45)), (Str.ofString "@", .flat (.int 49)), (Str.ofString "@=", .flat (.int 50)), (Str.ofString "[", .flat (.int 9)), (Str.ofString "]", .flat (.int 10)), (Str.ofString "^", .flat (.int 32)), (Str.ofString "^=", .flat (.int 43)), (Str.ofString "{", .flat (.int 25)), (Str.ofString "|", .flat (.int 18)), (Str.ofString "|=", .flat (.int 42)), (Str.ofString "}", .flat (.int 26)), (Str.ofString "~", .flat (.int 31))]
theorem tok_tab {w : World} {h : Heap} (X : (Mine.hk.heap_1 w.params).In h) : TextTab h 32 tokD := text_of_look (get := fun a => (Mine.hk.heap_1 w.params).lookup a) (fun a o e => X a o e) (by rfl)
noncomputable def toks : List (Nat × Int) := [(60, 20), (47, 17), (61, 22), (62, 21)]
theorem tok_at {c : Nat} {n : Int} (h : (c, n) ∈ toks) : datumAt (⟨#[c]⟩ : Str) tokD = some (.flat (.int n)) := by
  simp only [toks, List.mem_cons, List.not_mem_nil, or_false, Prod.mk.injEq] at h
  rcases h with ⟨rfl, rfl⟩ | ⟨rfl, rfl⟩ | ⟨rfl, rfl⟩ | ⟨rfl, rfl⟩ <;> kernel_rfl
section
variable {prog : Program} {w : World} {A : Around} {E : Value → Shared → Prop} {s : Shared} {h₀ : Heap} {L : Addr} {m : Str → Option Value}
theorem tok_method {pl : Sem Bool} {Q : Value × List Value → Shared → Prop} (F : Fr h₀ L s.heap m) (X : (Mine.hk.heap_1 w.params).In h₀) (h : Q (.builtin "dict.get", [.ref 32]) s) : wpAny (model prog w) A (getMethod (.ref 32) "get" pl) Q E s :=
  getMethod_text (h₀ := h₀) (D := tokD) ⟨tok_tab X, F.keep⟩ h
theorem tok_get {c : Nat} {n : Int} {x : Str} {t : Tok} {Q : Value → Shared → Prop} (F : Fr h₀ L s.heap m) (X : (Mine.hk.heap_1 w.params).In h₀) (hx : x.cps.toList = [c]) (hn : (c, n) ∈ toks) (h : ∀ t, Q (.int n t) { s with toks := s.toks + 1 }) :
    wpAny (model prog w) A (call (.builtin "dict.get") [.ref 32, .str x t]) Q E s := by
  have e : x = ⟨#[c]⟩ := str_of_list hx
  subst e
  have T : Here h₀ s.heap 32 tokD := ⟨tok_tab X, F.keep⟩
  refine call_meetsIn PySem.F.slot_dict_get T.typeIs PySem.F.entry_dict_get (PySem.F.args_dict_get_2 _ _) (meets_get1 (h₀ := h₀) (D := tokD)) ⟨T, fun d v ha hv => ?_, fun hno => ?_⟩
  · rw [tok_at hn] at ha
    cases ha
    exact Opened.of (opened_int (P := fun v => Q v { s with toks := s.toks + 1 }) h) v hv
  · rw [tok_at hn] at hno
    cases hno
end
/-! the row's items -/
inductive Item
  | sym (x : Int)
  | txt (d : List Nat)
  | val (d : List Nat)
noncomputable def code : Item → Int
  | .sym x => x
  | .txt _ => 255
  | .val _ => 253
noncomputable def sy (x : Int) : List Nat := if x = 20 then [60] else if x = 17 then [47] else if x = 22 then [61] else if x = 21 then [62] else if x = 1 then [97] else [32, 107]
noncomputable def rend (Dt Dv : List (List Nat × Nat)) : Item → List Nat
  | .sym x => sy x
  | .txt d => spell Dt d
  | .val d => 34 :: (spell Dv d ++ [34])
noncomputable def due : Item → List (List Nat)
  | .sym _ => []
  | .txt d => [d]
  | .val d => [d]
noncomputable def OkI : Item → Prop
  | .sym x => x ∈ [20, 17, 22, 21, 1, 254]
  | .txt d => d.length ≤ 1000
  | .val d => d.length ≤ 1000
noncomputable def Wg : List Int → Prop
  | [] => True
  | x :: r => (x = 255 → ∃ c, r = 257 :: c) ∧ Wg r
theorem Wg.tag {r : List Int} (h : Wg r) : Wg (r256 ++ r) := by
  simp only [r256, List.cons_append, List.nil_append, Wg]
  simp [h]
theorem Wg.grow {r : List Int} (h : Wg (257 :: r)) : Wg (256 :: 255 :: 257 :: r) := by
  have h2 := h.2
  simp only [Wg]
  simp [h2]
theorem Der.inv {k : Nat} {q t : List Int} (h : Der k q t) : (q = [] ∧ t = []) ∨ (∃ x r t', q = x :: r ∧ t = x :: t' ∧ x ∈ terms ∧ Der k r t') ∨ (∃ r, q = 256 :: r ∧ Der k (r256 ++ r) t) ∨ (∃ r, q = 257 :: 20 :: 17 :: r ∧ Der k (20 :: 17 :: r) t) ∨ (∃ k' r, k = k' + 1 ∧ q = 257 :: 20 :: 17 :: r ∧ Der k' (256 :: 255 :: 257 :: 20 :: 17 :: r) t) := by
  cases h with
  | nil => exact .inl ⟨rfl, rfl⟩
  | term h1 h2 => exact .inr (.inl ⟨_, _, _, rfl, rfl, h1, h2⟩)
  | tag h => exact .inr (.inr (.inl ⟨_, rfl, h⟩))
  | stop h => exact .inr (.inr (.inr (.inl ⟨_, rfl, h⟩)))
  | more h => exact .inr (.inr (.inr (.inr ⟨_, _, rfl, rfl, h⟩)))
theorem Der.head {k : Nat} {x : Int} {r t : List Int} (h : Der k (x :: r) t) (hx : x ∈ terms) : ∃ t', t = x :: t' ∧ Der k r t' := by
  have h2 := terms_lt hx
  rcases h.inv with ⟨e, _⟩ | ⟨x', r', t', e1, e2, _, h4⟩ | ⟨r', e, _⟩ | ⟨r', e, _⟩ | ⟨k', r', _, e, _⟩
  · cases e
  · obtain ⟨rfl, rfl⟩ := List.cons.inj e1
    exact ⟨t', e2, h4⟩
  · have := (List.cons.inj e).1; omega
  · have := (List.cons.inj e).1; omega
  · have := (List.cons.inj e).1; omega
theorem Der.tag_head {k : Nat} {r t : List Int} (h : Der k (r256 ++ r) t) : ∃ t', t = 20 :: 1 :: t' := by
  obtain ⟨t1, rfl, h1⟩ := h.head (by decide)
  obtain ⟨t2, rfl, h2⟩ := Der.head (x := 1) h1 (by decide)
  exact ⟨t2, rfl⟩
theorem Der.stop_head {k : Nat} {r t : List Int} (h : Der k (20 :: 17 :: r) t) : ∃ t', t = 20 :: 17 :: t' := by
  obtain ⟨t1, rfl, h1⟩ := h.head (by decide)
  obtain ⟨t2, rfl, h2⟩ := h1.head (by decide)
  exact ⟨t2, rfl⟩
theorem Der.more_head {k : Nat} {r t : List Int} (h : Der k (256 :: r) t) : ∃ t', t = 20 :: 1 :: t' := by
  rcases h.inv with ⟨e, _⟩ | ⟨x', r', t', e1, e2, h3, h4⟩ | ⟨r', e, h⟩ | ⟨r', e, _⟩ | ⟨k', r', _, e, _⟩
  · cases e
  · have := terms_lt h3; have := (List.cons.inj e1).1; omega
  · exact h.tag_head
  · have := (List.cons.inj e).1; omega
  · have := (List.cons.inj e).1; omega
/-- behind a text comes a '<' -/
theorem Der.less {k : Nat} {r t : List Int} (h : Der k (257 :: r) t) : ∃ t', t = 20 :: t' := by
  rcases h.inv with ⟨e, _⟩ | ⟨x', r', t', e1, e2, h3, h4⟩ | ⟨r', e, h⟩ | ⟨r', e, h⟩ | ⟨k', r', _, e, h⟩
  · cases e
  · have := terms_lt h3; have := (List.cons.inj e1).1; omega
  · have := (List.cons.inj e).1; omega
  · obtain ⟨t', e'⟩ := h.stop_head; exact ⟨_, e'⟩
  · obtain ⟨t', e'⟩ := h.more_head; exact ⟨_, e'⟩
theorem map_cons_inv {ts : List Item} {x : Int} {t : List Int} (h : ts.map code = x :: t) : ∃ i r, ts = i :: r ∧ code i = x ∧ r.map code = t := by
  cases ts with
  | nil => cases h
  | cons i r => exact ⟨i, r, rfl, (List.cons.inj h).1, (List.cons.inj h).2⟩
theorem code_sym {i : Item} {x : Int} (h : code i = x) (ok : OkI i) (h1 : x ≠ 255) (h2 : x ≠ 253) : i = .sym x ∧ x ∈ [20, 17, 22, 21, 1, 254] := by
  cases i with
  | sym y => have e : y = x := h; subst e; exact ⟨rfl, ok⟩
  | txt d => exact absurd h.symm h1
  | val d => exact absurd h.symm h2
theorem code_txt {i : Item} (h : code i = 255) (ok : OkI i) : ∃ d, i = .txt d ∧ d.length ≤ 1000 := by
  cases i with
  | sym y => have e : y = 255 := h; subst e; revert ok; simp [OkI]
  | txt d => exact ⟨d, rfl, ok⟩
  | val d => have e : (253 : Int) = 255 := h; omega
theorem code_val {i : Item} (h : code i = 253) (ok : OkI i) : ∃ d, i = .val d ∧ d.length ≤ 1000 := by
  cases i with
  | sym y => have e : y = 253 := h; subst e; revert ok; simp [OkI]
  | txt d => have e : (255 : Int) = 253 := h; omega
  | val d => exact ⟨d, rfl, ok⟩
/-- texts by their signs -/
inductive TextsAre : List Value → List (List Nat) → Prop
  | nil : TextsAre [] []
  | cons {z : Str} {d : List Nat} (t : Tok) {vs : List Value} {ds : List (List Nat)} : z.cps.toList = d → TextsAre vs ds → TextsAre (.str z t :: vs) (d :: ds)
theorem TextsAre.app {us vs : List Value} {a b : List (List Nat)} (h : TextsAre us a) (k : TextsAre vs b) : TextsAre (us ++ vs) (a ++ b) := by
  induction h with
  | nil => exact k
  | cons t e r ih => exact .cons t e ih
theorem TextsAre.length {us : List Value} {a : List (List Nat)} (h : TextsAre us a) : us.length = a.length := by
  induction h with
  | nil => rfl
  | cons t e r ih => simp [ih]
end
section
set_option Elab.async false
set_option maxRecDepth 100000
set_option linter.unusedVariables false
structure RSt where
  rv : List Value
  rl : List Int
  n1 : Nat
  wv : List Value
  wl : List (List Nat)
  n3 : Nat
  pv : List Value
  pl : List Int
  n2 : Nat
  i : Int
  ti : Tok
  ts : List Item
  k : Nat
structure RInv (pg : List Nat) (Dt Dv : List (List Nat × Nat)) (W : List (List Nat)) (R : List Int) (c : RSt) : Prop where
  rows : IntsAre c.rv c.rl
  wrds : TextsAre c.wv c.wl
  pile : IntsAre c.pv c.pl.reverse
  size : c.rl.length + mu c.pl c.k ≤ 100
  wlen : c.wl.length ≤ c.rl.length
  at0 : 0 ≤ c.i
  atl : c.i.toNat ≤ pg.length
  drop : pg.drop c.i.toNat = c.ts.flatMap (rend Dt Dv)
  dues : c.wl ++ c.ts.flatMap due = W
  oks : ∀ i ∈ c.ts, OkI i
  st : (∃ q, c.pl = q ++ [0] ∧ Wg q ∧ Der c.k q (c.ts.map code) ∧ c.rl ++ (c.ts.map code ++ [0]) = R) ∨ (c.pl = [] ∧ c.ts = [] ∧ c.rl = R)
theorem drop_go {l a b : List Nat} {i j : Int} (h : l.drop i.toNat = a ++ b) (h0 : 0 ≤ i) (hl : i.toNat ≤ l.length) (hj : j = i + a.length) : l.drop j.toNat = b ∧ 0 ≤ j ∧ j.toNat ≤ l.length := by
  obtain ⟨k, rfl⟩ := Int.eq_ofNat_of_zero_le h0
  subst hj
  have h2 : (l.drop k).length = a.length + b.length := (congrArg List.length h).trans List.length_append
  rw [List.length_drop] at h2
  refine ⟨?_, Int.natCast_nonneg (k + a.length), show k + a.length ≤ l.length from by omega⟩
  show l.drop (k + a.length) = b
  rw [← List.drop_drop, show l.drop k = a ++ b from h, List.drop_left]
theorem ne_self {prog : Program} {w : World} {A : Around} {E : Value → Shared → Prop} {s : Shared} {a : Int} {t u : Tok} {Q : Value → Shared → Prop} (h : Q (.bool false) s) : wpAny (model prog w) A (compareOp .NotEq (.int a t) (.int a u)) Q E s := by
  refine ne_int ?_
  first
  | (have e : (a != a) = false := by simp
     rw [e]; exact h)
  | (have e : (!(a == a)) = false := by simp
     rw [e]; exact h)
theorem ne_known {prog : Program} {w : World} {A : Around} {E : Value → Shared → Prop} {s : Shared} {a b : Int} {t u : Tok} {Q : Value → Shared → Prop} (hab : a = b) (h : Q (.bool false) s) : wpAny (model prog w) A (compareOp .NotEq (.int a t) (.int b u)) Q E s := by
  subst hab
  exact ne_self h
theorem c_pieceI (w : World) (mean : ExcName → Option Value) (mg mb : Str → Option Value) (page stopS : Str) (tx ta ts : Tok) (i : Int) (h0 : 0 ≤ i) (stop : Nat) (hstop : stopS.cps.toList = [stop]) (D : List (List Nat × Nat)) (g : GoodD D stop) (dw post : List Nat)
    (hpg : page.cps.toList.drop i.toNat = spell D dw ++ stop :: post) (hsz : page.cps.size ≤ 100000) (hdw : dw.length ≤ 1000) (d : Addr) (o : Obj) (kvs : List (Str × Value)) (news : List (Addr × Obj)) (hp : (d, o) ∈ news)
    (hd' : o.IsDictOf (PySem.strKind Challenge.rw_st0020_01.row.prog w) kvs) (hN : Names kvs D) (lo : (d == sysModules) = false) :
    Gives w mean mg mb 163 [.str page tx, .int i ta, .str stopS ts, .ref d] news 4 32 (fun r own => ∃ l, ∃ x : Str × Tok × Tok, r = .ref l ∧ own = [(l, listOf #[.str x.1 x.2.1, .int (i + (spell D dw).length) x.2.2] 0)] ∧ x.1.cps.toList = dw) := by
  have e : i = (i.toNat : Int) := by omega
  have c := c_piece w mean mg mb page stopS tx ta ts i.toNat stop hstop D g dw post hpg hsz hdw d o kvs news hp hd' hN lo
  rw [← e] at c
  refine c.imp fun r own ⟨l, z, t, t', e1, e2, e3⟩ => ⟨l, (z, t, t'), e1, ?_, e3⟩
  rw [e2]
  have e4 : ((i.toNat + (spell D dw).length : Nat) : Int) = i + (spell D dw).length := by omega
  rw [e4]
theorem sym_sign {x : Int} (h : x ∈ [20, 17, 22, 21, 1, 254]) (h1 : x ≠ 1) (h2 : x ≠ 254) : ∃ c, sy x = [c] ∧ (c, x) ∈ toks := by
  simp only [List.mem_cons, List.not_mem_nil, or_false] at h
  rcases h with rfl | rfl | rfl | rfl | rfl | rfl
  · exact ⟨60, rfl, by decide⟩
  · exact ⟨47, rfl, by decide⟩
  · exact ⟨61, rfl, by decide⟩
  · exact ⟨62, rfl, by decide⟩
  · exact absurd rfl h1
  · exact absurd rfl h2
theorem sub3 {x y z : Addr × Obj} {news big : List (Addr × Obj)} (h1 : x ∈ big) (h2 : y ∈ big) (h4 : z ∈ big) (h3 : ∀ p ∈ news, p ∈ big) : ∀ p ∈ x :: y :: z :: news, p ∈ big :=
  List.forall_mem_cons.mpr ⟨h1, sub2 h2 h4 h3⟩
theorem int_false {x y : Int} (h : x ≠ y) : (x == y) = false := by simpa using h
/-- two signs at the front of what is left -/
theorem front2 {Dt Dv : List (List Nat × Nat)} {ts : List Item} {x y : Int} {t : List Int} (h : ts.map code = x :: y :: t) (ok : ∀ i ∈ ts, OkI i) (hx : x = 20) (hy : y = 17 ∨ y = 1) : ∃ rest, ts.flatMap (rend Dt Dv) = [60, if y = 17 then 47 else 97] ++ rest := by
  obtain ⟨i, r, rfl, h1, h2⟩ := map_cons_inv h
  obtain ⟨j, r', rfl, h3, h4⟩ := map_cons_inv h2
  subst hx
  obtain ⟨rfl, _⟩ := code_sym h1 (ok _ (.head _)) (by decide) (by decide)
  rcases hy with rfl | rfl
  · obtain ⟨rfl, _⟩ := code_sym h3 (ok _ (.tail _ (.head _))) (by decide) (by decide)
    exact ⟨_, rfl⟩
  · obtain ⟨rfl, _⟩ := code_sym h3 (ok _ (.tail _ (.head _))) (by decide) (by decide)
    exact ⟨_, rfl⟩
/-- a '<' at the front -/
theorem front1 {Dt Dv : List (List Nat × Nat)} {ts : List Item} {t : List Int} (h : ts.map code = 20 :: t) (ok : ∀ i ∈ ts, OkI i) : ∃ rest, ts.flatMap (rend Dt Dv) = 60 :: rest := by
  obtain ⟨i, r, rfl, h1, h2⟩ := map_cons_inv h
  obtain ⟨rfl, _⟩ := code_sym h1 (ok _ (.head _)) (by decide) (by decide)
  exact ⟨_, rfl⟩
end
section
set_option Elab.async false
set_option maxRecDepth 100000
set_option linter.unusedVariables false
/-- what the reader meets at i for the terminal x: so many signs on, with these words -/
noncomputable def Tick (pg : List Nat) (Dt Dv : List (List Nat × Nat)) (i x : Int) (adv : Nat) (ws : List (List Nat)) : Prop :=
  (x = 0 ∧ i = pg.length ∧ adv = 0 ∧ ws = []) ∨
  (x = 255 ∧ ∃ d rest, pg.drop i.toNat = spell Dt d ++ 60 :: rest ∧ d.length ≤ 1000 ∧ adv = (spell Dt d).length ∧ ws = [d]) ∨
  (x = 253 ∧ ∃ d rest, pg.drop i.toNat = [34] ++ (spell Dv d ++ 34 :: rest) ∧ pg.drop (i + 1).toNat = spell Dv d ++ 34 :: rest ∧ d.length ≤ 1000 ∧ adv = 1 + (spell Dv d).length + 1 ∧ ws = [d]) ∨
  (x = 1 ∧ ∃ rest, pg.drop i.toNat = [97] ++ rest ∧ adv = 1 ∧ ws = []) ∨
  (x = 254 ∧ ∃ rest, pg.drop i.toNat = [32, 107] ++ rest ∧ adv = 2 ∧ ws = []) ∨
  ((x == 0) = false ∧ (x == 1) = false ∧ (x == 254) = false ∧ (x == 253) = false ∧ (x == 255) = false ∧ ∃ c rest, pg.drop i.toNat = [c] ++ rest ∧ (c, x) ∈ toks ∧ adv = 1 ∧ ws = [])
theorem RInv.turn {pg : List Nat} {Dt Dv : List (List Nat × Nat)} {W : List (List Nat)} {R : List Int} {rv : List Value} {rl : List Int} {n1 : Nat} {wv : List Value} {wl : List (List Nat)} {n3 : Nat} {pv : List Value} {pl : List Int} {n2 : Nat} {i : Int} {ti : Tok} {ts : List Item} {k : Nat} (h : RInv pg Dt Dv W R ⟨rv, rl, n1, wv, wl, n3, pv, pl, n2, i, ti, ts, k⟩) :
    (pl = [] ∧ IntsAre pv ([] : List Int).reverse ∧ IntsAre rv R ∧ TextsAre wv W) ∨
    ∃ x r, pl = x :: r ∧ IntsAre pv (x :: r).reverse ∧ r.length ≤ 500 ∧ rv.length ≤ 1000 ∧ wv.length ≤ 1000 ∧ 0 ≤ i ∧ 0 ≤ i + 1 ∧
      ((x < 256 ∧ ∃ adv ws ts', Tick pg Dt Dv i x adv ws ∧ ∀ t pv' n1' n2' wv' n3' i' ti', IntsAre pv' r.reverse → TextsAre wv' (wl ++ ws) → i' = i + adv →
          RInv pg Dt Dv W R ⟨rv ++ [.int x t], rl ++ [x], n1', wv', wl ++ ws, n3', pv', r, n2', i', ti', ts', k⟩ ∧ mu r k < mu pl k) ∨
       ((x = 256 ∨ x = 257) ∧ ∃ c2 rest b k', pg.drop i.toNat = [60, c2] ++ rest ∧ (!([60, c2] == (Str.ofString "</").cps.toList)) = b ∧
          ∀ pv' n2', IntsAre pv' (grow x b ++ r).reverse → RInv pg Dt Dv W R ⟨rv, rl, n1, wv, wl, n3, pv', grow x b ++ r, n2', i, ti, ts, k'⟩ ∧ mu (grow x b ++ r) k' < mu pl k)) := by
  obtain ⟨hrv, hwv, hpv, hsize, hwl, hi0, hil, hdrop, hdue, hoks, hst⟩ := h
  dsimp only at hrv hwv hpv hsize hwl hi0 hil hdrop hdue hoks hst
  have hlr := IntsAre.length hrv
  have hlw := TextsAre.length hwv
  have hlp := mu_le pl k
  rcases hst with ⟨q, rfl, hwg, hd', hR⟩ | ⟨rfl, rfl, hR⟩
  · refine .inr ?_
    cases q with
    | nil =>
      have hm : mu ([] ++ [0]) k = 1 + mu [] k := (mu_cons 0 [] k).trans (by rw [wt_term (by decide)])
      obtain ⟨_, htn⟩ | ⟨x, r, t', e, _⟩ | ⟨r, e, _⟩ | ⟨r, e, _⟩ | ⟨k', r, _, e, _⟩ := hd'.inv
      · obtain rfl : ts = [] := List.map_eq_nil_iff.mp htn
        have hend : i = (pg.length : Int) := by
          have e1 := congrArg List.length hdrop
          simp only [List.length_drop, List.flatMap_nil, List.length_nil] at e1
          omega
        refine ⟨0, [], rfl, hpv, by decide, by omega, by omega, hi0, by omega, .inl ⟨by decide, 0, [], [], .inl ⟨rfl, hend, rfl, rfl⟩, fun t pv' n1' n2' wv' n3' i' ti' hp hw hi' => ?_⟩⟩
        obtain rfl : i' = i := by omega
        rw [List.append_nil] at hw ⊢
        refine ⟨⟨ints_app hrv (.cons _ _ .nil), hw, hp, ?_, ?_, hi0, hil, hdrop, hdue, hoks, .inr ⟨rfl, rfl, hR⟩⟩, by omega⟩
        · show (rl ++ [0]).length + mu [] k ≤ 100
          simp only [List.length_append, List.length_singleton]; omega
        · show wl.length ≤ (rl ++ [0]).length
          simp only [List.length_append, List.length_singleton]; omega
      all_goals cases e
    | cons x r =>
      have hpv : IntsAre pv (x :: (r ++ [0])).reverse := hpv
      have hl1 : (x :: r ++ [0]).length = (r ++ [0]).length + 1 := rfl
      have hm1 : mu (x :: r ++ [0]) k = wt x + mu (r ++ [0]) k := by show mu (x :: (r ++ [0])) k = _; exact mu_cons x (r ++ [0]) k
      refine ⟨x, r ++ [0], rfl, hpv, by omega, by omega, by omega, hi0, by omega, ?_⟩
      obtain ⟨e, _⟩ | ⟨x', r', t', e, ht, hx, hd2⟩ | ⟨r', e, hd2⟩ | ⟨r', e, hd2⟩ | ⟨k', r', ek2, e, hd2⟩ := hd'.inv
      · cases e
      · obtain ⟨rfl, rfl⟩ := List.cons.inj e
        obtain ⟨it, ts', rfl, hc, rfl⟩ := map_cons_inv ht
        have h0 : x < 256 := (terms_lt hx).2
        rw [wt_term h0] at hm1
        have hok1 := hoks _ (.head _)
        have hoks2 : ∀ i ∈ ts', OkI i := fun j hj => hoks j (.tail _ hj)
        have hR2 : (rl ++ [x]) ++ (ts'.map code ++ [0]) = R := by rw [← hR, ← hc]; simp
        have fin : ∀ (adv : Nat) (ws : List (List Nat)) (i2 : Int), i2 = i + adv → (pg.drop i2.toNat = ts'.flatMap (rend Dt Dv) ∧ 0 ≤ i2 ∧ i2.toNat ≤ pg.length) → ws.length ≤ 1 → (wl ++ ws) ++ ts'.flatMap due = W →
            ∀ t pv' n1' n2' wv' n3' i' ti', IntsAre pv' (r ++ [0]).reverse → TextsAre wv' (wl ++ ws) → i' = i + adv →
              RInv pg Dt Dv W R ⟨rv ++ [.int x t], rl ++ [x], n1', wv', wl ++ ws, n3', pv', r ++ [0], n2', i', ti', ts', k⟩ ∧ mu (r ++ [0]) k < mu (x :: r ++ [0]) k := by
          rintro adv ws i2 rfl ⟨g1, g2, g3⟩ hws hdw t pv' n1' n2' wv' n3' i' ti' hp hw rfl
          refine ⟨⟨ints_app hrv (.cons _ _ .nil), hw, hp, ?_, ?_, g2, g3, g1, hdw, hoks2, .inl ⟨r, rfl, hwg.2, hd2, hR2⟩⟩, by omega⟩
          · show (rl ++ [x]).length + mu (r ++ [0]) k ≤ 100
            simp only [List.length_append, List.length_singleton]; omega
          · show (wl ++ ws).length ≤ (rl ++ [x]).length
            simp only [List.length_append, List.length_singleton]; omega
        by_cases h255 : x = 255
        · subst h255
          obtain ⟨d, rfl, hdl⟩ := code_txt hc hok1
          obtain ⟨c, rfl⟩ := hwg.1 rfl
          obtain ⟨t2, ht2⟩ := hd2.less
          obtain ⟨rest, hrest⟩ := front1 (Dt := Dt) (Dv := Dv) ht2 hoks2
          have hcut : pg.drop i.toNat = spell Dt d ++ ts'.flatMap (rend Dt Dv) := by rw [hdrop]; rfl
          refine .inl ⟨h0, (spell Dt d).length, [d], ts', .inr (.inl ⟨rfl, d, rest, by rw [hcut, hrest], hdl, rfl, rfl⟩), fin _ _ _ rfl (drop_go hcut hi0 hil rfl) (by simp) (by rw [← hdue]; simp [due])⟩
        by_cases h253 : x = 253
        · subst h253
          obtain ⟨d, rfl, hdl⟩ := code_val hc hok1
          have hcut : pg.drop i.toNat = [34] ++ (spell Dv d ++ 34 :: ts'.flatMap (rend Dt Dv)) := by rw [hdrop]; simp [rend]
          obtain ⟨hpc, b2, b3⟩ := drop_go hcut hi0 hil (j := i + 1) rfl
          have hpc2 : pg.drop (i + 1).toNat = (spell Dv d ++ [34]) ++ ts'.flatMap (rend Dt Dv) := by rw [hpc]; simp
          refine .inl ⟨h0, 1 + (spell Dv d).length + 1, [d], ts', .inr (.inr (.inl ⟨rfl, d, _, hcut, hpc, hdl, rfl, rfl⟩)), fin _ _ (i + ((1 + (spell Dv d).length + 1 : Nat) : Int)) rfl (drop_go hpc2 b2 b3 (by simp only [List.length_append, List.length_singleton]; omega)) (by simp) (by rw [← hdue]; simp [due])⟩
        obtain ⟨rfl, hmem⟩ := code_sym hc hok1 h255 h253
        have hdue2 : (wl ++ []) ++ ts'.flatMap due = W := by rw [List.append_nil]; exact hdue
        by_cases h1 : x = 1
        · subst h1
          have hcut : pg.drop i.toNat = [97] ++ ts'.flatMap (rend Dt Dv) := hdrop
          refine .inl ⟨h0, 1, [], ts', .inr (.inr (.inr (.inl ⟨rfl, _, hcut, rfl, rfl⟩))), fin _ _ _ rfl (drop_go hcut hi0 hil rfl) (by simp) hdue2⟩
        by_cases h254 : x = 254
        · subst h254
          have hcut : pg.drop i.toNat = [32, 107] ++ ts'.flatMap (rend Dt Dv) := hdrop
          refine .inl ⟨h0, 2, [], ts', .inr (.inr (.inr (.inr (.inl ⟨rfl, _, hcut, rfl, rfl⟩)))), fin _ _ _ rfl (drop_go hcut hi0 hil rfl) (by simp) hdue2⟩
        obtain ⟨c, hs1, hs2⟩ := sym_sign hmem h1 h254
        have hcut : pg.drop i.toNat = [c] ++ ts'.flatMap (rend Dt Dv) := hdrop.trans (by show sy x ++ _ = _; rw [hs1]; rfl)
        refine .inl ⟨h0, 1, [], ts', .inr (.inr (.inr (.inr (.inr ⟨int_false (by have := (terms_lt hx).1; omega), int_false h1, int_false h254, int_false h253, int_false h255, c, _, hcut, hs2, rfl, rfl⟩)))), fin _ _ _ rfl (drop_go hcut hi0 hil rfl) (by simp) hdue2⟩
      · obtain ⟨rfl, rfl⟩ := List.cons.inj e
        obtain ⟨t2, ht2⟩ := hd2.tag_head
        obtain ⟨rest, hrest⟩ := front2 (Dt := Dt) (Dv := Dv) ht2 hoks rfl (.inr rfl)
        refine .inr ⟨.inl rfl, 97, rest, true, k, hdrop.trans hrest, by decide +kernel, fun pv' n2' hp => ?_⟩
        have hm : mu (r256 ++ (r ++ [0])) k + 2 = mu (256 :: (r ++ [0])) k := mu_tag _ _
        have e2 : mu (256 :: r ++ [0]) k = mu (256 :: (r ++ [0])) k := rfl
        refine ⟨⟨hrv, hwv, hp, ?_, hwl, hi0, hil, hdrop, hdue, hoks, .inl ⟨r256 ++ r, (List.append_assoc _ _ _).symm, hwg.2.tag, hd2, hR⟩⟩, ?_⟩
        · show rl.length + mu (r256 ++ (r ++ [0])) k ≤ 100; omega
        · show mu (r256 ++ (r ++ [0])) k < mu (256 :: (r ++ [0])) k; omega
      · obtain ⟨rfl, rfl⟩ := List.cons.inj e
        obtain ⟨t2, ht2⟩ := hd2.stop_head
        obtain ⟨rest, hrest⟩ := front2 (Dt := Dt) (Dv := Dv) ht2 hoks rfl (.inl rfl)
        refine .inr ⟨.inr rfl, 47, rest, false, k, hdrop.trans hrest, by decide +kernel, fun pv' n2' hp => ?_⟩
        rw [show wt 257 = 2 from rfl] at hm1
        refine ⟨⟨hrv, hwv, hp, ?_, hwl, hi0, hil, hdrop, hdue, hoks, .inl ⟨20 :: 17 :: r', rfl, hwg.2, hd2, hR⟩⟩, ?_⟩
        · show rl.length + mu ((20 :: 17 :: r') ++ [0]) k ≤ 100; omega
        · show mu ((20 :: 17 :: r') ++ [0]) k < mu (257 :: (20 :: 17 :: r') ++ [0]) k; omega
      · obtain ⟨rfl, rfl⟩ := List.cons.inj e
        subst ek2
        obtain ⟨t2, ht2⟩ := hd2.more_head
        obtain ⟨rest, hrest⟩ := front2 (Dt := Dt) (Dv := Dv) ht2 hoks rfl (.inr rfl)
        refine .inr ⟨.inr rfl, 97, rest, true, k', hdrop.trans hrest, by decide +kernel, fun pv' n2' hp => ?_⟩
        have hg : mu (256 :: 255 :: 257 :: (20 :: 17 :: r' ++ [0])) k' + 4 = mu (257 :: 20 :: 17 :: r' ++ [0]) (k' + 1) := mu_grow _ _
        refine ⟨⟨hrv, hwv, hp, ?_, hwl, hi0, hil, hdrop, hdue, hoks, .inl ⟨256 :: 255 :: 257 :: 20 :: 17 :: r', rfl, Wg.grow hwg, hd2, hR⟩⟩, ?_⟩
        · show rl.length + mu (256 :: 255 :: 257 :: (20 :: 17 :: r' ++ [0])) k' ≤ 100; omega
        · show mu (256 :: 255 :: 257 :: (20 :: 17 :: r' ++ [0])) k' < mu (257 :: 20 :: 17 :: r' ++ [0]) (k' + 1); omega
  · refine .inl ⟨rfl, hpv, by rw [← hR]; exact hrv, ?_⟩
    have e : wl = W := by simpa using hdue
    rw [← e]; exact hwv
end
section
set_option Elab.async false
set_option maxRecDepth 100000
set_option maxHeartbeats 8000000
local macro_rules | `(tactic| walk_at "subscriptTail Name Slice str ref") => `(tactic| (k_here; k_dflt (refine' cut_key (s := ⟨_, _, _, _, _⟩) ?F ?N ?hx ?hsz ?hi ?hj ?_ ?hs ?ht; (case F => k_asm); (case N => k_asm); (case hx => with_reducible assumption); (case hsz => with_reducible assumption); (case hi => with_reducible assumption); (case hj => exact rfl); (case hs => with_unfolding_all rfl); (case ht => (intro _; with_unfolding_all rfl)); intro h' t' k' z' hz' hs' F' N')))
local macro_rules | `(tactic| walk_at "compareOp NotEq str str") => `(tactic| (k_here; k_dflt (refine' ne_lit ?hl ?hb ?_; (case hl => with_reducible assumption); (case hb => with_reducible assumption))))
local macro_rules | `(tactic| walk_at "compareOp NotEq int int") => `(tactic| (k_here; k_dflt (refine' ne_known ?e ?_; (case e => with_reducible first | assumption | exact rfl))))
local macro_rules | `(tactic| walk_at "getMethod ref") => `(tactic| (k_here; (with_reducible show wpAny _ _ (getMethod (Value.ref 32) (Str.ofString "get") _) _ _ _); k_dflt (refine' tok_method ?F ?X ?_; (case F => k_asm); (case X => k_asm))))
local macro_rules | `(tactic| walk_at "call builtin:dict.get") => `(tactic| (k_here; k_dflt (refine' tok_get ?F ?X ?x ?n ?_; (case F => k_asm); (case X => k_asm); (case x => with_reducible assumption); (case n => with_reducible assumption); intro t')))
local macro_rules | `(tactic| walk_at "call ref") => `(tactic| (k_here; k_dflt (first
  | (refine' gives_use1 (f := 135) (σ := Unit) (O := fun _ => listOf #[.bool _, .bool _, .bool _] 0) ?B ?F ?X ?N ?T ?k ?C ?d ?u ?_; (case B => k_asm); (case F => k_asm); (case X => k_asm); (case N => k_asm); (case T => k_asm); (case k => first | exact rfl | assumption); (case C => exact c_kindB _ _ _ _ _ _ _ (by with_reducible assumption) (by with_reducible assumption) (by with_reducible assumption)); (case d => exact room2 (by assumption) (by decide)); (case u => exact room2 (by assumption) (by decide)); intro l' h' tk' x' F' N' l1 _)
  | (refine' gives_use1 (f := 142) (σ := List Value) (O := fun vs => listOf vs.toArray 0) (Post := fun vs => IntsAre vs (grow _ _)) ?B ?F ?X ?N ?T ?k ?C ?d ?u ?_; (case B => k_asm); (case F => k_asm); (case X => k_asm); (case N => k_asm); (case T => k_asm); (case k => first | exact rfl | assumption); (case C => exact c_ruleB _ _ _ _ _ _ _ _ (by with_reducible assumption)); (case d => exact room2 (by assumption) (by decide)); (case u => exact room2 (by assumption) (by decide)); intro l' h' tk' x' F' N' l1 hI1)
  | (refine' gives_use1 (f := 163) (σ := Str × Tok × Tok) ?B ?F ?X ?N ?T ?k ?C ?d ?u ?_; (case B => k_asm); (case F => k_asm); (case X => k_asm); (case N => k_asm); (case T => k_asm); (case k => first | exact rfl | assumption); (case C => exact c_pieceI _ _ _ _ _ _ _ _ _ _ (by assumption) _ (by assumption) _ (by assumption) _ _ (by assumption) (by assumption) (by assumption) _ _ _ _ (by repeat (first | assumption | refine List.Mem.tail _ ?_)) (by assumption) (by assumption) (by assumption)); (case d => exact room2 (by assumption) (by decide)); (case u => exact room2 (by assumption) (by decide)); intro l' h' tk' x' F' N' l1 hz')); (try k_lt l1)))
theorem adv_val (i : Int) (n : Nat) : i + 1 + (n : Int) + 1 = i + ((1 + n + 1 : Nat) : Int) := by omega
theorem c_read (w : World) (mean : ExcName → Option Value) (mg mb : Str → Option Value) (page : Str) (tx : Tok) (hsz : page.cps.size ≤ 100000) (items : List Item) (Dt Dv : List (List Nat × Nat)) (gt : GoodD Dt 60) (gv : GoodD Dv 34)
    (hpg : page.cps.toList = items.flatMap (rend Dt Dv)) (hok : ∀ i ∈ items, OkI i) (hder : Der 2 [256] (items.map code)) (dt dv : Addr) (ot ov : Obj) (kt kv : List (Str × Value)) (news : List (Addr × Obj)) (hpt : (dt, ot) ∈ news) (hpv : (dv, ov) ∈ news)
    (hdt : ot.IsDictOf (PySem.strKind Challenge.rw_st0020_01.row.prog w) kt) (hdv : ov.IsDictOf (PySem.strKind Challenge.rw_st0020_01.row.prog w) kv) (hNt : Names kt Dt) (hNv : Names kv Dv) (lot : (dt == sysModules) = false) (lov : (dv == sysModules) = false) :
    Gives w mean mg mb 170 [.str page tx, .ref dt, .ref dv] news 8 200 (fun r own => ∃ l rA wA rv n1 wv n3, r = .ref l ∧ own = [(l, listOf #[.ref rA, .ref wA] 0), (wA, listOf (List.toArray wv) n3), (rA, listOf (List.toArray rv) n1)] ∧ IntsAre rv (items.map code ++ [0]) ∧ TextsAre wv (items.flatMap due)) := by
  w_top off; unfold Gives; k_fill
  intro dp un gd cn cs a ccd cl outer A₀ base h₀ L m s Q E B F X N T hk hd hu hret
  refine wpAny_call ?_
  k_dflt ktr_enter
  k_steps
  rename_i rA _ hrow _ wA _ hlw _ pA _ hlpp _ _ F1 N1
  refine' kw_while (σ := RSt) (fun c => (pA, listOf c.pv.toArray c.n2) :: (wA, listOf c.wv.toArray c.n3) :: (rA, listOf c.rv.toArray c.n1) :: news) (fun c => [(Str.ofString "at", .int c.i c.ti), (Str.ofString "pile", .ref pA), (Str.ofString "words", .ref wA), (Str.ofString "row", .ref rA), (Str.ofString "page", .str page tx), (Str.ofString "texts", .ref dt), (Str.ofString "values", .ref dv)])
    (RInv page.cps.toList Dt Dv (items.flatMap due) (items.map code ++ [0])) (fun c => mu c.pl c.k) ⟨[], [], 0, [], [], 0, [.int 0 _, .int 256 _], [256, 0], 0, 0, _, items, 2⟩ F1 N1 ?kk ?pp ?turn
  case kk => kst_all
  case pp => exact ⟨.nil, .nil, .cons _ _ (.cons _ _ .nil), by show 0 + mu [256, 0] 2 ≤ 100; decide +kernel, Nat.le_refl 0, Int.le_refl 0, Nat.zero_le _, hpg, rfl, hok, .inl ⟨[256], rfl, ⟨fun q => by omega, trivial⟩, hder, rfl⟩⟩
  clear F1 N1
  rintro ⟨rv, rl, n1, wv, wl, n3, pv, pl, n2, i, ti, ts, k⟩ M K h tk2 hI F3 N3 back
  have hrv := hI.rows
  have hwv := hI.wrds
  have hI := hI.turn
  dsimp only at hI hrv hwv F3 N3
  rcases hI with ⟨rfl, hp0, hR, hW⟩ | ⟨x, r, rfl, hpv, hz, hz1, hz2, hi0, hi1, hx⟩
  · k_steps
    rename _ < _ ∧ _ < _ ∧ _ < _ ∧ AllLt _ news => hl4
    refine' hret _ _ _ [(_, listOf #[.ref rA, .ref wA] 0), (wA, listOf wv.toArray n3), (rA, listOf rv.toArray n1)] ?e1 ?e2 ?e4 ⟨_, rA, wA, rv, n1, wv, n3, rfl, rfl, hR, hW⟩
    case e1 => k_asm
    case e2 => exact cb_drop (by assumption) (sub3 (by k_mem) (by k_mem) (by k_mem) (fun p hp => by repeat (first | exact hp | refine List.Mem.tail _ ?_)))
    case e4 =>
      intro q hq p hp
      simp only [List.mem_cons, List.not_mem_nil, or_false] at hp
      rcases hp with rfl | rfl | rfl
      · exact allLt_mem _ hl4.2.2.2 q hq
      · exact allLt_mem _ hlw.2 q hq
      · exact hrow q hq
  · obtain ⟨b1, hb1⟩ : ∃ b, (x == 0) = b := ⟨_, rfl⟩
    obtain ⟨b2, hb2⟩ : ∃ b, decide (x < 256) = b := ⟨_, rfl⟩
    obtain ⟨b3, hb3⟩ : ∃ b, decide (256 ≤ x) = b := ⟨_, rfl⟩
    walk_at "ToIf"
    rcases hx with ⟨hlt, adv, ws, ts', tick, hend⟩ | ⟨h2, c2, rest, b, k', hcut, hne, hend⟩
    · obtain rfl : b2 = true := hb2.symm.trans (decide_eq_true hlt)
      obtain rfl : b3 = false := hb3.symm.trans (decide_eq_false (Int.not_le.mpr hlt))
      walk1
      walk_at "ToIf"
      walk1
      walk_at "ToIf"
      have hsz1 : page.cps.size ≤ 1000000 := Nat.le_trans hsz (by decide)
      rcases tick with ⟨rfl, hat, rfl, rfl⟩ | ⟨rfl, d, rest, hpc, hdl, rfl, rfl⟩ | ⟨rfl, d, rest, hcut, hpc, hdl, rfl, rfl⟩ | ⟨rfl, rest, hcut, rfl, rfl⟩ | ⟨rfl, rest, hcut, rfl, rfl⟩ | ⟨f0, f1, f254, f253, f255, c, rest, hcut, hmem, rfl, rfl⟩
      · have hend2 : i = (page.length : Int) := hat.trans (by simp [Str.length])
        obtain rfl : b1 = true := hb1.symm
        have hsp : page.cps.toList.length ≤ 100000 := by simpa using hsz
        k_steps
        refine' back ⟨rv ++ [.int 0 _], rl ++ [0], n1 + 1, wv, wl ++ [], n3, pv.dropLast, r, n2 + 1, i, ti, ts', k⟩ _ _ _ _ _ ?q1 ?q2 ?q3 ?q5 ?q7 ?q8 (.inl rfl)
        case q1 => k_asm
        case q2 => k_asm
        case q3 => exact sub3 (by k_mem) (by k_mem) (by k_mem) (fun p hp => by repeat (first | exact hp | refine List.Mem.tail _ ?_))
        case q5 => (repeat' (first | exact List.forall_mem_nil _ | (refine List.forall_mem_cons.mpr ⟨?_, ?_⟩; (with_unfolding_all rfl))))
        case q7 => exact (hend _ _ _ _ _ _ _ _ (by assumption) (by rw [List.append_nil]; exact hwv) (Int.add_zero i).symm).1
        case q8 => exact (hend tx _ 0 0 _ 0 _ tx (by assumption) (by rw [List.append_nil]; exact hwv) rfl).2
      · have hst : (Str.ofString "<").cps.toList = [60] := by decide +kernel
        k_steps
        refine' back ⟨rv ++ [.int 255 _], rl ++ [255], n1 + 1, wv ++ [.str _ _], wl ++ [d], n3 + 1, pv.dropLast, r, n2 + 1, i + (spell Dt d).length, _, ts', k⟩ _ _ _ _ _ ?q1 ?q2 ?q3 ?q5 ?q7 ?q8 (.inl rfl)
        case q1 => k_asm
        case q2 => k_asm
        case q3 => exact sub3 (by k_mem) (by k_mem) (by k_mem) (fun p hp => by repeat (first | exact hp | refine List.Mem.tail _ ?_))
        case q5 => (repeat' (first | exact List.forall_mem_nil _ | (refine List.forall_mem_cons.mpr ⟨?_, ?_⟩; (with_unfolding_all rfl))))
        case q7 => exact (hend _ _ _ _ _ _ _ _ (by assumption) (hwv.app (.cons _ (by assumption) .nil)) rfl).1
        case q8 => exact (hend tx _ 0 0 _ 0 _ tx (by assumption) (hwv.app (.cons tx (by assumption) .nil)) rfl).2
      · have hst : (Str.ofString "\"").cps.toList = [34] := by decide +kernel
        have hne : (!([34] == (Str.ofString "\"").cps.toList)) = false := by decide +kernel
        k_steps
        refine' back ⟨rv ++ [.int 253 _], rl ++ [253], n1 + 1, wv ++ [.str _ _], wl ++ [d], n3 + 1, pv.dropLast, r, n2 + 1, i + 1 + (spell Dv d).length + 1, _, ts', k⟩ _ _ _ _ _ ?q1 ?q2 ?q3 ?q5 ?q7 ?q8 (.inl rfl)
        case q1 => k_asm
        case q2 => k_asm
        case q3 => exact sub3 (by k_mem) (by k_mem) (by k_mem) (fun p hp => by repeat (first | exact hp | refine List.Mem.tail _ ?_))
        case q5 => (repeat' (first | exact List.forall_mem_nil _ | (refine List.forall_mem_cons.mpr ⟨?_, ?_⟩; (with_unfolding_all rfl))))
        case q7 => exact (hend _ _ _ _ _ _ _ _ (by assumption) (hwv.app (.cons _ (by assumption) .nil)) (adv_val _ _)).1
        case q8 => exact (hend tx _ 0 0 _ 0 _ tx (by assumption) (hwv.app (.cons tx (by assumption) .nil)) rfl).2
      · have hne : (!([97] == (Str.ofString "a").cps.toList)) = false := by decide +kernel
        k_steps
        refine' back ⟨rv ++ [.int 1 _], rl ++ [1], n1 + 1, wv, wl ++ [], n3, pv.dropLast, r, n2 + 1, i + ((1 : Nat) : Int), _, ts', k⟩ _ _ _ _ _ ?q1 ?q2 ?q3 ?q5 ?q7 ?q8 (.inl rfl)
        case q1 => k_asm
        case q2 => k_asm
        case q3 => exact sub3 (by k_mem) (by k_mem) (by k_mem) (fun p hp => by repeat (first | exact hp | refine List.Mem.tail _ ?_))
        case q5 => (repeat' (first | exact List.forall_mem_nil _ | (refine List.forall_mem_cons.mpr ⟨?_, ?_⟩; (with_unfolding_all rfl))))
        case q7 => exact (hend _ _ _ _ _ _ _ _ (by assumption) (by rw [List.append_nil]; exact hwv) rfl).1
        case q8 => exact (hend tx _ 0 0 _ 0 _ tx (by assumption) (by rw [List.append_nil]; exact hwv) rfl).2
      · have hne : (!([32, 107] == (Str.ofString " k").cps.toList)) = false := by decide +kernel
        k_steps
        refine' back ⟨rv ++ [.int 254 _], rl ++ [254], n1 + 1, wv, wl ++ [], n3, pv.dropLast, r, n2 + 1, i + ((2 : Nat) : Int), _, ts', k⟩ _ _ _ _ _ ?q1 ?q2 ?q3 ?q5 ?q7 ?q8 (.inl rfl)
        case q1 => k_asm
        case q2 => k_asm
        case q3 => exact sub3 (by k_mem) (by k_mem) (by k_mem) (fun p hp => by repeat (first | exact hp | refine List.Mem.tail _ ?_))
        case q5 => (repeat' (first | exact List.forall_mem_nil _ | (refine List.forall_mem_cons.mpr ⟨?_, ?_⟩; (with_unfolding_all rfl))))
        case q7 => exact (hend _ _ _ _ _ _ _ _ (by assumption) (by rw [List.append_nil]; exact hwv) rfl).1
        case q8 => exact (hend tx _ 0 0 _ 0 _ tx (by assumption) (by rw [List.append_nil]; exact hwv) rfl).2
      · k_steps
        refine' back ⟨rv ++ [.int x _], rl ++ [x], n1 + 1, wv, wl ++ [], n3, pv.dropLast, r, n2 + 1, i + 1, _, ts', k⟩ _ _ _ _ _ ?q1 ?q2 ?q3 ?q5 ?q7 ?q8 (.inl rfl)
        case q1 => k_asm
        case q2 => k_asm
        case q3 => exact sub3 (by k_mem) (by k_mem) (by k_mem) (fun p hp => by repeat (first | exact hp | refine List.Mem.tail _ ?_))
        case q5 => (repeat' (first | exact List.forall_mem_nil _ | (refine List.forall_mem_cons.mpr ⟨?_, ?_⟩; (with_unfolding_all rfl))))
        case q7 => exact (hend _ _ _ _ _ _ _ _ (by assumption) (by rw [List.append_nil]; exact hwv) rfl).1
        case q8 => exact (hend tx _ 0 0 _ 0 _ tx (by assumption) (by rw [List.append_nil]; exact hwv) rfl).2
    · obtain ⟨e1, e2, e3⟩ := nonterm h2
      obtain rfl : b1 = false := hb1.symm.trans e1
      obtain rfl : b2 = false := hb2.symm.trans e2
      obtain rfl : b3 = true := hb3.symm.trans e3
      have hsz1 : page.cps.size ≤ 1000000 := Nat.le_trans hsz (by decide)
      k_steps
      refine' back ⟨rv, rl, n1, wv, wl, n3, pv.dropLast ++ (_ : List Value), grow x b ++ r, bump (grow x b) (n2 + 1), i, ti, ts, k'⟩ _ _ _ _ _ ?q1 ?q2 ?q3 ?q5 ?q7 ?q8 (.inr rfl)
      case q1 => k_asm
      case q2 => k_asm
      case q3 => exact sub3 (by k_mem) (by k_mem) (by k_mem) (fun p hp => by repeat (first | exact hp | refine List.Mem.tail _ ?_))
      case q5 => (repeat' (first | exact List.forall_mem_nil _ | (refine List.forall_mem_cons.mpr ⟨?_, ?_⟩; (with_unfolding_all rfl))))
      case q7 => exact (hend _ _ (by assumption)).1
      case q8 => exact (hend _ 0 (by assumption)).2
end
local macro_rules | `(tactic| walk_at "execs cons") => `(tactic| (k_here; (with_reducible show wpAny _ _ (execs (_ :: _) _) _ _ _); (refine gen_toks ?_ ?_); (fail_if_success (with_reducible assumption)); (first | omega | k_dflt (exact Nat.succ_pos _)); intro tk htk))
local macro_rules | `(tactic| walk_at "call builtin:list.append") => `(tactic| (k_here; (with_reducible show wpAny _ _ (call (Value.builtin _) [Value.ref _, _]) _ _ _); k_dflt (refine' append_K ?k1 ?k2 ?k3 ?_ ?z; (case k1 => k_asm); (case k2 => k_asm); (case k3 => k_upd); (case z => exact Nat.le_trans (by assumption) (by decide)); k_whole); intro h' F' N'; (try k_sweep)))
section
set_option Elab.async false
set_option maxRecDepth 100000
set_option maxHeartbeats 8000000

theorem cut63 {value slice : PySem.Expr} {prog : Program} {w : World} {A : Around} {E : Value → Shared → Prop} {s : Shared} {h₀ : Heap} {L sl : Addr} {m : Str → Option Value} {news : List (Addr × Obj)} {ws : List Value} {ns : List Int} {t : Tok} {Q : Value → Shared → Prop}
    (F : Fr h₀ L s.heap m) (N : News h₀ L s.heap news) (hl : h₀.IsList sl ws.toArray) (hi : IntsAre ws ns) (hn : ns.length ≤ 63)
    (h : ∀ D ws h', Fr h₀ L h' m → News h₀ L h' ((D, listOf (List.toArray ws) 0) :: news) → (∀ p ∈ news, p.1 < D) → IntsAre ws ns → Q (.ref D) { s with heap := h' })
    (hs : subscripted slice false (.ref sl) (.ref s.heap.objs.size) = operate [.ref s.heap.objs.size, .ref sl] (getItem (.ref sl) (.ref s.heap.objs.size))) (ht : ∀ r, letTemporaryGo value (.ref sl) r = pure ()) :
    wpAny (model prog w) A (subscriptTail value slice (.ref sl) (.ref s.heap.objs.size)) Q E { s with heap := s.heap.push { cls := .type "slice", data := .fields #[.none, .int 63 t, .none] } } := by
  have hm := kmk_upto hi (y := 63) (by decide)
  rw [List.take_of_length_le (show ns.length ≤ (63 : Int).toNat from hn)] at hm
  refine kmk_slice_ints (c := ns.length) F N (F.lst hl) .none (.int _ _) hi hm rfl (fun D ws h' F' N' l1 h1 _ _ => h D ws h' F' N' l1 h1) hs ht ?_
  rw [List.size_toArray, hi.length, PySem.sizeLine_eq]
  omega
local macro_rules | `(tactic| walk_at "subscriptTail Name Slice ref ref") => `(tactic| (k_here; k_dflt (refine' cut63 ?F ?N ?hl ?hi ?hn ?_ ?hs ?ht; (case F => k_asm); (case N => k_asm); (case hl => exact Fr.lst (by assumption) (by assumption)); (case hi => assumption); (case hn => assumption); (case hs => with_unfolding_all rfl); (case ht => (intro _; with_unfolding_all rfl)); intro D ws2 h' F' N' l1 hI2)))

section
variable {prog : Program} {w : World} {A : Around} {E : Value → Shared → Prop} {s : Shared} {h₀ : Heap} {L : Addr} {m : Str → Option Value} {news : List (Addr × Obj)}
/-- enumerate over a list that the call has made -/
theorem call_enum_made {α : Type} {K : ItemKind α} {as : List α} {l : Addr} {vs : List Value} {n : Nat} {Q : Value → Shared → Prop} (hh : A.handled = none) (hi : AreOf K vs as)
    (F : Fr h₀ L s.heap m) (N : News h₀ L s.heap ((l, listOf vs.toArray n) :: news)) (hlt : ∀ q ∈ news, q.1 < l)
    (h : ∀ h' e, Fr h₀ L h' m → News h₀ L h' news → PairSrcL prog w A E h₀ L K as (.ref e) { s with heap := h' } m news → Q (.ref e) { s with heap := h' }) :
    wpAny (model prog w) A (call (.type "enumerate") [.ref l]) Q E s := by
  have zl := N (l, listOf vs.toArray n) (.head _)
  have hls : s.heap.IsList l vs.toArray := ⟨_, zl.1, rfl, n, rfl⟩
  have Nn : News h₀ L s.heap news := fun p hp => N p (.tail _ hp)
  have hl2 : l < s.heap.objs.size := Heap.lt_size zl.1
  have hLs : L < s.heap.objs.size := F.ns.lt
  have hab : h₀.objs.size ≤ L := F.above
  refine call_enumerate_list hls fun h' he hit hsz hk => ?_
  have F' : Fr h₀ L h' m := ⟨F.ns.keeps hk, fun b o e => hk b o (F.keep b o e), F.above⟩
  have N' : News h₀ L h' news := fun p hp => ⟨hk _ _ (Nn p hp).1, (Nn p hp).2⟩
  refine h h' _ F' N' fun env hL => ?_
  subst hL
  refine enumSrc (Draws.list (A := A.in1) hh s.heap.objs.size l (Nat.ne_of_lt hl2) vs.toArray) he ⟨hit, hls.at fun o e => hk l o e⟩ (Nat.succ_ne_self _) ?_ (by simp) ?_
    (Heap.get?_none_of_le (Nat.le_trans hab (Nat.le_of_lt (Nat.lt_succ_of_lt hLs)))) (Heap.get?_none_of_le (Nat.le_trans hab (Nat.le_of_lt hLs))) ?_ (by simp [hi.length]) (fun i x hx => hi.get i x (by simpa using hx)) F' N'
  · intro hm
    rcases List.mem_cons.mp hm with e | hm
    · exact Nat.succ_ne_self _ e
    · exact Nat.ne_of_gt (Nat.lt_succ_of_lt hl2) (List.mem_singleton.mp hm)
  · intro hm
    rcases List.mem_cons.mp hm with e | hm
    · exact Nat.ne_of_lt (Nat.lt_succ_of_lt hLs) e
    · rcases List.mem_cons.mp hm with e | hm
      · exact Nat.ne_of_lt hLs e
      · exact zl.2.1 (List.mem_singleton.mp hm).symm
  · intro b hb q hq e
    have hq1 : q.1 < s.heap.objs.size := Heap.lt_size (N q (.tail _ hq)).1
    rcases List.mem_cons.mp hb with e1 | hb
    · exact Nat.ne_of_gt (Nat.lt_succ_of_lt hq1) (e1.symm.trans e)
    · rcases List.mem_cons.mp hb with e1 | hb
      · exact Nat.ne_of_gt hq1 (e1.symm.trans e)
      · have e2 := List.mem_singleton.mp hb
        exact Nat.ne_of_lt (hlt q hq) (e.symm.trans e2)
end
section
variable {prog : Program} {w : World} {A : Around} {E : Value → Shared → Prop} {s : Shared} {h₀ : Heap} {m : Str → Option Value} {news : List (Addr × Obj)} {env : Env}
theorem pair_K {as : List Int} {e D : Addr} {nc xi xc : Str} {body : List Stmt} {Q : Flow → Shared → Prop} {us : List Value} {n : Nat} {cs : List Int} (S : PairSrcL prog w A E h₀ env.locals .int as (.ref e) s m ((D, listOf us.toArray n) :: news)) (hlt : ∀ p ∈ news, p.1 < D) (hm : m nc = some (.ref D)) (hi : IntsAre us cs) (h9 : cs.length = 9)
    (turn : ∀ (i : Nat) (x : Int) t u us n cs h tk own (M : Str → Option Value) (K : Flow → Shared → Prop), IntsAre us cs → cs.length = 9 → (∀ p ∈ news ++ own, p.1 ≠ D) → Fr h₀ env.locals h (kf M [(xc, .int x u), (xi, .int i t), (nc, .ref D)]) → News h₀ env.locals h ((D, listOf (List.toArray us) n) :: (news ++ own)) →
      (∀ h' tk' m' us' n' cs', Fr h₀ env.locals h' m' → News h₀ env.locals h' ((D, listOf (List.toArray us') n') :: (news ++ own)) → m' nc = some (.ref D) → IntsAre us' cs' → cs'.length = 9 → K .next { s with heap := h', toks := tk' }) →
      wpAny (model prog w) A (execs body env) K E { s with heap := h, toks := tk })
    (done : ∀ (M : Str → Option Value) us n cs h tk, Fr h₀ env.locals h (kf M [(nc, .ref D)]) → News h₀ env.locals h ((D, listOf (List.toArray us) n) :: news) → IntsAre us cs → cs.length = 9 → Q .next { s with heap := h, toks := tk }) :
    wpAny (model prog w) A (pyIter (.ref e)) (fun it s₂ => PairAt3 prog w A h₀ env xi xc body Q E it s₂) E s := by
  refine S env rfl xi xc body Q (fun i m' n' => m' nc = some (.ref D) ∧ ∃ us n cs, n' = (D, listOf (List.toArray us) n) :: news ∧ IntsAre us cs ∧ cs.length = 9) ⟨hm, us, n, cs, rfl, hi, h9⟩ ?_ ?_
  · rintro i x t v m₁ news₁ s₁ own ⟨h, tk, rfl⟩ hx ⟨u, rfl⟩ ⟨hm, us, n, cs, rfl, hi, h9⟩ hadr hoff F₁ N₁
    have sw : ∀ {h' : Heap} {o : Obj}, News h₀ env.locals h' ((D, o) :: (news ++ own)) → News h₀ env.locals h' (own ++ (D, o) :: news) := fun N p hp => N p ((List.mem_append.mp hp).elim (fun h => .tail _ (List.mem_append.mpr (.inr h))) fun h => (List.mem_cons.mp h).elim (fun e => e ▸ .head _) fun h => .tail _ (List.mem_append.mpr (.inl h)))
    have sv : ∀ {h' : Heap} {o : Obj}, News h₀ env.locals h' (own ++ (D, o) :: news) → News h₀ env.locals h' ((D, o) :: (news ++ own)) := fun N p hp => N p ((List.mem_cons.mp hp).elim (fun e => List.mem_append.mpr (.inr (e ▸ .head _))) fun h => (List.mem_append.mp h).elim (fun h => List.mem_append.mpr (.inr (.tail _ h))) fun h => List.mem_append.mpr (.inl h))
    refine turn i x t u us n cs h tk own m₁ _ hi h9 ?_ ?_ (sv N₁) ?_
    · exact fun p hp => (List.mem_append.mp hp).elim (fun q => Nat.ne_of_lt (hlt p q)) fun q e => hoff p q _ (.head _) e
    · have e : kf m₁ [(xc, .int x u), (xi, .int i t), (nc, .ref D)] = fun y => if y = xc then some (Value.int x u) else if y = xi then some (Value.int i t) else m₁ y := by
        funext y
        exact congrArg (fun q => if y = xc then some (Value.int x u) else if y = xi then some (Value.int i t) else q) (congrFun (kf_same (ps := [(nc, .ref D)]) fun p hp => by rw [List.mem_singleton.mp hp]; exact hm) y)
      rw [e]; exact F₁
    · intro h' tk' m' us' n' cs' F' N' g1 g2 g3
      exact ⟨rfl, h', tk', m', (D, listOf (List.toArray us') n') :: news, rfl, F', sw N', rfl, g1, us', n', cs', rfl, g2, g3⟩
  · rintro h tk m' news' F' N' _ ⟨hm, us, n, cs, rfl, hi, h9⟩
    exact done m' us n cs h tk (by rw [kf_same (ps := [(nc, .ref D)]) fun p hp => by rw [List.mem_singleton.mp hp]; exact hm]; exact F') N' hi h9
end
theorem setL_some : ∀ {l : List Value} {k : Nat} {v : Value}, k < l.length → ki_setL l k v = some (l.set k v)
  | [], _, _, h => by simp at h
  | x :: r, 0, v, h => rfl
  | x :: r, k + 1, v, h => by
    show (match ki_setL r k v with | some q => some (x :: q) | none => none) = _
    rw [setL_some (by simpa using h)]; rfl
theorem ints_set {us : List Value} {cs : List Int} (h : IntsAre us cs) (x : Int) (t : Tok) : ∀ k, IntsAre (us.set k (.int x t)) (cs.set k x) := by
  induction h with
  | nil => intro k; exact .nil
  | cons y u r ih =>
    intro k
    cases k with
    | zero => exact .cons x t r
    | succ k => exact .cons y u (ih k)
section
variable {prog : Program} {w : World} {A : Around} {E : Value → Shared → Prop} {s : Shared} {h₀ : Heap} {L D : Addr} {m : Str → Option Value} {news news' : List (Addr × Obj)} {n : Nat} {us : List Value} {cs : List Int}
theorem nine_len {Q : Value → Shared → Prop} (N : News h₀ L s.heap news) (hm : (D, listOf us.toArray n) ∈ news) (hi : IntsAre us cs) (h9 : cs.length = 9)
    (h : Q (.int 9 (s.toks + 1)) { s with toks := s.toks + 1 + 1 }) : wpAny (model prog w) A (call (.builtin "len") [.ref D]) Q E s := by
  have hl := hi.length
  have e : ((us.toArray.size : Nat) : Int) = 9 := by simp; omega
  refine len_list (News.isList N hm) (by omega) ?_
  rw [e]; exact h
theorem nine_item {value slice : PySem.Expr} {k : Int} {u : Tok} {Q : Value → Shared → Prop} (N : News h₀ L s.heap news) (hm : (D, listOf us.toArray n) ∈ news) (hi : IntsAre us cs) (h0 : 0 ≤ k) (h1 : k < cs.length) (hf : cs.length ≤ 1000) (h : ∀ t, Q (.int (cs.getD k.toNat 0) t) s)
    (hs : subscripted slice false (.ref D) (.int k u) = operate [.ref D, .int k u] (getItem (.ref D) (.int k u))) (hg : ∀ r, letTemporaryGo value (.ref D) r = pure ()) :
    wpAny (model prog w) A (subscriptTail value slice (.ref D) (.int k u)) Q E s :=
  item_list_ints (News.isList N hm) hi h0 h1 (by omega) h hs hg
theorem nine_set {k x : Int} {u t : Tok} {Q : Unit → Shared → Prop} (F : Fr h₀ L s.heap m) (N : News h₀ L s.heap news) (hi : IntsAre us cs) (h0 : 0 ≤ k) (h1 : k < cs.length) (h9 : cs.length ≤ 1000) (U : Upd D (listOf us.toArray n) (listOf (us.set k.toNat (.int x t)).toArray n) news news')
    (h : ∀ h', Fr h₀ L h' m → News h₀ L h' news' → IntsAre (us.set k.toNat (.int x t)) (cs.set k.toNat x) → (cs.set k.toNat x).length = cs.length → Q () { s with heap := h' }) : wpAny (model prog w) A (setItem (.ref D) (.int k u) (.int x t)) Q E s := by
  have hl := hi.length
  refine ki_set F N h0 (by omega) (setL_some ?_) U fun h' F' N' => h h' F' N' (ints_set hi x t k.toNat) (by simp)
  simp; omega
end
local macro_rules | `(tactic| walk_at "call type:enumerate") => `(tactic| (k_here; k_dflt (refine' call_enum_made (K := ItemKind.int) ?hh ?hi ?F ?N ?lt ?_; (case hh => exact rfl); (case hi => exact IntsAre.areOf (by assumption)); (case F => k_asm); (case N => k_asm); (case lt => assumption); intro h' e' F' N' S')))
local macro_rules | `(tactic| walk_at "call builtin:len") => `(tactic| (k_here; k_dflt (refine' nine_len ?N ?hm ?hi ?h9 ?_; (case N => k_asm); (case hm => k_mem); (case hi => assumption); (case h9 => assumption))))
local macro_rules | `(tactic| walk_at "subscriptTail Name BinOp ref int") => `(tactic| (k_here; k_dflt (refine' nine_item ?N ?hm ?hi ?h0 ?h1 ?hf ?_ ?hs ?hg; (case N => k_asm); (case hm => k_mem); (case hi => assumption); (case h0 => omega); (case h1 => omega); (case hf => omega); (case hs => with_unfolding_all rfl); (case hg => (intro _; with_unfolding_all rfl)); intro t')))
local macro_rules | `(tactic| walk_at "setItem ref int") => `(tactic| (k_here; k_dflt (refine' nine_set ?F ?N ?hi ?h0 ?h1 ?h9 ?U ?_; (case F => k_asm); (case N => k_asm); (case hi => assumption); (case h0 => omega); (case h1 => omega); (case h9 => omega); (case U => k_upd); intro h' F' N' hI' h9''; (try k_sweep))))
theorem c_cells (w : World) (mean : ExcName → Option Value) (mg mb : Str → Option Value) (sl D : Addr) (ws : List Value) (ns : List Int) (hi : IntsAre ws ns) (hn : ns.length ≤ 63) (us : List Value) (cs : List Int) (hc : IntsAre us cs) (h9 : cs.length = 9) (n : Nat) (news : List (Addr × Obj)) (hlo : ∀ p ∈ news, p.1 < D) :
    ∀ (dp un : Nat) (gd : Option (List Code)) (cn : Str) (cs : Scope) (a : Addr) (ccd : Value) (cl : List (Str × Addr)) (outer : List Env) (A₀ : Around) (base h₀ : Heap) (L : Addr) (m : Str → Option Value)
    (s : Shared) (Q E : Value → Shared → Prop),
    Below A₀ base outer h₀ → Fr h₀ L s.heap m → (Mine.hk.heap_1 w.params).In h₀ → h₀.IsList sl ws.toArray → News h₀ L s.heap ((D, listOf us.toArray n) :: news) →
    Top Mine.vw (looseW Mine.vw [Str.ofString "EXACT_TOKEN_TYPES", Str.ofString "_twin_re_1", Str.ofString "_twin_re_2"]) mean mg mb h₀ → cs.kind = .function →
    dp + 4 < recursionLimit → un + 32 < cLine →
    (∀ h' tk' us' cs' n', Fr h₀ L h' m → News h₀ L h' ((D, listOf us'.toArray n') :: news) → IntsAre us' cs' → cs'.length = 9 → Q (.ref D) { s with heap := h', toks := tk' }) →
    wpAny (model Challenge.rw_st0020_01.row.prog w) (ktrTop dp un gd cn cs L a ccd cl outer) (call (.ref 121) [.ref sl, .ref D]) Q E s := by
  w_top off
  k_fill
  intro dp un gd cn cs a ccd cl outer A₀ base h₀ L m s Q E B F X hL N T hk hd hu hret
  refine wpAny_call ?_
  k_dflt ktr_enter
  k_steps
  refine' pair_K (nc := Str.ofString "cells") (by assumption) hlo ?hm hc h9 ?turn ?done
  case hm => rfl
  case turn =>
    intro i x t u us' n' cs' h3 tk3 own M K hc' h9' hne F3 N3 back
    have hi9 : (i : Int) % 9 < 9 := by omega
    k_steps
    refine' back _ _ _ _ _ _ ?e1 ?e2 ?e3 ?e4 ?e5
    case e1 => k_asm
    case e2 => k_asm
    case e3 => rfl
    case e4 => assumption
    case e5 => exact Eq.trans (by assumption) h9'
  case done =>
    intro M us' n' cs' h3 tk3 F3 N3 hc' h9'
    k_steps
    refine' hret _ _ _ _ _ ?e1 ?e2 hc' h9'
    case e1 => k_asm
    case e2 => k_asm

end
section
set_option Elab.async false
set_option maxRecDepth 100000
set_option maxHeartbeats 8000000

noncomputable def okL (l : List Nat) : Prop := ∀ c ∈ l, c < 0x110000

theorem okL_of {l : List Nat} (h : l.all (fun c => decide (c < 0x110000)) = true) : okL l := fun c hc => by simpa using List.all_eq_true.mp h c hc
theorem okL_app {a b : List Nat} (h : okL a) (k : okL b) : okL (a ++ b) := fun c hc => (List.mem_append.mp hc).elim (h c) (k c)
theorem ok_chr (x : Int) : okL (⟨#[(160 + x.fmod 55000).toNat]⟩ : Str).cps.toList := by
  intro c hc
  have e : c = (160 + x.fmod 55000).toNat := by simpa using hc
  have h1 := Int.fmod_eq_emod_of_nonneg x (b := 55000) (by decide)
  have h2 := Int.emod_nonneg x (b := 55000) (by decide)
  have h3 := Int.emod_lt_of_pos x (b := 55000) (by decide)
  omega
noncomputable def ShortsB (vs : List Value) : Prop := ∀ v ∈ vs, ∃ y t, v = .str y t ∧ y.cps.size ≤ 1 ∧ okL y.cps.toList
theorem ShortsB.nil : ShortsB [] := fun _ h => nomatch h
theorem ShortsB.cons {y : Str} {t : Tok} {vs : List Value} (h1 : y.cps.size ≤ 1) (h0 : okL y.cps.toList) (h2 : ShortsB vs) : ShortsB (.str y t :: vs) := fun v hv => by
  cases hv with
  | head => exact ⟨y, t, rfl, h1, h0⟩
  | tail _ h => exact h2 v h
section
variable {prog : Program} {w : World} {A : Around} {E : Value → Shared → Prop} {s : Shared} {h₀ : Heap} {L l : Addr} {m : Str → Option Value} {news : List (Addr × Obj)}
theorem item_shortB {value slice : PySem.Expr} {its : Array Value} {n : Nat} {k : Int} {u : Tok} {Q : Value → Shared → Prop}
    (N : News h₀ L s.heap news) (hm : (l, listOf its n) ∈ news) (hs : ShortsB its.toList) (h0 : 0 ≤ k ∧ k < 10) (hz : its.toList.length = 10) (h : ∀ y t, y.cps.size ≤ 1 → okL y.cps.toList → Q (.str y t) s)
    (hso : subscripted slice false (.ref l) (.int k u) = operate [.ref l, .int k u] (getItem (.ref l) (.int k u)) := by with_unfolding_all rfl) :
    wpAny (model prog w) A (subscriptTail value slice (.ref l) (.int k u)) Q E s := by
  have z := N _ hm
  have hl : s.heap.IsList l its.toList.toArray := ⟨_, z.1, rfl, n, rfl⟩
  have hk : k.toNat < its.toList.length := by omega
  obtain ⟨y, t, e, hy, ho⟩ := hs _ (List.getElem_mem hk)
  refine tail_any hl.typeIs slot_list_getitem.lookup (wpAny_getItem_list hl h0.1 (by omega) ?_ (h y t hy ho)) hso
  simp only [List.getElem?_toArray]
  rw [List.getElem?_eq_getElem hk, e]
theorem add_ok {x y : Str} {t u : Tok} {Q : Value → Shared → Prop} (hx : x.cps.size ≤ 1000000) (hy : y.cps.size ≤ 1000000) (ox : okL x.cps.toList) (oy : okL y.cps.toList)
    (h : ∀ t' k (z : Str), okL z.cps.toList → z.cps.size = x.cps.size + y.cps.size → Q (.str z t') { s with toks := k }) :
    wpAny (model prog w) A (binaryOp .Add (.str x t) (.str y u)) Q E s :=
  add_sz hx hy fun t' k z h1 h2 => h t' k z (by rw [h1]; exact okL_app ox oy) h2
end
local macro_rules | `(tactic| walk_at "subscriptTail Name BinOp ref int") => `(tactic| (k_here; k_dflt (refine' item_shortB ?N ?hm ?hs ?h0 ?hz ?_ ?hso; (case N => k_asm); (case hm => k_mem); (case hs => (repeat' (first | exact ShortsB.nil | refine ShortsB.cons ?_ ?_ ?_)) <;> first | exact ok_chr _ | exact okL_of (by decide +kernel) | decide +kernel | rfl | exact Nat.le_refl _); (case h0 => exact fm10 _); (case hz => rfl); (case hso => with_unfolding_all rfl); intro y t hy ho)))
local macro_rules | `(tactic| walk_at "binaryOp Add str str") => `(tactic| (k_here; k_dflt (refine' add_ok ?hx ?hy ?ox ?oy ?_; (case hx => omega); (case hy => omega); (case ox => assumption); (case oy => assumption); intro t' k' z hz hs)))
theorem c_wordB (w : World) (mean : ExcName → Option Value) (mg mb : Str → Option Value) (x : Int) (tx : Tok) (news : List (Addr × Obj)) :
    Gives w mean mg mb 128 [.int x tx] news 4 32 (fun r own => own = [] ∧ ∃ z t, r = .str z t ∧ z.cps.size ≤ 3 ∧ okL z.cps.toList) := by
  w_top off; unfold Gives; k_fill
  intro dp un gd cn cs a ccd cl outer A₀ base h₀ L m s Q E B F X N T hk hd hu hret
  refine wpAny_call ?_
  k_dflt ktr_enter
  k_steps
  refine' hret _ _ _ [] ?e1 ?e2 (fun _ _ _ h => nomatch h) ⟨rfl, _, _, rfl, ?e3, ?e4⟩
  case e1 => k_asm
  case e2 => exact cb_drop (by assumption) (fun p hp => .tail _ hp)
  case e3 => omega
  case e4 => assumption

end
section
set_option Elab.async false
set_option maxRecDepth 100000
set_option linter.unusedSimpArgs false
set_option linter.unusedVariables false
/-- every line end a feed -/
noncomputable def nl (l : List Nat) : List Nat := repl 13 [10] (crnl l)
theorem nl_nil : nl [] = [] := rfl
theorem nl_crnl (r : List Nat) : nl (13 :: 10 :: r) = 10 :: nl r := by
  unfold nl; simp [crnl, repl]
theorem nl_cr {r : List Nat} (h : r.head? ≠ some 10) : nl (13 :: r) = 10 :: nl r := by
  unfold nl; simp [crnl, repl, h]
theorem nl_cons {c : Nat} (r : List Nat) (h : c ≠ 13) : nl (c :: r) = c :: nl r := by
  unfold nl; simp [crnl, repl, h]
theorem no13 : ∀ l : List Nat, 13 ∉ l → nl l = l
  | [], _ => rfl
  | c :: r, h => by
    rw [nl_cons r (fun e => h (e ▸ List.mem_cons_self ..)), no13 r (fun q => h (.tail _ q))]
/-- the three ways a text can begin -/
theorem nl_ind {P : List Nat → Prop} (h0 : P []) (h1 : ∀ r, P r → P (13 :: 10 :: r)) (h2 : ∀ r, r.head? ≠ some 10 → P r → P (13 :: r)) (h3 : ∀ c r, c ≠ 13 → P r → P (c :: r)) : ∀ l, P l := by
  intro l
  suffices H : ∀ n, ∀ l : List Nat, l.length ≤ n → P l from H l.length l (Nat.le_refl _)
  intro n
  induction n with
  | zero => intro l hl; cases l with
    | nil => exact h0
    | cons _ _ => simp at hl
  | succ n ih =>
    intro l hl
    cases l with
    | nil => exact h0
    | cons c r =>
      simp at hl
      by_cases hc : c = 13
      · subst hc
        by_cases hr : r.head? = some 10
        · cases r with
          | nil => simp at hr
          | cons d q =>
            simp at hr
            subst hr
            simp at hl
            exact h1 q (ih q (by omega))
        · exact h2 r hr (ih r (by omega))
      · exact h3 c r hc (ih r (by omega))
theorem nl_app {b : List Nat} (hb : b.head? ≠ some 10) : ∀ a : List Nat, nl (a ++ b) = nl a ++ nl b := by
  refine nl_ind rfl ?_ ?_ ?_
  · intro r ih
    show nl (13 :: 10 :: (r ++ b)) = _
    rw [nl_crnl, nl_crnl, ih]; rfl
  · intro r hr ih
    show nl (13 :: (r ++ b)) = _
    have h : (r ++ b).head? ≠ some 10 := by
      cases r with
      | nil => exact hb
      | cons c q => simpa using hr
    rw [nl_cr h, nl_cr hr, ih]; rfl
  · intro c r hc ih
    show nl (c :: (r ++ b)) = _
    rw [nl_cons _ hc, nl_cons _ hc, ih]; rfl
theorem nl_no13 : ∀ l : List Nat, 13 ∉ nl l := by
  refine nl_ind ?_ ?_ ?_ ?_
  · simp [nl, crnl, repl]
  · intro r ih; rw [nl_crnl]; simp [ih]
  · intro r hr ih; rw [nl_cr hr]; simp [ih]
  · intro c r hc ih; rw [nl_cons _ hc]; simp [ih]; omega
theorem nl_len : ∀ l : List Nat, (nl l).length ≤ l.length := by
  refine nl_ind (by simp [nl, crnl, repl]) ?_ ?_ ?_
  · intro r ih; rw [nl_crnl]; simp only [List.length_cons]; omega
  · intro r hr ih; rw [nl_cr hr]; simp only [List.length_cons]; omega
  · intro c r hc ih; rw [nl_cons _ hc]; simp only [List.length_cons]; omega
/-- cut at the feeds -/
noncomputable def cutNL : List Nat → List (List Nat)
  | [] => [[]]
  | c :: r => if c = 10 then [] :: cutNL r else (c :: (cutNL r).headD []) :: (cutNL r).tail
theorem cut_ne : ∀ l, cutNL l ≠ []
  | [] => by simp [cutNL]
  | c :: r => by unfold cutNL; split <;> simp
theorem cut_eq (l : List Nat) : ∃ a t, cutNL l = a :: t := by
  cases h : cutNL l with
  | nil => exact absurd h (cut_ne l)
  | cons a t => exact ⟨a, t, rfl⟩
theorem cut_feed (r : List Nat) : cutNL (10 :: r) = [] :: cutNL r := by simp [cutNL]
theorem cut_cons {c : Nat} {r a : List Nat} {t : List (List Nat)} (hc : c ≠ 10) (h : cutNL r = a :: t) : cutNL (c :: r) = (c :: a) :: t := by
  simp [cutNL, hc, h]
theorem joinNL_cut : ∀ l : List Nat, joinNL (cutNL l) = l
  | [] => rfl
  | c :: r => by
    obtain ⟨a, t, h⟩ := cut_eq r
    have ih := joinNL_cut r
    by_cases hc : c = 10
    · subst hc
      rw [cut_feed, h]
      rw [h] at ih
      show [] ++ 10 :: joinNL (a :: t) = _
      rw [ih]; rfl
    · rw [cut_cons hc h]
      rw [h] at ih
      cases t with
      | nil => show c :: a = c :: r; rw [← ih]; rfl
      | cons q t => show c :: a ++ 10 :: joinNL (q :: t) = c :: r; rw [← ih]; rfl
theorem cut_rowed : ∀ l : List Nat, 13 ∉ l → ∀ r ∈ cutNL l, Rowed r
  | [], _, r, hr => by simp [cutNL] at hr; subst hr; intro k hk; simp at hk
  | c :: l, h, r, hr => by
    have ih := cut_rowed l (fun q => h (.tail _ q))
    obtain ⟨a, t, e⟩ := cut_eq l
    have h13 : c ≠ 13 := fun q => h (q ▸ List.mem_cons_self ..)
    by_cases hc : c = 10
    · subst hc
      rw [cut_feed] at hr
      rcases List.mem_cons.mp hr with rfl | hr
      · intro k hk; simp at hk
      · exact ih r hr
    · rw [cut_cons hc e] at hr
      rw [e] at ih
      rcases List.mem_cons.mp hr with rfl | hr
      · intro k hk
        rcases List.mem_cons.mp hk with rfl | hk
        · exact ⟨hc, h13⟩
        · exact ih a (.head _) k hk
      · exact ih r (.tail _ hr)
theorem joinCR_nil {a : List Nat} {t : List (List Nat)} : joinCR ([] :: a :: t) = 13 :: 10 :: joinCR (a :: t) := rfl
theorem joinCR_cons {c : Nat} {a : List Nat} {t : List (List Nat)} : joinCR ((c :: a) :: t) = c :: joinCR (a :: t) := by
  cases t <;> rfl
theorem crlf_cut : ∀ l : List Nat, crlfA false l = joinCR (cutNL (nl l)) := by
  refine nl_ind rfl ?_ ?_ ?_
  · intro r ih
    obtain ⟨a, t, e⟩ := cut_eq (nl r)
    rw [nl_crnl, cut_feed, e, joinCR_nil, ← e, ← ih]
    simp [crlfA]
  · intro r hr ih
    obtain ⟨a, t, e⟩ := cut_eq (nl r)
    rw [nl_cr hr, cut_feed, e, joinCR_nil, ← e, ← ih, ← crlfA_true r hr]
    simp [crlfA]
  · intro c r hc ih
    obtain ⟨a, t, e⟩ := cut_eq (nl r)
    rw [nl_cons _ hc]
    by_cases h10 : c = 10
    · subst h10
      rw [cut_feed, e, joinCR_nil, ← e, ← ih]
      simp [crlfA]
    · rw [cut_cons h10 e, joinCR_cons, ← e, ← ih]
      simp [crlfA, hc, h10]
theorem crlf_rows : ∀ ls : List (List Nat), (∀ r ∈ ls, Rowed r) → crlfA false (joinCR ls) = joinCR ls
  | [], _ => rfl
  | [r], h => by
    have := crlfA_free r (h r (.head _)) []
    simpa [crlfA, joinCR] using this
  | r :: q :: t, h => by
    show crlfA false (r ++ 13 :: 10 :: joinCR (q :: t)) = _
    rw [crlfA_free r (h r (.head _))]
    show r ++ crlfA false (13 :: 10 :: joinCR (q :: t)) = r ++ 13 :: 10 :: joinCR (q :: t)
    have := crlf_rows (q :: t) fun x hx => h x (.tail _ hx)
    simp [crlfA, this]
theorem dots_row : ∀ (r : List Nat), Rowed r → ∀ t, dotsA false (r ++ t) = r ++ dotsA false t
  | [], _, t => rfl
  | k :: r, h, t => by
    have h1 := (h k (.head _)).1
    have ih := dots_row r (fun j hj => h j (.tail _ hj)) t
    show dotsA false (k :: (r ++ t)) = k :: (r ++ dotsA false t)
    simp [dotsA, h1, ih]
theorem dots_head (r : List Nat) (h : Rowed r) (t : List Nat) (ht : t = [] ∨ ∃ q, t = 13 :: q) : dotsA true (r ++ t) = dotN 1 r ++ dotsA false t := by
  cases r with
  | nil =>
    rcases ht with rfl | ⟨q, rfl⟩
    · rfl
    · simp [dotsA, dotN]
  | cons k r =>
    have h1 := (h k (.head _)).1
    have ih := dots_row r (fun j hj => h j (.tail _ hj)) t
    by_cases hk : k = 46
    · subst hk
      simp [dotsA, dotN, ih]
    · simp [dotsA, dotN, hk, h1, ih]
theorem dots_rows : ∀ ls : List (List Nat), (∀ r ∈ ls, Rowed r) → dotsA true (joinCR ls) = joinCR (ls.map (dotN 1))
  | [], _ => rfl
  | [r], h => by
    have := dots_head r (h r (.head _)) [] (.inl rfl)
    simpa [dotsA, joinCR] using this
  | r :: q :: t, h => by
    show dotsA true (r ++ 13 :: 10 :: joinCR (q :: t)) = dotN 1 r ++ 13 :: 10 :: joinCR ((q :: t).map (dotN 1))
    rw [dots_head r (h r (.head _)) _ (.inr ⟨_, rfl⟩), ← dots_rows (q :: t) fun x hx => h x (.tail _ hx)]
    simp [dotsA]
theorem quote_rows (ls : List (List Nat)) (h : ∀ r ∈ ls, Rowed r) : quote (joinCR ls) = joinCR (ls.map (dotN 1)) := by
  unfold quote
  rw [crlf_rows ls h, dots_rows ls h]
theorem dotN_one (n : Nat) (r : List Nat) : dotN 1 (dotN n r) = dotN (n + 1) r := by
  by_cases h : r.head? = some 46
  · have h2 : (List.replicate n 46 ++ r).head? = some 46 := by
      cases n with
      | zero => simpa using h
      | succ n => simp [List.replicate_succ]
    unfold dotN
    rw [if_pos h, if_pos h2, if_pos h, List.replicate_succ (n := n)]; rfl
  · rw [dotN_miss h, dotN_miss h, dotN_miss h]
/-- a text that was sent n times -/
noncomputable def sent : Nat → List Nat → List Nat
  | 0, l => l
  | n + 1, l => quote (sent n l)
theorem sent_rows (l : List Nat) : ∀ n, sent (n + 1) l = joinCR ((cutNL (nl l)).map (dotN (n + 1)))
  | 0 => by
    show quote l = _
    unfold quote
    rw [crlf_cut, dots_rows _ (cut_rowed _ (nl_no13 l))]
  | n + 1 => by
    show quote (sent (n + 1) l) = _
    rw [sent_rows l n, quote_rows]
    · rw [List.map_map]
      congr 1
      exact List.map_congr_left fun r _ => dotN_one (n + 1) r
    · intro r hr
      obtain ⟨q, hq, rfl⟩ := List.mem_map.mp hr
      exact rowed_dotN (cut_rowed _ (nl_no13 l) q hq)
theorem quote_len (l : List Nat) : (quote l).length ≤ 4 * l.length := by
  unfold quote
  have h1 : ∀ (b : Bool) (l : List Nat), (crlfA b l).length ≤ 2 * l.length := by
    intro b l
    induction l generalizing b with
    | nil => simp [crlfA]
    | cons k r ih =>
      have h1 := ih true
      have h2 := ih false
      unfold crlfA
      (repeat' split) <;> simp only [List.length_cons] <;> omega
  have h2 : ∀ (b : Bool) (l : List Nat), (dotsA b l).length ≤ 2 * l.length := by
    intro b l
    induction l generalizing b with
    | nil => simp [dotsA]
    | cons k r ih =>
      have h1 := ih (decide (k = 10))
      have h2 := ih false
      unfold dotsA
      split <;> simp only [List.length_cons] <;> omega
  have := h1 false l
  have := h2 true (crlfA false l)
  omega
theorem sent_len (l : List Nat) : ∀ n, (sent n l).length ≤ 4 ^ n * l.length
  | 0 => by simp [sent]
  | n + 1 => by
    have h1 := sent_len l n
    have h2 := quote_len (sent n l)
    show (quote (sent n l)).length ≤ _
    rw [Nat.pow_succ, Nat.mul_comm (4 ^ n) 4, Nat.mul_assoc]
    omega
end
section
set_option Elab.async false
set_option maxRecDepth 100000
set_option linter.unusedSimpArgs false
set_option linter.unusedVariables false
noncomputable def amp : List Nat := [38, 97, 109, 112, 59]
noncomputable def lts : List Nat := [38, 108, 116, 59]
noncomputable def gts : List Nat := [38, 103, 116, 59]
noncomputable def quo : List Nat := [38, 113, 117, 111, 116, 59]
noncomputable def xD : List Nat := [38, 35, 120, 68, 59]
noncomputable def x9 : List Nat := [38, 35, 120, 57, 59]
noncomputable def xA : List Nat := [38, 35, 120, 65, 59]
noncomputable def d09 : List Nat := [38, 35, 48, 57, 59]
noncomputable def d10 : List Nat := [38, 35, 49, 48, 59]
noncomputable def d13 : List Nat := [38, 35, 49, 51, 59]
theorem s_amp : (Str.ofString "&amp;").cps.toList = amp := by decide +kernel
theorem s_lt : (Str.ofString "&lt;").cps.toList = lts := by decide +kernel
theorem s_gt : (Str.ofString "&gt;").cps.toList = gts := by decide +kernel
theorem s_quo : (Str.ofString "&quot;").cps.toList = quo := by decide +kernel
theorem s_xD : (Str.ofString "&#xD;").cps.toList = xD := by decide +kernel
theorem s_x9 : (Str.ofString "&#x9;").cps.toList = x9 := by decide +kernel
theorem s_xA : (Str.ofString "&#xA;").cps.toList = xA := by decide +kernel
theorem s_d09 : (Str.ofString "&#09;").cps.toList = d09 := by decide +kernel
theorem s_d10 : (Str.ofString "&#10;").cps.toList = d10 := by decide +kernel
theorem s_d13 : (Str.ofString "&#13;").cps.toList = d13 := by decide +kernel
theorem s_nl : (Str.ofString "\n").cps.toList = [10] := by decide +kernel
/-- the tables: texts of ways 0 and 1/2, values of the ways 0, 1, 2 -/
noncomputable def T0 : List (List Nat × Nat) := [(amp, 38), (lts, 60), (gts, 62), (xD, 13)]
noncomputable def T1 : List (List Nat × Nat) := [(amp, 38), (lts, 60), (gts, 62)]
noncomputable def V0 : List (List Nat × Nat) := [(amp, 38), (quo, 34), (lts, 60), (x9, 9), (xA, 10), (xD, 13)]
noncomputable def V1 : List (List Nat × Nat) := [(amp, 38), (quo, 34), (lts, 60), (gts, 62), (d09, 9), (d10, 10), (d13, 13)]
noncomputable def V2 : List (List Nat × Nat) := [(amp, 38), (quo, 34), (gts, 62)]
noncomputable def keyOk (k : List Nat) : Bool := k.head? == some 38 && (k.tail.getLast? == some 59) && !(k.tail.dropLast.contains 59)
theorem keyOk_iff {k : List Nat} (h : keyOk k = true) : ∃ body, k = 38 :: (body ++ [59]) ∧ 59 ∉ body := by
  unfold keyOk at h
  simp only [Bool.and_eq_true, beq_iff_eq, Bool.not_eq_true', List.contains_eq_mem, decide_eq_false_iff_not] at h
  obtain ⟨⟨h1, h2⟩, h3⟩ := h
  cases k with
  | nil => simp at h1
  | cons c r =>
    simp at h1 h2 h3
    subst h1
    refine ⟨r.dropLast, ?_, h3⟩
    rcases List.eq_nil_or_concat r with e | ⟨q, y, e⟩
    · subst e; simp at h2
    · subst e; simp at h2; subst h2; simp
theorem good_of {D : List (List Nat × Nat)} {stop : Nat} (h1 : D.all (fun p => keyOk p.1) = true) (h2 : D.all (fun p => ((D.find? fun q => q.1 = p.1).map (·.2)) == some p.2) = true) (h3 : (D.map (·.2)).contains 38 = true) (h4 : stop ≠ 38) (h5 : (D.map (·.2)).contains stop = true) : GoodD D stop where
  keys p hp := keyOk_iff (List.all_eq_true.mp h1 p hp)
  back p hp := by simpa using List.all_eq_true.mp h2 p hp
  amp := by simpa using h3
  other := h4
  stops := by simpa using h5
theorem gT0 : GoodD T0 60 := good_of (by decide +kernel) (by decide +kernel) (by decide +kernel) (by decide) (by decide +kernel)
theorem gT1 : GoodD T1 60 := good_of (by decide +kernel) (by decide +kernel) (by decide +kernel) (by decide) (by decide +kernel)
theorem gV0 : GoodD V0 34 := good_of (by decide +kernel) (by decide +kernel) (by decide +kernel) (by decide) (by decide +kernel)
theorem gV1 : GoodD V1 34 := good_of (by decide +kernel) (by decide +kernel) (by decide +kernel) (by decide) (by decide +kernel)
theorem gV2 : GoodD V2 34 := good_of (by decide +kernel) (by decide +kernel) (by decide +kernel) (by decide) (by decide +kernel)
/-! the escapes are the spellings -/
theorem spell_of (f : List Nat → List Nat) (D : List (List Nat × Nat)) (h0 : f [] = []) (h1 : ∀ a b, f (a ++ b) = f a ++ f b) (h2 : ∀ c, f [c] = spell1 D c) : ∀ l, f l = spell D l
  | [] => h0
  | c :: r => by
    have e : c :: r = [c] ++ r := rfl
    rw [spell_cons, ← spell_of f D h0 h1 h2 r, ← h2 c, ← h1]; rfl
theorem repl_nil (c : Nat) (w : List Nat) : repl c w [] = [] := rfl
theorem repl_hit (c : Nat) (w r : List Nat) : repl c w (c :: r) = w ++ repl c w r := by simp [repl]
theorem repl_miss {c k : Nat} (w r : List Nat) (h : k ≠ c) : repl c w (k :: r) = k :: repl c w r := by simp [repl, h]
theorem e_cdata (l : List Nat) : repl 62 gts (repl 60 lts (repl 38 amp l)) = spell T1 l := by
  refine spell_of (fun l => repl 62 gts (repl 60 lts (repl 38 amp l))) T1 rfl (fun a b => by simp only [repl_append]) (fun c => ?_) l
  by_cases h1 : c = 38
  · subst h1; decide +kernel
  by_cases h2 : c = 60
  · subst h2; decide +kernel
  by_cases h3 : c = 62
  · subst h3; decide +kernel
  rw [repl_miss _ _ h1, repl_nil, repl_miss _ _ h2, repl_nil, repl_miss _ _ h3, repl_nil]
  simp [spell1, T1, Ne.symm h1, Ne.symm h2, Ne.symm h3]
theorem e_cdataC (l : List Nat) : repl 13 xD (repl 62 gts (repl 60 lts (repl 38 amp l))) = spell T0 l := by
  refine spell_of (fun l => repl 13 xD (repl 62 gts (repl 60 lts (repl 38 amp l)))) T0 rfl (fun a b => by simp only [repl_append]) (fun c => ?_) l
  by_cases h1 : c = 38
  · subst h1; decide +kernel
  by_cases h2 : c = 60
  · subst h2; decide +kernel
  by_cases h3 : c = 62
  · subst h3; decide +kernel
  by_cases h4 : c = 13
  · subst h4; decide +kernel
  rw [repl_miss _ _ h1, repl_nil, repl_miss _ _ h2, repl_nil, repl_miss _ _ h3, repl_nil, repl_miss _ _ h4, repl_nil]
  simp [spell1, T0, Ne.symm h1, Ne.symm h2, Ne.symm h3, Ne.symm h4]
theorem e_attrib (l : List Nat) : repl 9 d09 (repl 10 d10 (repl 13 d13 (repl 34 quo (repl 62 gts (repl 60 lts (repl 38 amp l)))))) = spell V1 l := by
  refine spell_of (fun l => repl 9 d09 (repl 10 d10 (repl 13 d13 (repl 34 quo (repl 62 gts (repl 60 lts (repl 38 amp l))))))) V1 rfl (fun a b => by simp only [repl_append]) (fun c => ?_) l
  by_cases h1 : c = 38
  · subst h1; decide +kernel
  by_cases h2 : c = 60
  · subst h2; decide +kernel
  by_cases h3 : c = 62
  · subst h3; decide +kernel
  by_cases h4 : c = 34
  · subst h4; decide +kernel
  by_cases h5 : c = 13
  · subst h5; decide +kernel
  by_cases h6 : c = 10
  · subst h6; decide +kernel
  by_cases h7 : c = 9
  · subst h7; decide +kernel
  rw [repl_miss _ _ h1, repl_nil, repl_miss _ _ h2, repl_nil, repl_miss _ _ h3, repl_nil, repl_miss _ _ h4, repl_nil, repl_miss _ _ h5, repl_nil, repl_miss _ _ h6, repl_nil, repl_miss _ _ h7, repl_nil]
  simp [spell1, V1, Ne.symm h1, Ne.symm h2, Ne.symm h3, Ne.symm h4, Ne.symm h5, Ne.symm h6, Ne.symm h7]
theorem e_attribC (l : List Nat) : repl 13 xD (repl 10 xA (repl 9 x9 (repl 34 quo (repl 60 lts (repl 38 amp l))))) = spell V0 l := by
  refine spell_of (fun l => repl 13 xD (repl 10 xA (repl 9 x9 (repl 34 quo (repl 60 lts (repl 38 amp l)))))) V0 rfl (fun a b => by simp only [repl_append]) (fun c => ?_) l
  by_cases h1 : c = 38
  · subst h1; decide +kernel
  by_cases h2 : c = 60
  · subst h2; decide +kernel
  by_cases h4 : c = 34
  · subst h4; decide +kernel
  by_cases h5 : c = 9
  · subst h5; decide +kernel
  by_cases h6 : c = 10
  · subst h6; decide +kernel
  by_cases h7 : c = 13
  · subst h7; decide +kernel
  rw [repl_miss _ _ h1, repl_nil, repl_miss _ _ h2, repl_nil, repl_miss _ _ h4, repl_nil, repl_miss _ _ h5, repl_nil, repl_miss _ _ h6, repl_nil, repl_miss _ _ h7, repl_nil]
  simp [spell1, V0, Ne.symm h1, Ne.symm h2, Ne.symm h4, Ne.symm h5, Ne.symm h6, Ne.symm h7]
theorem e_html (l : List Nat) : repl 34 quo (repl 62 gts (repl 38 amp l)) = spell V2 l := by
  refine spell_of (fun l => repl 34 quo (repl 62 gts (repl 38 amp l))) V2 rfl (fun a b => by simp only [repl_append]) (fun c => ?_) l
  by_cases h1 : c = 38
  · subst h1; decide +kernel
  by_cases h2 : c = 62
  · subst h2; decide +kernel
  by_cases h3 : c = 34
  · subst h3; decide +kernel
  rw [repl_miss _ _ h1, repl_nil, repl_miss _ _ h2, repl_nil, repl_miss _ _ h3, repl_nil]
  simp [spell1, V2, Ne.symm h1, Ne.symm h2, Ne.symm h3]
/-! line ends of a spelling -/
theorem spell1_or (D : List (List Nat × Nat)) (c : Nat) : spell1 D c = [c] ∧ c ∉ D.map (·.2) ∨ ∃ p ∈ D, p.2 = c ∧ spell1 D c = p.1 := by
  unfold spell1
  cases h : D.find? fun p => p.2 = c with
  | some p => exact .inr ⟨p, List.mem_of_find?_eq_some h, by simpa using List.find?_some h, rfl⟩
  | none =>
    refine .inl ⟨rfl, fun q => ?_⟩
    obtain ⟨p, hp, e⟩ := List.mem_map.mp q
    have := List.find?_eq_none.mp h p hp
    simp at this
    exact this e
theorem spell_len {D : List (List Nat × Nat)} (h : D.all (fun p => p.1.length ≤ 6) = true) : ∀ l, (spell D l).length ≤ 6 * l.length
  | [] => by simp [spell_nil]
  | c :: r => by
    have ih := spell_len h r
    rw [spell_cons, List.length_append, List.length_cons]
    have : (spell1 D c).length ≤ 6 := by
      rcases spell1_or D c with ⟨e, _⟩ | ⟨p, hp, _, e⟩
      · rw [e]; simp
      · rw [e]; simpa using List.all_eq_true.mp h p hp
    omega
/-- a table that spells the return too -/
theorem nl_all {D : List (List Nat × Nat)} (h : D.all (fun p => !(p.1.contains 13)) = true) (h13 : (D.map (·.2)).contains 13 = true) (l : List Nat) : nl (spell D l) = spell D l := by
  refine no13 _ fun q => ?_
  obtain ⟨c, _, hc⟩ := List.mem_flatMap.mp q
  rcases spell1_or D c with ⟨e, hn⟩ | ⟨p, hp, _, e⟩
  · rw [e] at hc
    simp at hc
    subst hc
    exact hn (by simpa using h13)
  · rw [e] at hc
    have := List.all_eq_true.mp h p hp
    simp at this
    exact this hc
/-- a table that leaves return and feed -/
theorem nl_bare {D : List (List Nat × Nat)} (h : D.all (fun p => !(p.1.contains 13) && p.1.head? == some 38) = true) (h13 : (D.map (·.2)).contains 13 = false) (h10 : (D.map (·.2)).contains 10 = false) : ∀ l : List Nat, nl (spell D l) = spell D (nl l) := by
  have s13 : spell1 D 13 = [13] := by
    rcases spell1_or D 13 with ⟨e, hn⟩ | ⟨p, hp, e2, e⟩
    · exact e
    · have : 13 ∈ D.map (·.2) := List.mem_map.mpr ⟨p, hp, e2⟩
      simp at h13
      exact absurd this (by simpa using h13)
  have s10 : spell1 D 10 = [10] := by
    rcases spell1_or D 10 with ⟨e, hn⟩ | ⟨p, hp, e2, e⟩
    · exact e
    · have : 10 ∈ D.map (·.2) := List.mem_map.mpr ⟨p, hp, e2⟩
      simp at h10
      exact absurd this (by simpa using h10)
  have hh : ∀ c, c ≠ 10 → ∀ r, (spell1 D c ++ r).head? ≠ some 10 := by
    intro c hc r
    rcases spell1_or D c with ⟨e, hn⟩ | ⟨p, hp, e2, e⟩
    · rw [e]; simpa using hc
    · rw [e]
      have := List.all_eq_true.mp h p hp
      simp only [Bool.and_eq_true, beq_iff_eq] at this
      cases hk : p.1 with
      | nil => rw [hk] at this; simp at this
      | cons a b => rw [hk] at this; simp at this; simp [this.2]
  have hf : ∀ c, c ≠ 13 → ∀ r, nl (spell1 D c ++ r) = spell1 D c ++ nl r := by
    intro c hc r
    rcases spell1_or D c with ⟨e, hn⟩ | ⟨p, hp, e2, e⟩
    · rw [e]; exact nl_cons r hc
    · rw [e]
      have := List.all_eq_true.mp h p hp
      simp at this
      have h13' := this.1
      generalize p.1 = k at h13'
      clear this e e2 hp
      induction k with
      | nil => rfl
      | cons a b ih => 
        show nl (a :: (b ++ r)) = a :: (b ++ nl r)
        rw [nl_cons _ (fun q => h13' (q ▸ List.mem_cons_self ..)), ih (fun q => h13' (.tail _ q))]
  refine nl_ind rfl ?_ ?_ ?_
  · intro r ih
    rw [nl_crnl, spell_cons, spell_cons, spell_cons, s13, s10, ← ih]
    exact nl_crnl _
  · intro r hr ih
    rw [nl_cr hr, spell_cons, spell_cons, s13, s10, ← ih]
    refine nl_cr ?_
    cases r with
    | nil => simp [spell_nil]
    | cons c q => rw [spell_cons]; exact hh c (by simpa using hr) _
  · intro c r hc ih
    rw [nl_cons r hc, spell_cons, spell_cons, ← ih, hf c hc]
theorem nlT0 (l : List Nat) : nl (spell T0 l) = spell T0 l := nl_all (by decide +kernel) (by decide +kernel) l
theorem nlV0 (l : List Nat) : nl (spell V0 l) = spell V0 l := nl_all (by decide +kernel) (by decide +kernel) l
theorem nlV1 (l : List Nat) : nl (spell V1 l) = spell V1 l := nl_all (by decide +kernel) (by decide +kernel) l
theorem nlT1 (l : List Nat) : nl (spell T1 l) = spell T1 (nl l) := nl_bare (by decide +kernel) (by decide +kernel) (by decide +kernel) l
theorem nlV2 (l : List Nat) : nl (spell V2 l) = spell V2 (nl l) := nl_bare (by decide +kernel) (by decide +kernel) (by decide +kernel) l
/-! what a derivation gives -/
noncomputable def Ws : List Int → Prop
  | [] => True
  | x :: r => (x = 255 → ∃ c, r = 20 :: c) ∧ Ws r
theorem Der.ws {k : Nat} {q t : List Int} (h : Der k q t) : Wg q → Ws t := by
  induction h with
  | nil => intro _; trivial
  | @term k x r t hx h ih =>
    intro hw
    refine ⟨fun e => ?_, ih hw.2⟩
    obtain ⟨c, rfl⟩ := hw.1 e
    exact h.less
  | tag h ih => intro hw; exact ih hw.2.tag
  | stop h ih => intro hw; exact ih hw.2
  | more h ih => intro hw; exact ih hw.grow
theorem Der.all {k : Nat} {q t : List Int} (h : Der k q t) : ∀ x ∈ t, x ∈ terms := by
  induction h with
  | nil => intro x hx; nomatch hx
  | @term k x r t hx h ih =>
    intro y hy
    rcases List.mem_cons.mp hy with rfl | hy
    · exact hx
    · exact ih y hy
  | tag h ih => exact ih
  | stop h ih => exact ih
  | more h ih => exact ih
noncomputable def isW (x : Int) : Bool := x == 253 || x == 255
noncomputable def wc (x : Int) : Nat := if x = 256 then 2 else if isW x then 1 else 0
theorem Der.words {k : Nat} {q t : List Int} (h : Der k q t) : t.countP isW ≤ (q.map wc).sum + 3 * k := by
  induction h with
  | nil => simp
  | @term k x r t hx h ih =>
    have := (terms_lt hx).2
    rw [List.countP_cons, List.map_cons, List.sum_cons]
    have e : wc x = if isW x then 1 else 0 := by unfold wc; rw [if_neg (by omega)]
    rw [e]
    split <;> omega
  | @tag k r t h ih =>
    rw [List.map_append, List.sum_append] at ih
    have e : (r256.map wc).sum = 2 := by decide +kernel
    rw [List.map_cons, List.sum_cons]
    have e2 : wc 256 = 2 := by decide +kernel
    omega
  | @stop k r t h ih =>
    rw [List.map_cons, List.sum_cons]
    have e2 : wc 257 = 0 := by decide +kernel
    omega
  | @more k r t h ih =>
    simp only [List.map_cons, List.sum_cons] at ih ⊢
    have e1 : wc 256 = 2 := by decide +kernel
    have e2 : wc 257 = 0 := by decide +kernel
    have e3 : wc 255 = 1 := by decide +kernel
    omega
theorem words8 {t : List Int} (h : Der 2 [256] t) : t.countP isW ≤ 8 := h.words
theorem ws256 {t : List Int} (h : Der 2 [256] t) : Ws t := h.ws ⟨fun e => by omega, trivial⟩
/-! the pieces as they were drawn (raw) and as they come back -/
noncomputable def fixI (ft fv : List Nat → List Nat) : Item → Item
  | .sym x => .sym x
  | .txt d => .txt (ft d)
  | .val d => .val (fv d)
theorem code_fix (ft fv : List Nat → List Nat) (i : Item) : code (fixI ft fv i) = code i := by cases i <;> rfl
theorem sy_free (x : Int) : 13 ∉ sy x := by
  unfold sy
  (repeat' split) <;> decide
theorem nl_skip : ∀ a : List Nat, 13 ∉ a → ∀ b, nl (a ++ b) = a ++ nl b
  | [], _, b => rfl
  | c :: r, h, b => by
    show nl (c :: (r ++ b)) = c :: (r ++ nl b)
    rw [nl_cons _ (fun q => h (q ▸ List.mem_cons_self ..)), nl_skip r (fun q => h (.tail _ q)) b]
theorem nl_items {Dt Dv : List (List Nat × Nat)} {ft fv : List Nat → List Nat} (ht : ∀ d, nl (spell Dt d) = spell Dt (ft d)) (hv : ∀ d, nl (spell Dv d) = spell Dv (fv d)) :
    ∀ raws : List Item, Ws (raws.map code) → nl (raws.flatMap (rend Dt Dv)) = (raws.map (fixI ft fv)).flatMap (rend Dt Dv)
  | [], _ => rfl
  | i :: r, hw => by
    have ih := nl_items ht hv r hw.2
    show nl (rend Dt Dv i ++ r.flatMap (rend Dt Dv)) = rend Dt Dv (fixI ft fv i) ++ (r.map (fixI ft fv)).flatMap (rend Dt Dv)
    rw [← ih]
    cases i with
    | sym x => exact nl_skip _ (sy_free x) _
    | val d =>
      show nl (34 :: (spell Dv d ++ [34] ++ r.flatMap (rend Dt Dv))) = 34 :: (spell Dv (fv d) ++ [34] ++ nl (r.flatMap (rend Dt Dv)))
      rw [nl_cons _ (by decide), List.append_assoc, List.append_assoc, nl_app (b := [34] ++ r.flatMap (rend Dt Dv)) (by simp) (spell Dv d), hv]
      exact congrArg (fun q => 34 :: (spell Dv (fv d) ++ q)) (nl_cons _ (by decide))
    | txt d =>
      obtain ⟨c, hc⟩ := hw.1 rfl
      obtain ⟨j, q, rfl, hj, _⟩ := map_cons_inv hc
      have hb : ((j :: q).flatMap (rend Dt Dv)).head? ≠ some 10 := by
        cases j with
        | sym x => have e : x = 20 := hj; subst e; simp [rend, sy]
        | txt d => have e : (255 : Int) = 20 := hj; omega
        | val d => have e : (253 : Int) = 20 := hj; omega
      rw [show rend Dt Dv (.txt d) = spell Dt d from rfl, nl_app hb, ht]; rfl
/-- a raw piece -/
noncomputable def OkR : Item → Prop
  | .sym x => x ∈ [20, 17, 22, 21, 1, 254]
  | .txt d => d.length ≤ 3
  | .val d => d.length ≤ 3
theorem ok_fix {ft fv : List Nat → List Nat} (ht : ∀ d, (ft d).length ≤ d.length) (hv : ∀ d, (fv d).length ≤ d.length) {i : Item} (h : OkR i) : OkI (fixI ft fv i) := by
  cases i with
  | sym x => exact h
  | txt d => have := ht d; have h2 : d.length ≤ 3 := h; show (ft d).length ≤ 1000; omega
  | val d => have := hv d; have h2 : d.length ≤ 3 := h; show (fv d).length ≤ 1000; omega
theorem due_words (ft fv : List Nat → List Nat) : ∀ raws : List Item, (∀ i ∈ raws, OkR i) → ((raws.map (fixI ft fv)).flatMap due).length = (raws.map code).countP isW
  | [], _ => rfl
  | i :: r, h => by
    have ih := due_words ft fv r fun j hj => h j (.tail _ hj)
    have hi := h i (.head _)
    rw [List.map_cons, List.map_cons, List.flatMap_cons, List.length_append, List.countP_cons, ih]
    cases i with
    | sym x =>
      have hx : x ∈ [20, 17, 22, 21, 1, 254] := hi
      have : isW (code (.sym x)) = false := by
        show (x == 253 || x == 255) = false
        simp only [List.mem_cons, List.not_mem_nil, or_false] at hx
        rcases hx with rfl | rfl | rfl | rfl | rfl | rfl <;> decide
      rw [this]; simp [fixI, due]
    | txt d => have : isW (code (.txt d)) = true := rfl
               rw [this]; simp [fixI, due]; omega
    | val d => have : isW (code (.val d)) = true := rfl
               rw [this]; simp [fixI, due]; omega
theorem rend_len {Dt Dv : List (List Nat × Nat)} (h1 : Dt.all (fun p => p.1.length ≤ 6) = true) (h2 : Dv.all (fun p => p.1.length ≤ 6) = true) : ∀ raws : List Item, (∀ i ∈ raws, OkR i) → (raws.flatMap (rend Dt Dv)).length ≤ 2 * raws.length + 18 * (raws.map code).countP isW
  | [], _ => by simp
  | i :: r, h => by
    have ih := rend_len h1 h2 r fun j hj => h j (.tail _ hj)
    have hi := h i (.head _)
    rw [List.flatMap_cons, List.length_append, List.map_cons, List.countP_cons, List.length_cons]
    cases i with
    | sym x =>
      have : (rend Dt Dv (.sym x)).length ≤ 2 := by
        show (sy x).length ≤ 2
        unfold sy
        (repeat' split) <;> simp
      split <;> omega
    | txt d => have : isW (code (.txt d)) = true := rfl
               rw [if_pos this]
               have h3 : d.length ≤ 3 := hi
               have h4 := spell_len h1 d
               have h5 : (rend Dt Dv (.txt d)).length = (spell Dt d).length := rfl
               omega
    | val d => have : isW (code (.val d)) = true := rfl
               rw [if_pos this]
               have h3 : d.length ≤ 3 := hi
               have h4 := spell_len h2 d
               have h5 : (rend Dt Dv (.val d)).length = (spell Dv d).length + 2 := by simp [rend]
               omega
end
section
set_option Elab.async false
set_option maxRecDepth 100000
set_option maxHeartbeats 8000000
set_option linter.unusedSimpArgs false
set_option linter.unusedVariables false
theorem spell18 {D : List (List Nat × Nat)} (h : D.all (fun p => p.1.length ≤ 6) = true) {x z : Str} (hx : x.cps.size ≤ 3) (hz : z.cps.toList = spell D x.cps.toList) : z.cps.size ≤ 18 := by
  have := spell_len h x.cps.toList
  rw [← hz] at this
  simp at this
  omega
section
variable (w : World) (mean : ExcName → Option Value) (mg mb : Str → Option Value) (x : Str) (tx : Tok) (hx : x.cps.size ≤ 3) (news : List (Addr × Obj))
include hx
theorem k_cdata : Gives w mean mg mb 86 [.str x tx] news 4 32 (fun r own => own = [] ∧ ∃ z t, r = .str z t ∧ z.cps.toList = spell T1 x.cps.toList ∧ z.cps.size ≤ 18) :=
  (c_cdata w mean mg mb x tx hx news).imp fun r own ⟨e, z, t, h1, h2⟩ => by
    rw [s_amp, s_lt, s_gt, e_cdata] at h2
    exact ⟨e, z, t, h1, h2, spell18 (by decide +kernel) hx h2⟩
theorem k_cdataC : Gives w mean mg mb 107 [.str x tx] news 4 32 (fun r own => own = [] ∧ ∃ z t, r = .str z t ∧ z.cps.toList = spell T0 x.cps.toList ∧ z.cps.size ≤ 18) :=
  (c_cdataC w mean mg mb x tx hx news).imp fun r own ⟨e, z, t, h1, h2⟩ => by
    rw [s_amp, s_lt, s_gt, s_xD, e_cdataC] at h2
    exact ⟨e, z, t, h1, h2, spell18 (by decide +kernel) hx h2⟩
theorem k_attrib : Gives w mean mg mb 93 [.str x tx] news 4 32 (fun r own => own = [] ∧ ∃ z t, r = .str z t ∧ z.cps.toList = spell V1 x.cps.toList ∧ z.cps.size ≤ 18) :=
  (c_attrib w mean mg mb x tx hx news).imp fun r own ⟨e, z, t, h1, h2⟩ => by
    rw [s_amp, s_lt, s_gt, s_quo, s_d13, s_d10, s_d09, e_attrib] at h2
    exact ⟨e, z, t, h1, h2, spell18 (by decide +kernel) hx h2⟩
theorem k_attribC : Gives w mean mg mb 114 [.str x tx] news 4 32 (fun r own => own = [] ∧ ∃ z t, r = .str z t ∧ z.cps.toList = spell V0 x.cps.toList ∧ z.cps.size ≤ 18) :=
  (c_attribC w mean mg mb x tx hx news).imp fun r own ⟨e, z, t, h1, h2⟩ => by
    rw [s_amp, s_lt, s_quo, s_x9, s_xA, s_xD, e_attribC] at h2
    exact ⟨e, z, t, h1, h2, spell18 (by decide +kernel) hx h2⟩
theorem k_html : Gives w mean mg mb 100 [.str x tx] news 4 32 (fun r own => own = [] ∧ ∃ z t, r = .str z t ∧ z.cps.toList = spell V2 x.cps.toList ∧ z.cps.size ≤ 18) :=
  (c_html w mean mg mb x tx hx news).imp fun r own ⟨e, z, t, h1, h2⟩ => by
    rw [s_amp, s_gt, s_quo, e_html] at h2
    exact ⟨e, z, t, h1, h2, spell18 (by decide +kernel) hx h2⟩
theorem k_plain : Gives w mean mg mb 177 [.str x tx] news 4 32 (fun r own => own = [] ∧ ∃ z t, r = .str z t ∧ z.cps.toList = nl x.cps.toList) :=
  (c_plain w mean mg mb x tx hx news).imp fun r own ⟨e, z, t, h1, h2, h3⟩ => by
    rw [s_nl] at h2
    exact ⟨e, z, t, h1, h2⟩
end
theorem k_word (w : World) (mean : ExcName → Option Value) (mg mb : Str → Option Value) (x : Int) (tx : Tok) (news : List (Addr × Obj)) : Gives w mean mg mb 128 [.int x tx] news 4 32 (fun r own => own = [] ∧ ∃ z t, r = .str z t ∧ z.cps.size ≤ 3 ∧ z.cps.toList.length ≤ 3 ∧ okL z.cps.toList) :=
  (c_wordB w mean mg mb x tx news).imp fun r own ⟨e, z, t, h1, h2, h3⟩ => ⟨e, z, t, h1, h2, by simpa using h2, h3⟩
theorem okL_nl : ∀ l : List Nat, okL l → okL (nl l) := by
  refine nl_ind (fun _ => by intro c hc; simp [nl, crnl, repl] at hc) ?_ ?_ ?_
  · intro r ih h
    rw [nl_crnl]
    intro c hc
    rcases List.mem_cons.mp hc with rfl | hc
    · decide
    · exact ih (fun x hx => h x (.tail _ (.tail _ hx))) c hc
  · intro r hr ih h
    rw [nl_cr hr]
    intro c hc
    rcases List.mem_cons.mp hc with rfl | hc
    · decide
    · exact ih (fun x hx => h x (.tail _ hx)) c hc
  · intro k r hk ih h
    rw [nl_cons _ hk]
    intro c hc
    rcases List.mem_cons.mp hc with rfl | hc
    · exact h _ (.head _)
    · exact ih (fun x hx => h x (.tail _ hx)) c hc
theorem k_quote (w : World) (mean : ExcName → Option Value) (mg mb : Str → Option Value) (x : Str) (tx : Tok) (l : List Nat) (n : Nat) (hx : x.cps.toList = sent n l) (hl : l.length ≤ 1000) (hn : n ≤ 3) (news : List (Addr × Obj)) :
    Gives w mean mg mb 72 [.str x tx] news 4 32 (fun r own => own = [] ∧ ∃ z t, r = .str z t ∧ z.cps.toList = sent (n + 1) l) := by
  have h1 := sent_len l n
  rw [← hx] at h1
  have h2 : 4 ^ n ≤ 64 := Nat.le_trans (Nat.pow_le_pow_right (by decide) hn) (by decide)
  have h3 : 4 ^ n * l.length ≤ 64 * 1000 := Nat.mul_le_mul h2 hl
  have h4 : x.cps.size ≤ 100000 := by rw [sz_toList]; omega
  exact (c_quote w mean mg mb x tx h4 news).imp fun r own ⟨e, z, t, h1, h2⟩ => ⟨e, z, t, h1, by rw [h2, hx]; rfl⟩
/-- what the mail gives whoever has it -/
theorem k_recv (w : World) (mean : ExcName → Option Value) (mg mb : Str → Option Value) (x : Str) (tx tn : Tok) (l : List Nat) (n : Nat) (hx : x.cps.toList = sent n l) (hl : l.length ≤ 1000) (hn : n ≤ 3) (h1 : 1 ≤ n) (news : List (Addr × Obj)) :
    Gives w mean mg mb 156 [.str x tx, .int n tn] news 4 32 (fun r own => own = [] ∧ ∃ z t, r = .str z t ∧ z.cps.toList = nl l ∧ z.cps.size ≤ 1000) := by
  obtain ⟨k, rfl⟩ : ∃ k, n = k + 1 := ⟨n - 1, by omega⟩
  have h0 := sent_len l (k + 1)
  rw [← hx] at h0
  have h2 : 4 ^ (k + 1) ≤ 64 := Nat.le_trans (Nat.pow_le_pow_right (by decide) hn) (by decide)
  have h3 : 4 ^ (k + 1) * l.length ≤ 64 * 1000 := Nat.mul_le_mul h2 hl
  have h4 : x.cps.size ≤ 100000 := by rw [sz_toList]; omega
  rw [sent_rows] at hx
  exact (c_recv w mean mg mb x tx tn (k + 1) (by omega) (cutNL (nl l)) (cut_ne _) (cut_rowed _ (nl_no13 l)) hx h4 news).imp fun r own ⟨e, z, t, h1, h2⟩ => by
    rw [joinNL_cut] at h2
    exact ⟨e, z, t, h1, h2, by rw [sz_toList, h2]; have := nl_len l; omega⟩
/-! the tables by the way -/
noncomputable def tabT (way : Int) : List (List Nat × Nat) := if way = 0 then T0 else T1
noncomputable def tabV (way : Int) : List (List Nat × Nat) := if way = 0 then V0 else if way = 1 then V1 else V2
noncomputable def fixT (way : Int) (l : List Nat) : List Nat := if way = 0 then l else nl l
noncomputable def fixV (way : Int) (l : List Nat) : List Nat := if way = 2 then nl l else l
theorem tab_good {way : Int} (h : way = 0 ∨ way = 1 ∨ way = 2) : GoodD (tabT way) 60 ∧ GoodD (tabV way) 34 ∧ (∀ d, nl (spell (tabT way) d) = spell (tabT way) (fixT way d)) ∧ (∀ d, nl (spell (tabV way) d) = spell (tabV way) (fixV way d)) ∧ (tabT way).all (fun p => p.1.length ≤ 6) = true ∧ (tabV way).all (fun p => p.1.length ≤ 6) = true := by
  rcases h with rfl | rfl | rfl
  · exact ⟨gT0, gV0, nlT0, nlV0, by decide +kernel, by decide +kernel⟩
  · exact ⟨gT1, gV1, nlT1, nlV1, by decide +kernel, by decide +kernel⟩
  · exact ⟨gT1, gV2, nlT1, nlV2, by decide +kernel, by decide +kernel⟩
theorem fixT_len (way : Int) (d : List Nat) : (fixT way d).length ≤ d.length := by unfold fixT; split; exact Nat.le_refl _; exact nl_len d
theorem okL_fixT (way : Int) {d : List Nat} (h : okL d) : okL (fixT way d) := by unfold fixT; split; exact h; exact okL_nl d h
theorem okL_fixV (way : Int) {d : List Nat} (h : okL d) : okL (fixV way d) := by unfold fixV; split; exact okL_nl d h; exact h
theorem fixV_len (way : Int) (d : List Nat) : (fixV way d).length ≤ d.length := by unfold fixV; split; exact nl_len d; exact Nat.le_refl _
/-! the dicts -/
theorem names_of {kvs : List (Str × Value)} {D : List (PyData × PyData)} (h : PyProof.V.FlatPairs PyData.str kvs D) : ∀ (l : List (Str × Str)) (T : List (List Nat × Nat)), D = l.map (fun p => (.str p.1, .str p.2)) → l.map (fun p => (p.1.cps.toList, p.2.cps.toList)) = T.map (fun p => (p.1, [p.2])) → Names kvs T := by
  induction h with
  | nil =>
    intro l T e1 e2
    cases l with
    | nil => cases T with
      | nil => exact .nil
      | cons _ _ => cases e2
    | cons _ _ => cases e1
  | @cons k v d kvs D hf _ ih =>
    intro l T e1 e2
    cases l with
    | nil => cases e1
    | cons p l => cases T with
      | nil => cases e2
      | cons q T =>
        simp only [List.map_cons, List.cons.injEq, Prod.mk.injEq] at e1 e2
        obtain ⟨⟨h1, h2⟩, h3⟩ := e1
        subst h2
        obtain ⟨t, rfl⟩ : ∃ t, v = .str p.2 t := by have q := hf ({} : Heap); cases q; exact ⟨_, rfl⟩
        have hk : k = p.1 := by injection h1
        obtain ⟨⟨e3, e4⟩, e5⟩ := e2
        obtain ⟨k1, c1⟩ := q
        exact .cons k p.2 t k1 c1 (hk ▸ e3) e4 (ih l T h3 e5)
theorem way_cases {way : Int} (h : way = 0 ∨ way = 1 ∨ way = 2) : (way == 0) = decide (way = 0) := rfl
noncomputable def spD : List (PyData × PyData) := [(.int 1, .str (Str.ofString "a")), (.int 254, .str (Str.ofString " k")), (.int 20, .str (Str.ofString "<")), (.int 17, .str (Str.ofString "/")), (.int 22, .str (Str.ofString "=")), (.int 21, .str (Str.ofString ">"))]
theorem spD_look {x : Int} (hx : x ∈ [20, 17, 22, 21, 1, 254]) : ∃ z : Str, PySem.Spec.lookup (.int x) spD = some (.str z) ∧ z.cps.toList = sy x := by
  simp only [List.mem_cons, List.not_mem_nil, or_false] at hx
  rcases hx with rfl | rfl | rfl | rfl | rfl | rfl
  · exact ⟨Str.ofString "<", by rfl, by decide +kernel⟩
  · exact ⟨Str.ofString "/", by rfl, by decide +kernel⟩
  · exact ⟨Str.ofString "=", by rfl, by decide +kernel⟩
  · exact ⟨Str.ofString ">", by rfl, by decide +kernel⟩
  · exact ⟨Str.ofString "a", by rfl, by decide +kernel⟩
  · exact ⟨Str.ofString " k", by rfl, by decide +kernel⟩
section
variable {prog : Program} {w : World} {A : Around} {E : Value → Shared → Prop} {s : Shared} {h₀ : Heap} {L D l : Addr} {m : Str → Option Value} {news : List (Addr × Obj)} {n : Nat} {value slice : PySem.Expr}
theorem spell_get {o : Obj} {kvs : List (Int × Value)} {x : Int} {t : Tok} {Q : Value → Shared → Prop} (N : News h₀ L s.heap news) (hm : (D, o) ∈ news) (hd : o.IsDictOf (intKind prog w) kvs) (hf : PyProof.V.FlatPairs PyData.int kvs spD) (lo : (D == sysModules) = false)
    (hx : x ∈ [20, 17, 22, 21, 1, 254]) (h : ∀ (z : Str) t k, z.cps.toList = sy x → z.cps.size ≤ 2 → Q (.str z t) { s with toks := k })
    (hs : subscripted slice false (.ref D) (.int x t) = operate [.ref D, .int x t] (getItem (.ref D) (.int x t))) (hg : ∀ r, letTemporaryGo value (.ref D) r = pure ()) :
    wpAny (model prog w) A (subscriptTail value slice (.ref D) (.int x t)) Q E s := by
  obtain ⟨z, h1, h2⟩ := spD_look hx
  refine item_intTab (D := spD) ⟨lo, kvs, kda_dict N hm hd, hf⟩ h1 (fun v hv => ?_) hs hg
  obtain ⟨t', rfl⟩ : ∃ t', v = .str z t' := by have q := hv ({} : Heap); cases q; exact ⟨_, rfl⟩
  refine h z t' _ h2 ?_
  rw [sz_toList, h2]
  unfold sy
  (repeat' split) <;> simp
theorem cut_last {us : List Value} {rq : List Int} {t : Tok} {Q : Value → Shared → Prop} (F : Fr h₀ L s.heap m) (N : News h₀ L s.heap news) (hm : (l, listOf us.toArray n) ∈ news) (hi : IntsAre us (rq ++ [0])) (hz : rq.length ≤ 100)
    (h : ∀ D ws h', Fr h₀ L h' m → News h₀ L h' ((D, listOf (List.toArray ws) 0) :: news) → (∀ p ∈ news, p.1 < D) → IntsAre ws [0] → Q (.ref D) { s with heap := h' })
    (hs : subscripted slice false (.ref l) (.ref s.heap.objs.size) = operate [.ref s.heap.objs.size, .ref l] (getItem (.ref l) (.ref s.heap.objs.size))) (ht : ∀ r, letTemporaryGo value (.ref l) r = pure ()) :
    wpAny (model prog w) A (subscriptTail value slice (.ref l) (.ref s.heap.objs.size)) Q E { s with heap := s.heap.push { cls := .type "slice", data := .fields #[.int (-1) t, .none, .none] } } := by
  have hq := kmk_from_neg hi (x := -1) (by decide)
  have e : (rq ++ [0]).drop ((rq ++ [0]).length - (- (-1 : Int)).toNat) = [0] := by
    have : (rq ++ [(0 : Int)]).length - (- (-1 : Int)).toNat = rq.length := by simp
    rw [this, List.drop_left]
  rw [e] at hq
  have hl := hi.length
  refine kmk_slice_ints (c := 1) F N (News.isList N hm) (.int _ _) .none hi hq rfl (fun D ws h' F' N' l1 h1 _ _ => h D ws h' F' N' l1 h1) hs ht ?_
  rw [List.size_toArray, hl, PySem.sizeLine_eq]
  simp; omega
theorem cut_but {us : List Value} {rq : List Int} {t : Tok} {Q : Value → Shared → Prop} (F : Fr h₀ L s.heap m) (N : News h₀ L s.heap news) (hm : (l, listOf us.toArray n) ∈ news) (hi : IntsAre us (rq ++ [0])) (hz : rq.length ≤ 100)
    (h : ∀ D ws h', Fr h₀ L h' m → News h₀ L h' ((D, listOf (List.toArray ws) 0) :: news) → (∀ p ∈ news, p.1 < D) → IntsAre ws rq → Q (.ref D) { s with heap := h' })
    (hs : subscripted slice false (.ref l) (.ref s.heap.objs.size) = operate [.ref s.heap.objs.size, .ref l] (getItem (.ref l) (.ref s.heap.objs.size))) (ht : ∀ r, letTemporaryGo value (.ref l) r = pure ()) :
    wpAny (model prog w) A (subscriptTail value slice (.ref l) (.ref s.heap.objs.size)) Q E { s with heap := s.heap.push { cls := .type "slice", data := .fields #[.none, .int (-1) t, .none] } } := by
  have hq := kmk_upto_neg hi (y := -1) (by decide)
  have e : (rq ++ [0]).take ((rq ++ [0]).length - (- (-1 : Int)).toNat) = rq := by
    have : (rq ++ [(0 : Int)]).length - (- (-1 : Int)).toNat = rq.length := by simp
    rw [this, List.take_left]
  rw [e] at hq
  have hl := hi.length
  refine kmk_slice_ints (c := rq.length) F N (News.isList N hm) .none (.int _ _) hi hq rfl (fun D ws h' F' N' l1 h1 _ _ => h D ws h' F' N' l1 h1) hs ht ?_
  rw [List.size_toArray, hl, PySem.sizeLine_eq]
  simp; omega
theorem ne_same {a b : Addr} {na nb : Nat} {us vs : List Value} {x : List Int} {Q : Value → Shared → Prop} (N : News h₀ L s.heap news) (ha : (a, listOf us.toArray na) ∈ news) (hb : (b, listOf vs.toArray nb) ∈ news) (hi : IntsAre us x) (hj : IntsAre vs x) (hu : A.units + 64 < cLine)
    (h : Q (.bool false) s) : wpAny (model prog w) A (compareOp .NotEq (.ref a) (.ref b)) Q E s := by
  refine ke_ne_ints (xs := us) (ys := vs) (ns := x) (ms := x) ⟨_, News.get N ha, rfl, _, rfl⟩ ⟨_, News.get N hb, rfl, _, rfl⟩ hi hj hu ?_
  simpa using h
theorem len_any {us : List Value} {k : Nat} {Q : Value → Shared → Prop} (N : News h₀ L s.heap news) (hm : (D, listOf us.toArray n) ∈ news) (hl : us.length = k) (h9 : k ≤ 1000)
    (h : Q (.int (k : Int) (s.toks + 1)) { s with toks := s.toks + 1 + 1 }) : wpAny (model prog w) A (call (.builtin "len") [.ref D]) Q E s := by
  have e : ((us.toArray.size : Nat) : Int) = (k : Int) := by simp [hl]
  refine len_list (News.isList N hm) (by omega) ?_
  rw [e]; exact h
noncomputable def IfPost (prog : Program) (w : World) (h₀ : Heap) (L cA : Addr) (us : List Value) (nC : Nat) (ta va : Addr) (way : Int) (h : Heap) : Prop :=
  ∃ news ot kvt ov kvv, News h₀ L h news ∧ (cA, listOf us.toArray nC) ∈ news ∧ (ta, ot) ∈ news ∧ (va, ov) ∈ news ∧ ot.IsDictOf (PySem.strKind prog w) kvt ∧ ov.IsDictOf (PySem.strKind prog w) kvv ∧ Names kvt (tabT way) ∧ Names kvv (tabV way)
noncomputable def IfEnd (prog : Program) (w : World) (h₀ : Heap) (L : Addr) (m : Str → Option Value) (cA : Addr) (us : List Value) (nC : Nat) (ta va : Addr) (way : Int) (s : Shared) (f : Flow) (s' : Shared) : Prop :=
  f = Flow.next ∧ ∃ h' tk, s' = { s with heap := h', toks := tk } ∧ Fr h₀ L h' m ∧ IfPost prog w h₀ L cA us nC ta va way h'
theorem if_end {cA : Addr} {us : List Value} {nC : Nat} {ta va : Addr} {way : Int} {h' : Heap} {tk : Nat} {ot ov : Obj} {kvt kvv : List (Str × Value)} (F : Fr h₀ L h' m) (N : News h₀ L h' news) (h1 : (cA, listOf us.toArray nC) ∈ news) (h2 : (ta, ot) ∈ news) (h3 : (va, ov) ∈ news)
    (d1 : ot.IsDictOf (PySem.strKind prog w) kvt) (d2 : ov.IsDictOf (PySem.strKind prog w) kvv) (n1 : Names kvt (tabT way)) (n2 : Names kvv (tabV way)) : IfEnd prog w h₀ L m cA us nC ta va way s .next { s with heap := h', toks := tk } :=
  ⟨rfl, h', tk, rfl, F, news, ot, kvt, ov, kvv, N, h1, h2, h3, d1, d2, n1, n2⟩
theorem through_if {t : Sem Flow} {Q : Flow → Shared → Prop} (F : Fr h₀ L s.heap m) (cA : Addr) (us : List Value) (nC : Nat) (ta va : Addr) (way : Int)
    (run : wpAny (model prog w) A t (IfEnd prog w h₀ L m cA us nC ta va way s) E s)
    (cont : ∀ h' tk, Fr h₀ L h' m → IfPost prog w h₀ L cA us nC ta va way h' → Q .next { s with heap := h', toks := tk }) : wpAny (model prog w) A t Q E s :=
  wpAny_mono run (fun f s' ⟨e, h', tk, e2, F', p⟩ => by subst e e2; exact cont h' tk F' p) fun _ _ x => x
end
section
variable {prog : Program} {w : World} {A : Around} {E : Value → Shared → Prop} {s : Shared} {h₀ : Heap} {env : Env} {x : Str} {body : List Stmt} {Q : Flow → Shared → Prop}
/-- a loop over a made list: one name and one made list are followed, the names of ps stay; what follows is a variable -/
theorem iter_mail {l dA : Addr} {items : Array Value} {nL nD : Nat} {ds₀ : List Value} {m₀ : Str → Option Value} {rest : List (Addr × Obj)} (nv : Str) (ps : List (Str × Value)) (G : Nat → Value → List Value → Prop)
    (hh : A.handled = none) (F : Fr h₀ env.locals s.heap m₀) (N : News h₀ env.locals s.heap ((l, listOf items nL) :: (dA, listOf ds₀.toArray nD) :: rest)) (hlo : ∀ p ∈ (dA, listOf ds₀.toArray nD) :: rest, p.1 < l) (hlt : ∀ p ∈ rest, p.1 ≠ dA) (hv : ∃ v, (∀ p ∈ (nv, v) :: ps, m₀ p.1 = some p.2) ∧ G 0 v ds₀)
    (turn : ∀ i v z ds n h g d tk o own (M : Str → Option Value) (K : Flow → Shared → Prop), items[i]? = some v → (∀ p ∈ rest ++ own, p.1 ≠ dA) → G i z ds → Fr h₀ env.locals h (kf M ((x, v) :: (nv, z) :: ps)) → News h₀ env.locals h ((dA, listOf (List.toArray ds) n) :: (rest ++ own)) →
      (∀ h' tk' m' ds' n' v', Fr h₀ env.locals h' m' → News h₀ env.locals h' ((dA, listOf (List.toArray ds') n') :: (rest ++ own)) → (∀ p ∈ (nv, v') :: ps, m' p.1 = some p.2) → G (i + 1) v' ds' → K .next ⟨h', g, d, tk', o⟩) →
      wpAny (model prog w) A (execs body env) K E ⟨h, g, d, tk, o⟩)
    (done : ∀ (M : Str → Option Value) z ds n h tk, G items.size z ds → Fr h₀ env.locals h (kf M ((nv, z) :: ps)) → News h₀ env.locals h ((dA, listOf (List.toArray ds) n) :: rest) → Q .next { s with heap := h, toks := tk }) :
    wpAny (model prog w) A (pyIter (.ref l)) (fun it s₂ => LoopAtU prog w A h₀ env x body Q E it s₂) E s := by
  have zl := N (l, listOf items nL) (.head _)
  have hls : s.heap.IsList l items := ⟨_, zl.1, rfl, nL, rfl⟩
  have hlt0 : l < s.heap.objs.size := Heap.lt_size zl.1
  have hne : l ≠ s.heap.objs.size := Nat.ne_of_lt hlt0
  have Nn : News h₀ env.locals s.heap ((dA, listOf ds₀.toArray nD) :: rest) := fun p hp => N p (.tail _ hp)
  refine wpAny_pyIter_list hls ?_
  have W := Walks.list (prog := prog) (w := w) hh s.heap.objs.size l hne items
  let J' : Nat → (Str → Option Value) → List (Addr × Obj) → Prop := fun i m₁ news₁ => ∃ ds n v, news₁ = (dA, listOf (List.toArray ds) n) :: rest ∧ (∀ p ∈ (nv, v) :: ps, m₁ p.1 = some p.2) ∧ G i v ds
  have hadr : ∀ (ds : List Value) (n : Nat), ∀ p ∈ (dA, listOf ds.toArray n) :: rest, p.1 ∉ [s.heap.objs.size] := by
    intro ds n p hp hI
    have e : p.1 = s.heap.objs.size := List.mem_singleton.mp hI
    rcases List.mem_cons.mp hp with rfl | hp
    · exact absurd (Heap.lt_size (Nn _ (.head _)).1) (e ▸ Nat.lt_irrefl _)
    · exact absurd (Heap.lt_size (Nn p (.tail _ hp)).1) (e ▸ Nat.lt_irrefl _)
  obtain ⟨v0, hv1, hv2⟩ := hv
  refine ⟨_, _, _, items.size, _, _, m₀, (dA, listOf ds₀.toArray nD) :: rest, J', rfl, W, ?_, ?_, hadr _ _, ⟨⟨_, Heap.get?_push_size _ rfl, rfl, rfl⟩, hls.at fun o e => Heap.get?_push_of_some _ e⟩, F.push _, (fun p hp => ⟨Heap.get?_push_of_some _ (Nn p hp).1, (Nn p hp).2⟩), ⟨ds₀, nD, v0, rfl, hv1, hv2⟩, ?_, ?_⟩
  · intro hm
    rcases List.mem_cons.mp hm with e | hm
    · exact absurd F.ns.lt (e ▸ Nat.lt_irrefl _)
    · exact zl.2.1 (List.mem_singleton.mp hm).symm
  · intro b hb
    rw [List.mem_singleton.mp hb]
    exact next_is_new F
  · rintro i v m₁ news₁ ⟨h, g, d, tk, o⟩ own hin hP ⟨ds, n, z, rfl, h1, hG⟩ hoff hown _ _ _ F₁ N₁
    have hsep : ∀ p ∈ rest ++ own, p.1 ≠ dA := by
      intro p hp
      rcases List.mem_append.mp hp with hp | hp
      · exact hlt p hp
      · rcases List.mem_cons.mp (hown p hp) with e | e
        · rw [e]; exact Nat.ne_of_gt (Heap.lt_size (Nn _ (.head _)).1)
        · rw [List.mem_singleton.mp e]; exact Nat.ne_of_gt (hlo _ (.head _))
    have N₂ : News h₀ env.locals h ((dA, listOf (List.toArray ds) n) :: (rest ++ own)) := fun p hp => N₁ p (by
      rcases List.mem_cons.mp hp with rfl | hp
      · exact List.mem_append.mpr (.inr (.head _))
      · exact (List.mem_append.mp hp).elim (fun h => List.mem_append.mpr (.inr (.tail _ h))) fun h => List.mem_append.mpr (.inl h))
    have F₂ : Fr h₀ env.locals h (kf m₁ ((x, v) :: (nv, z) :: ps)) := by
      have e2 : kf m₁ ((x, v) :: (nv, z) :: ps) = (fun y => if y = x then some v else m₁ y) := by
        funext y
        exact congrArg (fun q => if y = x then some v else q) (congrFun (kf_same h1) y)
      rw [e2]; exact F₁
    refine turn i v z ds n h g d tk o own m₁ _ hP hsep hG F₂ N₂ ?_
    intro h' tk' m' ds' n' v' F' N' g1 g3
    refine ⟨rfl, h', tk', m', (dA, listOf (List.toArray ds') n') :: rest, rfl, F', fun p hp => N' p ?_, hadr _ _, ds', n', v', rfl, g1, g3⟩
    rcases List.mem_append.mp hp with hp | hp
    · exact .tail _ (List.mem_append.mpr (.inr hp))
    · rcases List.mem_cons.mp hp with rfl | hp
      · exact .head _
      · exact .tail _ (List.mem_append.mpr (.inl hp))
  · rintro h' tk m' news' F' N' _ ⟨ds, n, z, rfl, h1, hG⟩
    exact done m' z ds n h' tk hG (by rw [kf_same h1]; exact F') N'
end
theorem ints_at {ws : List Value} {ns : List Int} (h : IntsAre ws ns) {i : Nat} {v : Value} (hv : ws.toArray[i]? = some v) : ∃ x t, v = .int x t ∧ ns[i]? = some x := by
  have hv' : ws[i]? = some v := by simpa using hv
  clear hv
  induction h generalizing i with
  | nil => simp at hv'
  | @cons x t vs ns _ ih =>
    cases i with
    | zero => simp at hv'; exact ⟨_, _, hv'.symm, rfl⟩
    | succ i => simp at hv'; simpa using ih hv'
/-- where the writing loop stands -/
noncomputable def MailAt (way : Int) (rq : List Int) (i : Nat) (x : Value) (ds : List Value) : Prop :=
  ∃ (raws : List Item) (z : Str) (t : Tok), x = .str z t ∧ (∀ r ∈ raws, OkR r) ∧ raws.map code = rq.take i ∧ z.cps.toList = raws.flatMap (rend (tabT way) (tabV way)) ∧ TextsAre ds ((raws.map (fixI (fixT way) (fixV way))).flatMap due) ∧ ∀ d ∈ (raws.map (fixI (fixT way) (fixV way))).flatMap due, okL d
theorem mailAt_zero (way : Int) (rq : List Int) (t : Tok) : MailAt way rq 0 (.str (Str.ofString "") t) [] :=
  ⟨[], _, t, rfl, (fun _ h => nomatch h), rfl, (show (Str.ofString "").cps.toList = [] by decide +kernel), .nil, fun _ h => nomatch h⟩
theorem mailAt_len {way : Int} {rq : List Int} {i : Nat} {raws : List Item} {z : Str} {ds : List Value} (hw : way = 0 ∨ way = 1 ∨ way = 2) (hd : Der 2 [256] rq) (hl : rq.length ≤ 100) (hok : ∀ r ∈ raws, OkR r) (hc : raws.map code = rq.take i) (hz : z.cps.toList = raws.flatMap (rend (tabT way) (tabV way))) (hds : TextsAre ds ((raws.map (fixI (fixT way) (fixV way))).flatMap due)) :
    ds.length = (rq.take i).countP isW ∧ (rq.take i).countP isW ≤ 8 ∧ z.cps.size ≤ 400 := by
  have h1 := hds.length
  rw [due_words _ _ raws hok, hc] at h1
  have h2 : (rq.take i).countP isW ≤ rq.countP isW := by
    have e := congrArg (List.countP isW) (List.take_append_drop i rq)
    rw [List.countP_append] at e
    omega
  have h3 := words8 hd
  obtain ⟨_, _, _, _, a1, a2⟩ := tab_good hw
  have h4 := rend_len a1 a2 raws hok
  rw [← hz, hc] at h4
  have h5 : raws.length ≤ 100 := by
    have := congrArg List.length hc
    simp at this
    omega
  exact ⟨h1, by omega, by rw [sz_toList]; omega⟩
theorem word_room {rq : List Int} {i : Nat} {x : Int} (hd : Der 2 [256] rq) (hx : rq[i]? = some x) (hw : isW x = true) : (rq.take i).countP isW ≤ 7 := by
  have h3 := words8 hd
  have e := congrArg (List.countP isW) (List.take_append_drop (i + 1) rq)
  rw [List.countP_append, take_snoc hx, List.countP_append] at e
  have : [x].countP isW = 1 := by simp [hw]
  omega
theorem mailAt_val {way : Int} {rq : List Int} {i : Nat} {raws : List Item} {z z2 q : Str} {t t2 : Tok} {ds : List Value} {d : List Nat} (hok : ∀ r ∈ raws, OkR r) (hc : raws.map code = rq.take i) (hz : z.cps.toList = raws.flatMap (rend (tabT way) (tabV way))) (hds : TextsAre ds ((raws.map (fixI (fixT way) (fixV way))).flatMap due)) (hol : ∀ d ∈ (raws.map (fixI (fixT way) (fixV way))).flatMap due, okL d)
    (hx : rq[i]? = some 253) (hd3 : d.length ≤ 3) (hdo : okL d) (hz2 : z2.cps.toList = z.cps.toList ++ (34 :: (spell (tabV way) d ++ [34]))) (hq : q.cps.toList = fixV way d) : MailAt way rq (i + 1) (.str z2 t) (ds ++ [.str q t2]) := by
  refine ⟨raws ++ [.val d], z2, t, rfl, ?_, ?_, ?_, ?_, ?_⟩
  · intro r hr
    rcases List.mem_append.mp hr with h | h
    · exact hok r h
    · rw [List.mem_singleton.mp h]; exact hd3
  · rw [List.map_append, hc, take_snoc hx]; rfl
  · rw [hz2, hz, List.flatMap_append]; simp [rend]
  · rw [List.map_append, List.flatMap_append]
    refine hds.app ?_
    exact .cons t2 hq .nil
  · rw [List.map_append, List.flatMap_append]
    intro c hc
    rcases List.mem_append.mp hc with h | h
    · exact hol c h
    · have e : c = fixV way d := by simpa [fixI, due] using h
      rw [e]; exact okL_fixV way hdo
theorem mailAt_txt {way : Int} {rq : List Int} {i : Nat} {raws : List Item} {z z2 q : Str} {t t2 : Tok} {ds : List Value} {d : List Nat} (hok : ∀ r ∈ raws, OkR r) (hc : raws.map code = rq.take i) (hz : z.cps.toList = raws.flatMap (rend (tabT way) (tabV way))) (hds : TextsAre ds ((raws.map (fixI (fixT way) (fixV way))).flatMap due)) (hol : ∀ d ∈ (raws.map (fixI (fixT way) (fixV way))).flatMap due, okL d)
    (hx : rq[i]? = some 255) (hd3 : d.length ≤ 3) (hdo : okL d) (hz2 : z2.cps.toList = z.cps.toList ++ spell (tabT way) d) (hq : q.cps.toList = fixT way d) : MailAt way rq (i + 1) (.str z2 t) (ds ++ [.str q t2]) := by
  refine ⟨raws ++ [.txt d], z2, t, rfl, ?_, ?_, ?_, ?_, ?_⟩
  · intro r hr
    rcases List.mem_append.mp hr with h | h
    · exact hok r h
    · rw [List.mem_singleton.mp h]; exact hd3
  · rw [List.map_append, hc, take_snoc hx]; rfl
  · rw [hz2, hz, List.flatMap_append]; simp [rend]
  · rw [List.map_append, List.flatMap_append]
    refine hds.app ?_
    exact .cons t2 hq .nil
  · rw [List.map_append, List.flatMap_append]
    intro c hc
    rcases List.mem_append.mp hc with h | h
    · exact hol c h
    · have e : c = fixT way d := by simpa [fixI, due] using h
      rw [e]; exact okL_fixT way hdo
theorem mailAt_sym {way : Int} {rq : List Int} {i : Nat} {raws : List Item} {z z2 : Str} {t : Tok} {ds : List Value} {x : Int} (hok : ∀ r ∈ raws, OkR r) (hc : raws.map code = rq.take i) (hz : z.cps.toList = raws.flatMap (rend (tabT way) (tabV way))) (hds : TextsAre ds ((raws.map (fixI (fixT way) (fixV way))).flatMap due)) (hol : ∀ d ∈ (raws.map (fixI (fixT way) (fixV way))).flatMap due, okL d)
    (hx : rq[i]? = some x) (h6 : x ∈ [20, 17, 22, 21, 1, 254]) (hz2 : z2.cps.toList = z.cps.toList ++ sy x) : MailAt way rq (i + 1) (.str z2 t) ds := by
  refine ⟨raws ++ [.sym x], z2, t, rfl, ?_, ?_, ?_, ?_, ?_⟩
  · intro r hr
    rcases List.mem_append.mp hr with h | h
    · exact hok r h
    · rw [List.mem_singleton.mp h]; exact h6
  · rw [List.map_append, hc, take_snoc hx]; rfl
  · rw [hz2, hz, List.flatMap_append]; simp [rend]
  · rw [List.map_append, List.flatMap_append]
    simpa [fixI, due] using hds
  · rw [List.map_append, List.flatMap_append]
    intro c hc
    rcases List.mem_append.mp hc with h | h
    · exact hol c h
    · simp [fixI, due] at h
theorem sym6 {x : Int} (hx : x ∈ terms) : x ≠ 253 → x ≠ 255 → x ∈ [20, 17, 22, 21, 1, 254] :=
  (show ∀ x ∈ terms, x ≠ 253 → x ≠ 255 → x ∈ [20, 17, 22, 21, 1, 254] by decide +kernel) x hx
/-- the whole, read again -/
theorem mail_read {way : Int} {rq : List Int} {raws : List Item} (hw : way = 0 ∨ way = 1 ∨ way = 2) (hd : Der 2 [256] rq) (hok : ∀ r ∈ raws, OkR r) (hc : raws.map code = rq) :
    nl (raws.flatMap (rend (tabT way) (tabV way))) = (raws.map (fixI (fixT way) (fixV way))).flatMap (rend (tabT way) (tabV way)) ∧ (∀ i ∈ raws.map (fixI (fixT way) (fixV way)), OkI i) ∧ (raws.map (fixI (fixT way) (fixV way))).map code = rq := by
  obtain ⟨_, _, a1, a2, _, _⟩ := tab_good hw
  refine ⟨nl_items a1 a2 raws (hc ▸ ws256 hd), ?_, ?_⟩
  · intro i hi
    obtain ⟨r, hr, rfl⟩ := List.mem_map.mp hi
    exact ok_fix (fixT_len way) (fixV_len way) (hok r hr)
  · rw [List.map_map, ← hc]
    exact List.map_congr_left fun r _ => code_fix _ _ r
/-! the last comparison -/
noncomputable def strD (d : List Nat) : PyData := .str ⟨d.toArray⟩
theorem ints_reads (h : Heap) {vs : List Value} {xs : List Int} (H : IntsAre vs xs) : ReadsAll h vs (xs.map PyData.int) [] := by
  induction H with
  | nil => exact .nil
  | cons x t _ ih => exact .cons (as := []) (bs := []) (.int x t) ih
theorem texts_reads (h : Heap) {vs : List Value} {ds : List (List Nat)} (H : TextsAre vs ds) : ReadsAll h vs (ds.map strD) [] := by
  induction H with
  | nil => exact .nil
  | @cons z d t vs ds e _ ih =>
    have e2 : z = ⟨d.toArray⟩ := str_of_list (by simpa using e)
    subst e2
    exact .cons (as := []) (bs := []) (.str _ t) ih
theorem ints_lay : ∀ xs : List Int, PyData.canLayAll0 (xs.map PyData.int) = true
  | [] => by simp [PyData.canLayAll0]
  | x :: xs => by simp [PyData.canLayAll0, PyData.canLay0, ints_lay xs]
theorem texts_lay : ∀ xs : List (List Nat), (∀ d ∈ xs, okL d) → PyData.canLayAll0 (xs.map strD) = true
  | [], _ => by simp [PyData.canLayAll0]
  | x :: xs, h => by
    have h1 : ∀ c ∈ x, c < 0x110000 := h x (.head _)
    have h2 : PyData.strOk ⟨x.toArray⟩ = true := by
      unfold PyData.strOk
      simpa using h1
    simp [PyData.canLayAll0, PyData.canLay0, strD, texts_lay xs fun d hd => h d (.tail _ hd), h2]
theorem ints_deep : ∀ xs : List Int, PyData.depthAll (xs.map PyData.int) ≤ 1
  | [] => by simp [PyData.depthAll]
  | x :: xs => by have := ints_deep xs; simp [PyData.depthAll, PyData.depth]; omega
theorem texts_deep : ∀ xs : List (List Nat), PyData.depthAll (xs.map strD) ≤ 1
  | [] => by simp [PyData.depthAll]
  | x :: xs => by have := texts_deep xs; simp [PyData.depthAll, PyData.depth, strD]; omega
noncomputable def pairD (xs : List Int) (ds : List (List Nat)) : PyData := .list [.list (xs.map PyData.int), .list (ds.map strD)]
theorem pair_shaped (xs : List Int) (ds : List (List Nat)) (ho : ∀ d ∈ ds, okL d) : SeqAt.shaped (pairD xs ds) = true := by
  have h1 := ints_deep xs
  have h2 := texts_deep ds
  simp [SeqAt.shaped, pairD, PyData.canLay0, PyData.canLayAll0, ints_lay, texts_lay ds ho, PyData.depth, PyData.depthAll]
  omega
section
variable {prog : Program} {w : World} {A : Around} {E : Value → Shared → Prop} {s : Shared} {h₀ : Heap} {L : Addr} {m : Str → Option Value} {news : List (Addr × Obj)}
theorem pair_reads (N : News h₀ L s.heap news) {a r t : Addr} {na nr nt : Nat} {vr vt : List Value} {xs : List Int} {ds : List (List Nat)} (ha : (a, listOf #[.ref r, .ref t] na) ∈ news) (hr : (r, listOf vr.toArray nr) ∈ news) (ht : (t, listOf vt.toArray nt) ∈ news) (hI : IntsAre vr xs) (hT : TextsAre vt ds) :
    ∃ as, Reads s.heap (.ref a) (pairD xs ds) as :=
  ⟨_, reads_list_at (News.get N ha) rfl rfl (.cons (reads_list_at (News.get N hr) rfl rfl (by simpa using ints_reads s.heap hI)) (.cons (reads_list_at (News.get N ht) rfl rfl (by simpa using texts_reads s.heap hT)) .nil))⟩
theorem pair_eq {a r t a' r' t' : Addr} {na nr nt na' nr' nt' : Nat} {vr vt vr' vt' : List Value} {xs : List Int} {ds : List (List Nat)} {Q : Value → Shared → Prop} (N : News h₀ L s.heap news) (ha : (a, listOf #[.ref r, .ref t] na) ∈ news) (hr : (r, listOf vr.toArray nr) ∈ news) (ht : (t, listOf vt.toArray nt) ∈ news) (hI : IntsAre vr xs) (hT : TextsAre vt ds)
    (ha' : (a', listOf #[.ref r', .ref t'] na') ∈ news) (hr' : (r', listOf vr'.toArray nr') ∈ news) (ht' : (t', listOf vt'.toArray nt') ∈ news) (hI' : IntsAre vr' xs) (hT' : TextsAre vt' ds) (ho : ∀ d ∈ ds, okL d) (hu : A.units + 64 < cLine) (h : Q (.bool true) s) :
    wpAny (model prog w) A (compareOp .Eq (.ref a) (.ref a')) Q E s := by
  obtain ⟨as, h1⟩ := pair_reads N ha hr ht hI hT
  obtain ⟨as', h2⟩ := pair_reads N ha' hr' ht' hI' hT'
  refine eq_dataH h1 h2 (pair_shaped xs ds ho) (pair_shaped xs ds ho) hu ?_
  rw [SeqAt.eqv_refl _ (SeqAt.canLay_of_shaped (pair_shaped xs ds ho))]
  exact h
end
end
section
set_option Elab.async false
set_option maxRecDepth 100000
set_option maxHeartbeats 8000000

local macro_rules | `(tactic| k_steps) => `(tactic| repeat' ((fail_if_success (with_reducible show wpAny _ _ (pyIter (Value.ref _)) _ _ _)); (fail_if_success (with_reducible show wpAny _ _ (call (Value.ref _) _) _ _ _)); first | (k_unfold; (try dsimp only)) | (walk1 <;> (try dsimp only)) | (dsimp only; walk1) | (leave1; try dsimp only) | fail "no step"))
local macro_rules | `(tactic| walk_at "ToIf") => `(tactic| repeat' ((fail_if_success (with_reducible show wpAny _ _ (exec (Stmt.If _ _ _ _) _) _ _ _)); (fail_if_success (with_reducible show wpAny _ _ (call (Value.ref _) _) _ _ _)); first | (k_unfold; (try dsimp only)) | (walk1 <;> (try dsimp only)) | (dsimp only; walk1) | (leave1; try dsimp only) | fail "no step"))
local macro_rules | `(tactic| walk_at "Go") => `(tactic| repeat' ((fail_if_success (with_reducible show wpAny _ _ (pyIter (Value.ref _)) _ _ _)); first | (k_unfold; (try dsimp only)) | (walk1 <;> (try dsimp only)) | (dsimp only; walk1) | (leave1; try dsimp only) | fail "no step"))
local macro_rules | `(tactic| k_mem) => `(tactic| (with_reducible first | exact List.mem_cons_self | assumption | (refine List.mem_cons_of_mem _ ?_; k_mem) | (refine List.mem_append.mpr (Or.inl ?_); k_mem)))
local macro_rules | `(tactic| walk_at "subscriptTail Name Constant ref int") => `(tactic| (k_here; k_dflt (refine' nine_item ?N ?hm ?hi ?h0 ?h1 ?hf ?_ ?hs ?hg; (case N => k_asm); (case hm => k_mem); (case hi => with_reducible assumption); (case h0 => decide); (case h1 => omega); (case hf => omega); (case hs => with_unfolding_all rfl); (case hg => (intro _; with_unfolding_all rfl)); intro t')))
local macro_rules | `(tactic| walk_at "subscriptTail Name Slice ref ref") => `(tactic| (k_here; k_dflt (first
  | (refine' cut_last (s := ⟨_, _, _, _, _⟩) ?F ?N ?hm ?hi ?hz ?_ ?hs ?ht; (case F => k_asm); (case N => k_asm); (case hm => k_mem); (case hi => with_reducible assumption); (case hz => with_reducible assumption); (case hs => with_unfolding_all rfl); (case ht => (intro _; with_unfolding_all rfl)); intro D ws2 h' F' N' l1 hI2)
  | (refine' cut_but (s := ⟨_, _, _, _, _⟩) ?F ?N ?hm ?hi ?hz ?_ ?hs ?ht; (case F => k_asm); (case N => k_asm); (case hm => k_mem); (case hi => with_reducible assumption); (case hz => with_reducible assumption); (case hs => with_unfolding_all rfl); (case ht => (intro _; with_unfolding_all rfl)); intro D ws2 h' F' N' l1 hI2))))
local macro_rules | `(tactic| walk_at "compareOp NotEq ref ref") => `(tactic| (k_here; k_dflt (refine' ne_same ?N ?a ?b ?i ?j ?u ?_; (case N => k_asm); (case a => k_mem); (case b => k_mem); (case i => with_reducible assumption); (case j => exact .cons _ _ .nil); (case u => ktr_units))))
local macro_rules | `(tactic| walk_at "callWith") => `(tactic| (k_here; (with_reducible show wpAny _ _ (callWith _ (Value.builtin "dict.update") [Value.ref _] (backTo _ (starEach (_ :: _) _)) []) _ _ _); k_dflt (refine callWith_method1 ?_)))
theorem fmod3 (x : Int) : x.fmod 3 = 0 ∨ x.fmod 3 = 1 ∨ x.fmod 3 = 2 := by
  rw [Int.fmod_eq_emod_of_nonneg _ (by decide)]
  omega
theorem times3 (x : Int) : ∃ n : Nat, 1 + x.fmod 3 = (n : Int) ∧ 1 ≤ n ∧ n ≤ 3 := by
  rcases fmod3 x with e | e | e
  · exact ⟨1, by rw [e]; rfl, by decide, by decide⟩
  · exact ⟨2, by rw [e]; rfl, by decide, by decide⟩
  · exact ⟨3, by rw [e]; rfl, by decide, by decide⟩

local macro_rules | `(tactic| walk_at "call ref") => `(tactic| (k_here; k_dflt (first
  | (refine' gives_use0 (f := 128) ?B ?F ?X ?N ?T ?k ?C ?d ?u ?_; (case B => k_asm); (case F => k_asm); (case X => k_asm); (case N => k_asm); (case T => k_asm); (case k => first | exact rfl | assumption); (case C => exact k_word _ _ _ _ _ _ _); (case d => exact Nat.le_of_ble_eq_true rfl); (case u => exact Nat.le_of_ble_eq_true rfl); rintro r' h' tk' F' N' ⟨z', t', e', hz', hs', ho'⟩; subst e')
  | (refine' gives_use0 (f := 114) ?B ?F ?X ?N ?T ?k ?C ?d ?u ?_; (case B => k_asm); (case F => k_asm); (case X => k_asm); (case N => k_asm); (case T => k_asm); (case k => first | exact rfl | assumption); (case C => exact k_attribC _ _ _ _ _ _ (by with_reducible assumption) _); (case d => exact Nat.le_of_ble_eq_true rfl); (case u => exact Nat.le_of_ble_eq_true rfl); rintro r' h' tk' F' N' ⟨z', t', e', hz', hs'⟩; subst e')
  | (refine' gives_use0 (f := 93) ?B ?F ?X ?N ?T ?k ?C ?d ?u ?_; (case B => k_asm); (case F => k_asm); (case X => k_asm); (case N => k_asm); (case T => k_asm); (case k => first | exact rfl | assumption); (case C => exact k_attrib _ _ _ _ _ _ (by with_reducible assumption) _); (case d => exact Nat.le_of_ble_eq_true rfl); (case u => exact Nat.le_of_ble_eq_true rfl); rintro r' h' tk' F' N' ⟨z', t', e', hz', hs'⟩; subst e')
  | (refine' gives_use0 (f := 100) ?B ?F ?X ?N ?T ?k ?C ?d ?u ?_; (case B => k_asm); (case F => k_asm); (case X => k_asm); (case N => k_asm); (case T => k_asm); (case k => first | exact rfl | assumption); (case C => exact k_html _ _ _ _ _ _ (by with_reducible assumption) _); (case d => exact Nat.le_of_ble_eq_true rfl); (case u => exact Nat.le_of_ble_eq_true rfl); rintro r' h' tk' F' N' ⟨z', t', e', hz', hs'⟩; subst e')
  | (refine' gives_use0 (f := 107) ?B ?F ?X ?N ?T ?k ?C ?d ?u ?_; (case B => k_asm); (case F => k_asm); (case X => k_asm); (case N => k_asm); (case T => k_asm); (case k => first | exact rfl | assumption); (case C => exact k_cdataC _ _ _ _ _ _ (by with_reducible assumption) _); (case d => exact Nat.le_of_ble_eq_true rfl); (case u => exact Nat.le_of_ble_eq_true rfl); rintro r' h' tk' F' N' ⟨z', t', e', hz', hs'⟩; subst e')
  | (refine' gives_use0 (f := 86) ?B ?F ?X ?N ?T ?k ?C ?d ?u ?_; (case B => k_asm); (case F => k_asm); (case X => k_asm); (case N => k_asm); (case T => k_asm); (case k => first | exact rfl | assumption); (case C => exact k_cdata _ _ _ _ _ _ (by with_reducible assumption) _); (case d => exact Nat.le_of_ble_eq_true rfl); (case u => exact Nat.le_of_ble_eq_true rfl); rintro r' h' tk' F' N' ⟨z', t', e', hz', hs'⟩; subst e')
  | (refine' gives_use0 (f := 177) ?B ?F ?X ?N ?T ?k ?C ?d ?u ?_; (case B => k_asm); (case F => k_asm); (case X => k_asm); (case N => k_asm); (case T => k_asm); (case k => first | exact rfl | assumption); (case C => exact k_plain _ _ _ _ _ _ (by with_reducible assumption) _); (case d => exact Nat.le_of_ble_eq_true rfl); (case u => exact Nat.le_of_ble_eq_true rfl); rintro r' h' tk' F' N' ⟨z', t', e', hz'⟩; subst e'))))
local macro_rules | `(tactic| walk_at "call builtin:len") => `(tactic| (k_here; k_dflt (refine' len_any ?N ?hm ?hl ?h9 ?_; (case N => k_asm); (case hm => k_mem); (case hl => with_reducible assumption); (case h9 => omega))))
local macro_rules | `(tactic| walk_at "subscriptTail Name BinOp ref int") => `(tactic| (k_here; k_dflt (refine' nine_item ?N ?hm ?hi ?h0 ?h1 ?hf ?_ ?hs ?hg; (case N => k_asm); (case hm => k_mem); (case hi => with_reducible assumption); (case h0 => omega); (case h1 => omega); (case hf => omega); (case hs => with_unfolding_all rfl); (case hg => (intro _; with_unfolding_all rfl)); intro t')))
local macro_rules | `(tactic| walk_at "subscriptTail Name Name ref int") => `(tactic| (k_here; k_dflt (refine' spell_get ?N ?hm ?hd ?hf ?lo ?hx ?_ ?hs ?hg; (case N => k_asm); (case hm => k_mem); (case hd => with_reducible assumption); (case hf => with_reducible assumption); (case lo => with_reducible assumption); (case hx => with_reducible assumption); (case hs => with_unfolding_all rfl); (case hg => (intro _; with_unfolding_all rfl)); intro z' t' k' hz' hs')))
local macro_rules | `(tactic| walk_at "compareOp Eq int int") => `(tactic| (k_here; k_dflt (first | (refine' eq_known ?b ?_; (case b => with_reducible assumption)) | (refine' eq_known (v := true) ?b ?_; (case b => exact rfl)) | (refine' eq_known (v := false) ?b ?_; (case b => exact rfl)))))
local macro_rules | `(tactic| walk_at "binaryOp Add str str") => `(tactic| (k_here; k_dflt (refine' add_sz ?hx ?hy ?_; (case hx => omega); (case hy => omega); intro t' k' z' hz' hs')))
local macro_rules | `(tactic| walk_at "call builtin:list.append") => `(tactic| (k_here; (with_reducible show wpAny _ _ (call (Value.builtin _) [Value.ref _, _]) _ _ _); k_dflt (refine' app_list ?F ?N ?U ?z ?_; (case F => k_asm); (case N => k_asm); (case U => k_upd); (case z => omega)); intro h' F' N'))
local macro_rules | `(tactic| walk_at "G2") => `(tactic| repeat' ((fail_if_success (with_reducible show wpAny _ _ (exec (Stmt.If _ _ _ _) _) _ _ _)); (fail_if_success (with_reducible show wpAny _ _ (exec (Stmt.AugAssign _ _ _ _) _) _ _ _)); first | ((with_reducible refine wpAny_execs_cons ?_); (try dsimp only)) | (k_unfold; (try dsimp only)) | walk1 | (dsimp only; walk1) | (leave1; try dsimp only) | fail "no step"))
local macro_rules | `(tactic| walk_at "G3") => `(tactic| repeat' ((fail_if_success (with_reducible show wpAny _ _ (pyIter (Value.ref _)) _ _ _)); first | ((with_reducible refine wpAny_execs_cons ?_); (try dsimp only)) | (k_unfold; (try dsimp only)) | walk1 | (dsimp only; walk1) | (leave1; try dsimp only) | fail "no step"))
local macro_rules | `(tactic| walk_at "call ref") => `(tactic| (k_here; k_dflt (refine' gives_use0 (f := 72) ?B ?F ?X ?N ?T ?k ?C ?d ?u ?_; (case B => k_asm); (case F => k_asm); (case X => k_asm); (case N => k_asm); (case T => k_asm); (case k => first | exact rfl | assumption); (case C => exact k_quote _ _ _ _ _ _ _ _ (by with_reducible assumption) (by with_reducible assumption) (by with_reducible assumption) _); (case d => exact Nat.le_of_ble_eq_true rfl); (case u => exact Nat.le_of_ble_eq_true rfl); rintro r' h' tk' F' N' ⟨z', t', e', hz'⟩; subst e')))
local macro_rules | `(tactic| walk_at "compareOp Eq ref ref") => `(tactic| (k_here; k_dflt (refine' pair_eq ?N ?a ?r ?t ?hI ?hT ?a1 ?r1 ?t1 ?hI1 ?hT1 ?ho ?u ?_; (case N => k_asm); (case a => k_mem); (case r => k_mem); (case t => k_mem); (case hI => with_reducible assumption); (case hT => with_reducible assumption); (case a1 => k_mem); (case r1 => k_mem); (case t1 => k_mem); (case hI1 => with_reducible assumption); (case hT1 => with_reducible assumption); (case ho => with_reducible assumption); (case u => ktr_units))))
theorem law_holds : PySem.Challenge.rw_st0020_01.Holds := by
  w_top off
  w_on
  refine holds_law Mine.well_said fun said => ?_
  refine' holds_open (q := Mine.vw) (loose := [Str.ofString "EXACT_TOKEN_TYPES", Str.ofString "_twin_re_1", Str.ofString "_twin_re_2"]) (Xt := fun s => xlAt Mine.vw [] s && recOk (RowW.records (OpenRow.toRowW PySem.Challenge.rw_st0020_01.row)) s) (XP := XL Mine.vw []) (Yf := Hook.obs (kHook Mine.hk.heap_1 Mine.addrs Mine.addrs_eq)) (Ya := Hook.val (kHook Mine.hk.heap_1 Mine.addrs Mine.addrs_eq)) (YP := Hook.says (kHook Mine.hk.heap_1 Mine.addrs Mine.addrs_eq)) (N := 4606) Mine.top_left (Hook.of (kHook Mine.hk.heap_1 Mine.addrs Mine.addrs_eq)) (Hook.keeps (kHook Mine.hk.heap_1 Mine.addrs Mine.addrs_eq)) (fun s e => xl_of s (Bool.and_eq_true_iff.mp e).1) XL.keeps (by rfl) (by rfl) (by rfl) (fun s e => recFacts_of (Bool.and_eq_true_iff.mp e).2) (by rfl) said (by decide +kernel) ⟨rfl, rfl, rfl, rfl, rfl, by decide +kernel⟩ ?hw ?hc
  case hw => w_witness2
  case hc =>
    k_go0
    rename ¬ _ < _ => hn63
    k_steps
    rename_i cA _ _ _ _
    refine' c_cells _ _ _ _ _ _ _ _ ?hi ?hn _ _ ?hc ?h9 _ _ ?hlo _ _ _ _ _ _ _ _ _ _ _ _ _ _ _ _ _ ?B ?F ?X ?hL ?N ?T ?k0 ?d0 ?u0 ?_
    case F => k_asm
    case N => k_asm
    case B => k_asm
    case hL => assumption
    case hi => assumption
    case hn => (rename IntsAre _ _ => hIw; omega)
    case T => k_asm
    case k0 => exact rfl
    case X => k_asm
    case hc => exact (.cons _ _ (.cons _ _ (.cons _ _ (.cons _ _ (.cons _ _ (.cons _ _ (.cons _ _ (.cons _ _ (.cons _ _ .nil)))))))))
    case h9 => exact rfl
    case hlo => exact List.forall_mem_nil _
    case d0 => ktr_room
    case u0 => ktr_units
    intro hC tkC us cs nC FC NC hI9 h9
    walk_at "ToIf"

    obtain ⟨way, hway⟩ : ∃ way, (cs.getD (Int.toNat 0) 0).fmod 3 = way := ⟨_, rfl⟩
    obtain ⟨times, htimes, ht1, ht3⟩ := times3 ((cs.getD (Int.toNat 0) 0).fdiv 3)
    have hw3 := fmod3 (cs.getD (Int.toNat 0) 0)
    rw [hway] at hw3
    rename_i dtA _ _ _ dt lot hdt hft apt lt1 dvA _ _ _ dv lov hdv hfv apv lv1 hN FN NN _ _
    rw [hway, htimes] at FN
    obtain ⟨kvt, hkt, hnt⟩ : ∃ kvs, dt.IsDictOf (PySem.strKind Challenge.rw_st0020_01.row.prog _) kvs ∧ PyProof.V.FlatPairs PyData.str kvs [(.str (Str.ofString "&amp;"), .str (Str.ofString "&")), (.str (Str.ofString "&lt;"), .str (Str.ofString "<")), (.str (Str.ofString "&gt;"), .str (Str.ofString ">"))] := ⟨_, hdt, hft⟩
    obtain ⟨kvv, hkv, hnv⟩ : ∃ kvs, dv.IsDictOf (PySem.strKind Challenge.rw_st0020_01.row.prog _) kvs ∧ PyProof.V.FlatPairs PyData.str kvs [(.str (Str.ofString "&amp;"), .str (Str.ofString "&")), (.str (Str.ofString "&quot;"), .str (Str.ofString "\""))] := ⟨_, hdv, hfv⟩
    clear hway htimes hdt hft hdv hfv apt apv
    dsimp only at FN
    generalize dtA.objs.size = ta at FN NN lot lt1 lv1
    generalize dvA.objs.size = va at FN NN lov lv1
    refine' through_if FN cA us nC ta va way ?run ?cont
    case run =>
      rcases hw3 with rfl | rfl | rfl
      · k_steps
        refine' if_end ?f1 ?f2 ?f3 ?f4 ?f5 ?f6 ?f7 (names_of ?f8 [(Str.ofString "&amp;", Str.ofString "&"), (Str.ofString "&lt;", Str.ofString "<"), (Str.ofString "&gt;", Str.ofString ">"), (Str.ofString "&#xD;", Str.ofString "\r")] _ ?e1 ?f9) (names_of ?f10 [(Str.ofString "&amp;", Str.ofString "&"), (Str.ofString "&quot;", Str.ofString "\""), (Str.ofString "&lt;", Str.ofString "<"), (Str.ofString "&#x9;", Str.ofString "\t"), (Str.ofString "&#xA;", Str.ofString "\n"), (Str.ofString "&#xD;", Str.ofString "\r")] _ ?e2 ?f11)
        case f1 => k_asm
        case f2 => k_asm
        case f3 => k_mem
        case f4 => k_mem
        case f5 => k_mem
        case f6 => assumption
        case f7 => assumption
        case f8 => assumption
        case f10 => assumption
        case e1 => kernel_rfl
        case e2 => kernel_rfl
        case f9 => decide +kernel
        case f11 => decide +kernel
      · k_steps
        refine' if_end ?f1 ?f2 ?f3 ?f4 ?f5 ?f6 ?f7 (names_of ?f8 [(Str.ofString "&amp;", Str.ofString "&"), (Str.ofString "&lt;", Str.ofString "<"), (Str.ofString "&gt;", Str.ofString ">")] _ ?e1 ?f9) (names_of ?f10 [(Str.ofString "&amp;", Str.ofString "&"), (Str.ofString "&quot;", Str.ofString "\""), (Str.ofString "&lt;", Str.ofString "<"), (Str.ofString "&gt;", Str.ofString ">"), (Str.ofString "&#09;", Str.ofString "\t"), (Str.ofString "&#10;", Str.ofString "\n"), (Str.ofString "&#13;", Str.ofString "\r")] _ ?e2 ?f11)
        case f1 => k_asm
        case f2 => k_asm
        case f3 => k_mem
        case f4 => k_mem
        case f5 => k_mem
        case f6 => assumption
        case f7 => assumption
        case f8 => assumption
        case f10 => assumption
        case e1 => kernel_rfl
        case e2 => kernel_rfl
        case f9 => decide +kernel
        case f11 => decide +kernel
      · k_steps
        refine' if_end ?f1 ?f2 ?f3 ?f4 ?f5 ?f6 ?f7 (names_of ?f8 [(Str.ofString "&amp;", Str.ofString "&"), (Str.ofString "&lt;", Str.ofString "<"), (Str.ofString "&gt;", Str.ofString ">")] _ ?e1 ?f9) (names_of ?f10 [(Str.ofString "&amp;", Str.ofString "&"), (Str.ofString "&quot;", Str.ofString "\""), (Str.ofString "&gt;", Str.ofString ">")] _ ?e2 ?f11)
        case f1 => k_asm
        case f2 => k_asm
        case f3 => k_mem
        case f4 => k_mem
        case f5 => k_mem
        case f6 => assumption
        case f7 => assumption
        case f8 => assumption
        case f10 => assumption
        case e1 => kernel_rfl
        case e2 => kernel_rfl
        case f9 => decide +kernel
        case f11 => decide +kernel
    case cont =>
      rintro hp tkp FP ⟨news, ot, kvt, ov, kvv, NP, hcm, htm, hvm, hdt, hdv, hNt, hNv⟩
      clear FN NN hkt hkv hnt hnv lt1 lv1
      k_steps
      refine' gives_use1 (f := 149) (σ := List Value × Nat) (O := fun p => listOf p.1.toArray p.2) (Post := fun p => ∃ rq, IntsAre p.1 (rq ++ [0]) ∧ Der 2 [256] rq ∧ rq.length ≤ 100) ?B ?F ?X ?N ?T ?k5 ?C5 ?d5 ?u5 ?_
      case B => k_asm
      case F => k_asm
      case X => k_asm
      case N => k_asm
      case T => k_asm
      case k5 => exact rfl
      case C5 => exact c_derived _ _ _ _ _ _ _
      case d5 => ktr_room
      case u5 => ktr_units
      rintro rA hR tkR ⟨rv, nR⟩ FR NR lR ⟨rq, hrI, hder, hrl⟩
      dsimp only at NR hrI
      k_steps
      rename_i dueA _ lDue _ _ _ tkM _ _ sA ws _ FS NS lS hIs
      obtain ⟨kvs, hsd, hsf⟩ : ∃ kvs, Obj.IsDictOf (intKind Challenge.rw_st0020_01.row.prog _) _ kvs ∧ PyProof.V.FlatPairs PyData.int kvs spD := ⟨_, by assumption, by assumption⟩
      refine' iter_mail (Str.ofString "mail") [(Str.ofString "cells", .ref cA), (Str.ofString "due", .ref dueA), (Str.ofString "way", .int way _), (Str.ofString "spelled", .ref _), (Str.ofString "times", .int times _), (Str.ofString "texts", .ref ta), (Str.ofString "values", .ref va), (Str.ofString "row", .ref rA)] (MailAt way rq) ?hh FS NS lS ?hlt ⟨_, ?hps, mailAt_zero way rq _⟩ ?turn ?done
      case hh => exact rfl
      case hlt => (intro p h; refine Nat.ne_of_lt (allLt_mem _ ?_ p h); exact lDue)
      case hps =>
        (repeat' (first | exact List.forall_mem_nil _ | (refine List.forall_mem_cons.mpr ⟨?_, ?_⟩; (with_unfolding_all rfl))))
      case turn =>
        rintro i v z ds n h g d tk o own M K hv hne ⟨raws, zs, tz, rfl, hok, hcode, hmail, hds, hol⟩ F3 N3 back
        clear FS NS lS lDue
        obtain ⟨x, tx, rfl, hsy⟩ := ints_at hIs hv
        clear hv
        obtain ⟨k, hk⟩ : ∃ k, ds.length = k := ⟨_, rfl⟩
        obtain ⟨b1, b2, b3⟩ := mailAt_len hw3 hder hrl hok hcode hmail hds
        have hq1 : (Str.ofString "\"").cps.size = 1 := by decide +kernel
        have hq34 : (Str.ofString "\"").cps.toList = [34] := by decide +kernel
        have hterm := hder.all x (List.mem_of_getElem? hsy)
        by_cases h253 : x = 253
        · subst h253
          have hk7 := word_room hder hsy rfl
          rw [← b1, hk] at hk7
          walk_at "G2"
          walk1
          walk_at "G2"
          rcases hw3 with rfl | rfl | rfl
          · walk_at "G3"
            refine' back _ _ _ _ _ _ ?w1_1 ?w1_2 ?w1_3 (mailAt_val hok hcode hmail hds hol hsy ?w1_5 ?w1_8 ?w1_6 ?w1_7)
            case w1_1 => k_asm
            case w1_2 => k_asm
            case w1_3 => (repeat' (first | exact List.forall_mem_nil _ | (refine List.forall_mem_cons.mpr ⟨?_, ?_⟩; (with_unfolding_all rfl))))
            case w1_5 => with_reducible assumption
            case w1_8 => with_reducible assumption
            case w1_6 => (clear back; simp [*, hq34, tabV])
            case w1_7 => (simp only [fixV]; first | exact rfl | assumption)
          · walk_at "G3"
            refine' back _ _ _ _ _ _ ?w2_1 ?w2_2 ?w2_3 (mailAt_val hok hcode hmail hds hol hsy ?w2_5 ?w2_8 ?w2_6 ?w2_7)
            case w2_1 => k_asm
            case w2_2 => k_asm
            case w2_3 => (repeat' (first | exact List.forall_mem_nil _ | (refine List.forall_mem_cons.mpr ⟨?_, ?_⟩; (with_unfolding_all rfl))))
            case w2_5 => with_reducible assumption
            case w2_8 => with_reducible assumption
            case w2_6 => (clear back; simp [*, hq34, tabV])
            case w2_7 => (simp only [fixV]; first | exact rfl | assumption)
          · walk_at "G3"
            refine' back _ _ _ _ _ _ ?w3_1 ?w3_2 ?w3_3 (mailAt_val hok hcode hmail hds hol hsy ?w3_5 ?w3_8 ?w3_6 ?w3_7)
            case w3_1 => k_asm
            case w3_2 => k_asm
            case w3_3 => (repeat' (first | exact List.forall_mem_nil _ | (refine List.forall_mem_cons.mpr ⟨?_, ?_⟩; (with_unfolding_all rfl))))
            case w3_5 => with_reducible assumption
            case w3_8 => with_reducible assumption
            case w3_6 => (clear back; simp [*, hq34, tabV])
            case w3_7 => (simp only [fixV]; first | exact rfl | assumption)
        by_cases h255 : x = 255
        · subst h255
          have hk7 := word_room hder hsy rfl
          rw [← b1, hk] at hk7
          walk_at "G2"
          walk1
          walk_at "G2"
          walk1
          walk_at "G2"
          rcases hw3 with rfl | rfl | rfl
          · walk_at "G3"
            refine' back _ _ _ _ _ _ ?w4_1 ?w4_2 ?w4_3 (mailAt_txt hok hcode hmail hds hol hsy ?w4_5 ?w4_8 ?w4_6 ?w4_7)
            case w4_1 => k_asm
            case w4_2 => k_asm
            case w4_3 => (repeat' (first | exact List.forall_mem_nil _ | (refine List.forall_mem_cons.mpr ⟨?_, ?_⟩; (with_unfolding_all rfl))))
            case w4_5 => with_reducible assumption
            case w4_8 => with_reducible assumption
            case w4_6 => (clear back; simp [*, hq34, tabT])
            case w4_7 => (simp only [fixT]; first | exact rfl | assumption)
          · walk_at "G3"
            refine' back _ _ _ _ _ _ ?w5_1 ?w5_2 ?w5_3 (mailAt_txt hok hcode hmail hds hol hsy ?w5_5 ?w5_8 ?w5_6 ?w5_7)
            case w5_1 => k_asm
            case w5_2 => k_asm
            case w5_3 => (repeat' (first | exact List.forall_mem_nil _ | (refine List.forall_mem_cons.mpr ⟨?_, ?_⟩; (with_unfolding_all rfl))))
            case w5_5 => with_reducible assumption
            case w5_8 => with_reducible assumption
            case w5_6 => (clear back; simp [*, hq34, tabT])
            case w5_7 => (simp only [fixT]; first | exact rfl | assumption)
          · walk_at "G3"
            refine' back _ _ _ _ _ _ ?w6_1 ?w6_2 ?w6_3 (mailAt_txt hok hcode hmail hds hol hsy ?w6_5 ?w6_8 ?w6_6 ?w6_7)
            case w6_1 => k_asm
            case w6_2 => k_asm
            case w6_3 => (repeat' (first | exact List.forall_mem_nil _ | (refine List.forall_mem_cons.mpr ⟨?_, ?_⟩; (with_unfolding_all rfl))))
            case w6_5 => with_reducible assumption
            case w6_8 => with_reducible assumption
            case w6_6 => (clear back; simp [*, hq34, tabT])
            case w6_7 => (simp only [fixT]; first | exact rfl | assumption)
        have hx6 := sym6 hterm h253 h255
        have f253 := int_false h253
        have f255 := int_false h255
        walk_at "G3"
        refine' back _ _ _ _ _ _ ?e7_1 ?e7_2 ?e7_3 (mailAt_sym hok hcode hmail hds hol hsy hx6 ?e7_6)
        case e7_1 => k_asm
        case e7_2 => k_asm
        case e7_3 => (repeat' (first | exact List.forall_mem_nil _ | (refine List.forall_mem_cons.mpr ⟨?_, ?_⟩; (with_unfolding_all rfl))))
        case e7_6 => (clear back; simp [*])
      case done =>
        rintro M z ds n h4 tk4 ⟨raws, zs, tz, rfl, hok, hcode, hmail, hds, hol⟩ F4 N4
        obtain ⟨b1, b2, b3⟩ := mailAt_len hw3 hder hrl hok hcode hmail hds
        have hcode2 : raws.map code = rq := by
          rw [hcode]
          refine List.take_of_length_le ?_
          have := hIs.length
          simp; omega
        have b4 : zs.cps.toList.length ≤ 1000 := by rw [← sz_toList]; omega
        clear FS NS lS lDue b1 b2 b3
        k_steps
        rename_i hR F5 N5 _
        refine' iter_rangeE (Str.ofString "mail") [(Str.ofString "cells", .ref cA), (Str.ofString "due", .ref dueA), (Str.ofString "times", .int times _), (Str.ofString "texts", .ref ta), (Str.ofString "values", .ref va), (Str.ofString "row", .ref rA)] (fun j v => ∃ z t, v = .str z t ∧ z.cps.toList = sent j zs.cps.toList) ?hh2 hR ?hn2 F5 N5 ⟨_, ?hps2, zs, tz, rfl, rfl⟩ ?turn2 ?done2
        case hh2 => exact rfl
        case hn2 => omega
        case hps2 => (repeat' (first | exact List.forall_mem_nil _ | (refine List.forall_mem_cons.mpr ⟨?_, ?_⟩; (with_unfolding_all rfl))))
        case turn2 =>
          rintro j v h5 tk5 own2 M2 K2 t2 hj ⟨zj, tj, rfl, hzj⟩ F6 N6 back2
          have hj3 : j ≤ 3 := by omega
          walk_at "G3"
          refine' back2 _ _ _ _ ?r1 ?r2 ?r3 ⟨_, _, rfl, ?r5⟩
          case r1 => k_asm
          case r2 => k_asm
          case r3 => (repeat' (first | exact List.forall_mem_nil _ | (refine List.forall_mem_cons.mpr ⟨?_, ?_⟩; (with_unfolding_all rfl))))
          case r5 => with_reducible assumption
        case done2 =>
          rintro M3 v h5 tk5 ⟨zf, tf, rfl, hzf⟩ F7 N7
          k_steps
          refine' gives_use0 (f := 156) ?Br6 ?Fr6 ?Xr6 ?Nr6 ?Tr6 ?kr6 ?Cr6 ?dr6 ?ur6 ?_
          case Fr6 => k_asm
          case Nr6 => k_asm
          case Br6 => k_asm
          case Xr6 => k_asm
          case Tr6 => k_asm
          case kr6 => exact rfl
          case Cr6 => exact k_recv _ _ _ _ _ _ _ _ _ hzf b4 ht3 ht1 _
          case dr6 => ktr_room
          case ur6 => ktr_units
          rintro r6 h6 tk6 F8 N8 ⟨pg, tpg, rfl, hpg, hpz⟩
          obtain ⟨q1, q2, q3⟩ := mail_read hw3 hder hok hcode2
          rw [hmail, q1] at hpg
          obtain ⟨g1, g2, g3, g4, g5, g6⟩ := tab_good hw3
          have hder2 : Der 2 [256] ((raws.map (fixI (fixT way) (fixV way))).map code) := by rw [q3]; exact hder
          have hpz2 : pg.cps.size ≤ 100000 := Nat.le_trans hpz (by decide)
          k_steps
          refine' gives_use (f := 170) ?Br7 ?Fr7 ?Xr7 ?Nr7 ?Tr7 ?kr7 ?Cr7 ?dr7 ?ur7 ?_
          case Fr7 => k_asm
          case Nr7 => k_asm
          case Br7 => k_asm
          case Xr7 => k_asm
          case Tr7 => k_asm
          case kr7 => exact rfl
          case Cr7 => exact c_read _ _ _ _ pg tpg hpz2 (raws.map (fixI (fixT way) (fixV way))) (tabT way) (tabV way) g1 g2 hpg q2 hder2 ta va ot ov kvt kvv _ (by k_mem) (by k_mem) hdt hdv hNt hNv lot lov
          case dr7 => ktr_room
          case ur7 => ktr_units
          rintro r7 h7 tk7 own7 F9 N9 l9 ⟨lR, rA2, wA2, rv2, n12, wv2, n32, rfl, rfl, hI2, hT2⟩
          rw [q3] at hI2
          simp only [List.cons_append, List.nil_append] at N9
          k_steps
          (refine goodW_bool (by assumption) (by assumption) (raisesW_false ?_) ?_; (· wrow_none_raised); (· kernel_rfl))

end
end Mine
end
open PySem PySem.W PyProof.Rows
theorem PySem.Challenge.cw_st0020_01_holds : PySem.Challenge.rw_st0020_01.Holds := by
  exact Mine.law_holds
