import PyProof.Rows.All
import Wide.All
import OpenK.AllK
import Wide.FinOn
import Lean
import PySem.Challenge.RW_pe0251_01
open PySem PySem.W PyProof.Rows PySem.Calls PySem.Spec
set_option Elab.async false
set_option maxRecDepth 100000
namespace Mine
def headStmt (i : Nat) : Stmt := (PySem.Challenge.pw_pe0251_01.main.body.drop i).headD (.Return none default)
def headIn : Stmt → Nat → Stmt
  | .ClassDef _ _ _ b _ _ _ _ _ _ _, j => (b.drop j).headD (.Return none default)
  | s, _ => s
def headInner (i j : Nat) : Stmt := headIn (headStmt i) j
def headFnP : Stmt → Arguments
  | .FunctionDef _ a _ _ _ _ _ _ _ _ => a
  | _ => default
def headFnB : Stmt → List Stmt
  | .FunctionDef _ _ b _ _ _ _ _ _ _ => b
  | _ => []
def headFnS : Stmt → Scope
  | .FunctionDef _ _ _ _ _ _ s _ _ _ => s
  | _ => default
def headLit {x : Stmt} (mk : Arguments → List Stmt → Scope → Obj) {p : Arguments} {b : List Stmt} {s : Scope} (_ : headFnP x = p) (_ : headFnB x = b) (_ : headFnS x = s) : Obj := mk p b s
def headV : Program := { PySem.Challenge.pw_pe0251_01 with main := { PySem.Challenge.pw_pe0251_01.main with body := ([0, 2, 3, 4, 6] ++ (List.range' 8 51 ++ List.range' 60 11)).map headStmt } }
noncomputable def o0_0 (P : Params) : Obj := Obj.mk (Value.type "dict") Option.none (Data.dict #[DictEntry.mk (PyData.keyHash P (Str.ofString "__name__")) (Value.str (Str.ofString "__name__") 1) (Value.str (Str.ofString "builtins") 160), DictEntry.mk (PyData.keyHash P (Str.ofString "__doc__")) (Value.str (Str.ofString "__doc__") 2) (Value.builtin "builtins.__doc__:str#opaque"), DictEntry.mk (PyData.keyHash P (Str.ofString "__package__")) (Value.str (Str.ofString "__package__") 3) (Value.builtin "builtins.__package__:str#opaque"), DictEntry.mk (PyData.keyHash P (Str.ofString "__loader__")) (Value.str (Str.ofString "__loader__") 4) (Value.builtin "builtins.__loader__:shared#opaque"), DictEntry.mk (PyData.keyHash P (Str.ofString "__spec__")) (Value.str (Str.ofString "__spec__") 5) (Value.builtin "builtins.__spec__#opaque"), DictEntry.mk (PyData.keyHash P (Str.ofString "__build_class__")) (Value.str (Str.ofString "__build_class__") 6) (Value.builtin "__build_class__"), DictEntry.mk (PyData.keyHash P (Str.ofString "__\x69mport__")) (Value.str (Str.ofString "__\x69mport__") 7) (Value.builtin "__\x69mport__"), DictEntry.mk (PyData.keyHash P (Str.ofString "abs")) (Value.str (Str.ofString "abs") 8) (Value.builtin "abs"), DictEntry.mk (PyData.keyHash P (Str.ofString "all")) (Value.str (Str.ofString "all") 9) (Value.builtin "all"), DictEntry.mk (PyData.keyHash P (Str.ofString "any")) (Value.str (Str.ofString "any") 10) (Value.builtin "any"), DictEntry.mk (PyData.keyHash P (Str.ofString "ascii")) (Value.str (Str.ofString "ascii") 11) (Value.builtin "ascii"), DictEntry.mk (PyData.keyHash P (Str.ofString "bin")) (Value.str (Str.ofString "bin") 12) (Value.builtin "bin"), DictEntry.mk (PyData.keyHash P (Str.ofString "breakpoint")) (Value.str (Str.ofString "breakpoint") 13) (Value.builtin "breakpoint"), DictEntry.mk (PyData.keyHash P (Str.ofString "callable")) (Value.str (Str.ofString "callable") 14) (Value.builtin "callable"), DictEntry.mk (PyData.keyHash P (Str.ofString "chr")) (Value.str (Str.ofString "chr") 15) (Value.builtin "chr"), DictEntry.mk (PyData.keyHash P (Str.ofString "compile")) (Value.str (Str.ofString "compile") 16) (Value.builtin "compile"), DictEntry.mk (PyData.keyHash P (Str.ofString "delattr")) (Value.str (Str.ofString "delattr") 17) (Value.builtin "delattr"), DictEntry.mk (PyData.keyHash P (Str.ofString "dir")) (Value.str (Str.ofString "dir") 18) (Value.builtin "dir"), DictEntry.mk (PyData.keyHash P (Str.ofString "divmod")) (Value.str (Str.ofString "divmod") 19) (Value.builtin "divmod"), DictEntry.mk (PyData.keyHash P (Str.ofString "eval")) (Value.str (Str.ofString "eval") 20) (Value.builtin "eval"), DictEntry.mk (PyData.keyHash P (Str.ofString "exec")) (Value.str (Str.ofString "exec") 21) (Value.builtin "exec"), DictEntry.mk (PyData.keyHash P (Str.ofString "format")) (Value.str (Str.ofString "format") 22) (Value.builtin "format"), DictEntry.mk (PyData.keyHash P (Str.ofString "getattr")) (Value.str (Str.ofString "getattr") 23) (Value.builtin "getattr"), DictEntry.mk (PyData.keyHash P (Str.ofString "globals")) (Value.str (Str.ofString "globals") 24) (Value.builtin "globals"), DictEntry.mk (PyData.keyHash P (Str.ofString "hasattr")) (Value.str (Str.ofString "hasattr") 25) (Value.builtin "hasattr"), DictEntry.mk (PyData.keyHash P (Str.ofString "hash")) (Value.str (Str.ofString "hash") 26) (Value.builtin "hash"), DictEntry.mk (PyData.keyHash P (Str.ofString "hex")) (Value.str (Str.ofString "hex") 27) (Value.builtin "hex"), DictEntry.mk (PyData.keyHash P (Str.ofString "id")) (Value.str (Str.ofString "id") 28) (Value.builtin "id"), DictEntry.mk (PyData.keyHash P (Str.ofString "input")) (Value.str (Str.ofString "input") 29) (Value.builtin "input"), DictEntry.mk (PyData.keyHash P (Str.ofString "isinstance")) (Value.str (Str.ofString "isinstance") 30) (Value.builtin "isinstance"), DictEntry.mk (PyData.keyHash P (Str.ofString "issubclass")) (Value.str (Str.ofString "issubclass") 31) (Value.builtin "issubclass"), DictEntry.mk (PyData.keyHash P (Str.ofString "iter")) (Value.str (Str.ofString "iter") 32) (Value.builtin "iter"), DictEntry.mk (PyData.keyHash P (Str.ofString "aiter")) (Value.str (Str.ofString "aiter") 33) (Value.builtin "aiter"), DictEntry.mk (PyData.keyHash P (Str.ofString "len")) (Value.str (Str.ofString "len") 34) (Value.builtin "len"), DictEntry.mk (PyData.keyHash P (Str.ofString "locals")) (Value.str (Str.ofString "locals") 35) (Value.builtin "locals"), DictEntry.mk (PyData.keyHash P (Str.ofString "max")) (Value.str (Str.ofString "max") 36) (Value.builtin "max"), DictEntry.mk (PyData.keyHash P (Str.ofString "min")) (Value.str (Str.ofString "min") 37) (Value.builtin "min"), DictEntry.mk (PyData.keyHash P (Str.ofString "next")) (Value.str (Str.ofString "next") 38) (Value.builtin "next"), DictEntry.mk (PyData.keyHash P (Str.ofString "anext")) (Value.str (Str.ofString "anext") 39) (Value.builtin "anext"), DictEntry.mk (PyData.keyHash P (Str.ofString "oct")) (Value.str (Str.ofString "oct") 40) (Value.builtin "oct"), DictEntry.mk (PyData.keyHash P (Str.ofString "ord")) (Value.str (Str.ofString "ord") 41) (Value.builtin "ord"), DictEntry.mk (PyData.keyHash P (Str.ofString "pow")) (Value.str (Str.ofString "pow") 42) (Value.builtin "pow"), DictEntry.mk (PyData.keyHash P (Str.ofString "print")) (Value.str (Str.ofString "print") 43) (Value.builtin "print"), DictEntry.mk (PyData.keyHash P (Str.ofString "repr")) (Value.str (Str.ofString "repr") 44) (Value.builtin "repr"), DictEntry.mk (PyData.keyHash P (Str.ofString "round")) (Value.str (Str.ofString "round") 45) (Value.builtin "round"), DictEntry.mk (PyData.keyHash P (Str.ofString "setattr")) (Value.str (Str.ofString "setattr") 46) (Value.builtin "setattr"), DictEntry.mk (PyData.keyHash P (Str.ofString "sorted")) (Value.str (Str.ofString "sorted") 47) (Value.builtin "sorted"), DictEntry.mk (PyData.keyHash P (Str.ofString "sum")) (Value.str (Str.ofString "sum") 48) (Value.builtin "sum"), DictEntry.mk (PyData.keyHash P (Str.ofString "vars")) (Value.str (Str.ofString "vars") 49) (Value.builtin "vars"), DictEntry.mk (PyData.keyHash P (Str.ofString "None")) (Value.str (Str.ofString "None") 50) Value.none, DictEntry.mk (PyData.keyHash P (Str.ofString "Ellipsis")) (Value.str (Str.ofString "Ellipsis") 51) Value.ellipsis, DictEntry.mk (PyData.keyHash P (Str.ofString "NotImplemented")) (Value.str (Str.ofString "NotImplemented") 52) Value.notImplemented, DictEntry.mk (PyData.keyHash P (Str.ofString "False")) (Value.str (Str.ofString "False") 53) (Value.bool Bool.false), DictEntry.mk (PyData.keyHash P (Str.ofString "True")) (Value.str (Str.ofString "True") 54) (Value.bool Bool.true), DictEntry.mk (PyData.keyHash P (Str.ofString "bool")) (Value.str (Str.ofString "bool") 55) (Value.type "bool"), DictEntry.mk (PyData.keyHash P (Str.ofString "memoryview")) (Value.str (Str.ofString "memoryview") 56) (Value.type "memoryview"), DictEntry.mk (PyData.keyHash P (Str.ofString "bytearray")) (Value.str (Str.ofString "bytearray") 57) (Value.type "bytearray"), DictEntry.mk (PyData.keyHash P (Str.ofString "bytes")) (Value.str (Str.ofString "bytes") 58) (Value.type "bytes"), DictEntry.mk (PyData.keyHash P (Str.ofString "classmethod")) (Value.str (Str.ofString "classmethod") 59) (Value.type "classmethod"), DictEntry.mk (PyData.keyHash P (Str.ofString "complex")) (Value.str (Str.ofString "complex") 60) (Value.type "complex"), DictEntry.mk (PyData.keyHash P (Str.ofString "dict")) (Value.str (Str.ofString "dict") 61) (Value.type "dict"), DictEntry.mk (PyData.keyHash P (Str.ofString "enumerate")) (Value.str (Str.ofString "enumerate") 62) (Value.type "enumerate"), DictEntry.mk (PyData.keyHash P (Str.ofString "filter")) (Value.str (Str.ofString "filter") 63) (Value.type "filter"), DictEntry.mk (PyData.keyHash P (Str.ofString "float")) (Value.str (Str.ofString "float") 64) (Value.type "float"), DictEntry.mk (PyData.keyHash P (Str.ofString "frozenset")) (Value.str (Str.ofString "frozenset") 65) (Value.type "frozenset"), DictEntry.mk (PyData.keyHash P (Str.ofString "property")) (Value.str (Str.ofString "property") 66) (Value.type "property"), DictEntry.mk (PyData.keyHash P (Str.ofString "int")) (Value.str (Str.ofString "int") 67) (Value.type "int"), DictEntry.mk (PyData.keyHash P (Str.ofString "list")) (Value.str (Str.ofString "list") 68) (Value.type "list"), DictEntry.mk (PyData.keyHash P (Str.ofString "map")) (Value.str (Str.ofString "map") 69) (Value.type "map"), DictEntry.mk (PyData.keyHash P (Str.ofString "object")) (Value.str (Str.ofString "object") 70) (Value.type "object"), DictEntry.mk (PyData.keyHash P (Str.ofString "range")) (Value.str (Str.ofString "range") 71) (Value.type "range"), DictEntry.mk (PyData.keyHash P (Str.ofString "reversed")) (Value.str (Str.ofString "reversed") 72) (Value.type "reversed"), DictEntry.mk (PyData.keyHash P (Str.ofString "set")) (Value.str (Str.ofString "set") 73) (Value.type "set"), DictEntry.mk (PyData.keyHash P (Str.ofString "slice")) (Value.str (Str.ofString "slice") 74) (Value.type "slice"), DictEntry.mk (PyData.keyHash P (Str.ofString "staticmethod")) (Value.str (Str.ofString "staticmethod") 75) (Value.type "staticmethod"), DictEntry.mk (PyData.keyHash P (Str.ofString "str")) (Value.str (Str.ofString "str") 76) (Value.type "str"), DictEntry.mk (PyData.keyHash P (Str.ofString "super")) (Value.str (Str.ofString "super") 77) (Value.type "super"), DictEntry.mk (PyData.keyHash P (Str.ofString "tuple")) (Value.str (Str.ofString "tuple") 78) (Value.type "tuple"), DictEntry.mk (PyData.keyHash P (Str.ofString "type")) (Value.str (Str.ofString "type") 79) (Value.type "type"), DictEntry.mk (PyData.keyHash P (Str.ofString "zip")) (Value.str (Str.ofString "zip") 80) (Value.type "zip"), DictEntry.mk (PyData.keyHash P (Str.ofString "__debug__")) (Value.str (Str.ofString "__debug__") 81) (Value.bool Bool.true), DictEntry.mk (PyData.keyHash P (Str.ofString "BaseException")) (Value.str (Str.ofString "BaseException") 82) (Value.type "BaseException"), DictEntry.mk (PyData.keyHash P (Str.ofString "BaseExceptionGroup")) (Value.str (Str.ofString "BaseExceptionGroup") 83) (Value.type "BaseExceptionGroup"), DictEntry.mk (PyData.keyHash P (Str.ofString "Exception")) (Value.str (Str.ofString "Exception") 84) (Value.type "Exception"), DictEntry.mk (PyData.keyHash P (Str.ofString "GeneratorExit")) (Value.str (Str.ofString "GeneratorExit") 85) (Value.type "GeneratorExit"), DictEntry.mk (PyData.keyHash P (Str.ofString "KeyboardInterrupt")) (Value.str (Str.ofString "KeyboardInterrupt") 86) (Value.type "KeyboardInterrupt"), DictEntry.mk (PyData.keyHash P (Str.ofString "SystemExit")) (Value.str (Str.ofString "SystemExit") 87) (Value.type "SystemExit"), DictEntry.mk (PyData.keyHash P (Str.ofString "ArithmeticError")) (Value.str (Str.ofString "ArithmeticError") 88) (Value.type "ArithmeticError"), DictEntry.mk (PyData.keyHash P (Str.ofString "AssertionError")) (Value.str (Str.ofString "AssertionError") 89) (Value.type "AssertionError"), DictEntry.mk (PyData.keyHash P (Str.ofString "AttributeError")) (Value.str (Str.ofString "AttributeError") 90) (Value.type "AttributeError"), DictEntry.mk (PyData.keyHash P (Str.ofString "BufferError")) (Value.str (Str.ofString "BufferError") 91) (Value.type "BufferError"), DictEntry.mk (PyData.keyHash P (Str.ofString "EOFError")) (Value.str (Str.ofString "EOFError") 92) (Value.type "EOFError"), DictEntry.mk (PyData.keyHash P (Str.ofString "ImportError")) (Value.str (Str.ofString "ImportError") 93) (Value.type "ImportError"), DictEntry.mk (PyData.keyHash P (Str.ofString "LookupError")) (Value.str (Str.ofString "LookupError") 94) (Value.type "LookupError"), DictEntry.mk (PyData.keyHash P (Str.ofString "MemoryError")) (Value.str (Str.ofString "MemoryError") 95) (Value.type "MemoryError"), DictEntry.mk (PyData.keyHash P (Str.ofString "NameError")) (Value.str (Str.ofString "NameError") 96) (Value.type "NameError"), DictEntry.mk (PyData.keyHash P (Str.ofString "OSError")) (Value.str (Str.ofString "OSError") 97) (Value.type "OSError"), DictEntry.mk (PyData.keyHash P (Str.ofString "ReferenceError")) (Value.str (Str.ofString "ReferenceError") 98) (Value.type "ReferenceError"), DictEntry.mk (PyData.keyHash P (Str.ofString "RuntimeError")) (Value.str (Str.ofString "RuntimeError") 99) (Value.type "RuntimeError"), DictEntry.mk (PyData.keyHash P (Str.ofString "StopAsyncIteration")) (Value.str (Str.ofString "StopAsyncIteration") 100) (Value.type "StopAsyncIteration"), DictEntry.mk (PyData.keyHash P (Str.ofString "StopIteration")) (Value.str (Str.ofString "StopIteration") 101) (Value.type "StopIteration"), DictEntry.mk (PyData.keyHash P (Str.ofString "SyntaxError")) (Value.str (Str.ofString "SyntaxError") 102) (Value.type "SyntaxError"), DictEntry.mk (PyData.keyHash P (Str.ofString "SystemError")) (Value.str (Str.ofString "SystemError") 103) (Value.type "SystemError"), DictEntry.mk (PyData.keyHash P (Str.ofString "TypeError")) (Value.str (Str.ofString "TypeError") 104) (Value.type "TypeError"), DictEntry.mk (PyData.keyHash P (Str.ofString "ValueError")) (Value.str (Str.ofString "ValueError") 105) (Value.type "ValueError"), DictEntry.mk (PyData.keyHash P (Str.ofString "Warning")) (Value.str (Str.ofString "Warning") 106) (Value.type "Warning"), DictEntry.mk (PyData.keyHash P (Str.ofString "FloatingPointError")) (Value.str (Str.ofString "FloatingPointError") 107) (Value.type "FloatingPointError"), DictEntry.mk (PyData.keyHash P (Str.ofString "OverflowError")) (Value.str (Str.ofString "OverflowError") 108) (Value.type "OverflowError"), DictEntry.mk (PyData.keyHash P (Str.ofString "ZeroDivisionError")) (Value.str (Str.ofString "ZeroDivisionError") 109) (Value.type "ZeroDivisionError"), DictEntry.mk (PyData.keyHash P (Str.ofString "BytesWarning")) (Value.str (Str.ofString "BytesWarning") 110) (Value.type "BytesWarning"), DictEntry.mk (PyData.keyHash P (Str.ofString "DeprecationWarning")) (Value.str (Str.ofString "DeprecationWarning") 111) (Value.type "DeprecationWarning"), DictEntry.mk (PyData.keyHash P (Str.ofString "EncodingWarning")) (Value.str (Str.ofString "EncodingWarning") 112) (Value.type "EncodingWarning"), DictEntry.mk (PyData.keyHash P (Str.ofString "FutureWarning")) (Value.str (Str.ofString "FutureWarning") 113) (Value.type "FutureWarning"), DictEntry.mk (PyData.keyHash P (Str.ofString "ImportWarning")) (Value.str (Str.ofString "ImportWarning") 114) (Value.type "ImportWarning"), DictEntry.mk (PyData.keyHash P (Str.ofString "PendingDeprecationWarning")) (Value.str (Str.ofString "PendingDeprecationWarning") 115) (Value.type "PendingDeprecationWarning"), DictEntry.mk (PyData.keyHash P (Str.ofString "ResourceWarning")) (Value.str (Str.ofString "ResourceWarning") 116) (Value.type "ResourceWarning"), DictEntry.mk (PyData.keyHash P (Str.ofString "RuntimeWarning")) (Value.str (Str.ofString "RuntimeWarning") 117) (Value.type "RuntimeWarning"), DictEntry.mk (PyData.keyHash P (Str.ofString "SyntaxWarning")) (Value.str (Str.ofString "SyntaxWarning") 118) (Value.type "SyntaxWarning"), DictEntry.mk (PyData.keyHash P (Str.ofString "UnicodeWarning")) (Value.str (Str.ofString "UnicodeWarning") 119) (Value.type "UnicodeWarning"), DictEntry.mk (PyData.keyHash P (Str.ofString "UserWarning")) (Value.str (Str.ofString "UserWarning") 120) (Value.type "UserWarning"), DictEntry.mk (PyData.keyHash P (Str.ofString "BlockingIOError")) (Value.str (Str.ofString "BlockingIOError") 121) (Value.type "BlockingIOError"), DictEntry.mk (PyData.keyHash P (Str.ofString "ChildProcessError")) (Value.str (Str.ofString "ChildProcessError") 122) (Value.type "ChildProcessError"), DictEntry.mk (PyData.keyHash P (Str.ofString "ConnectionError")) (Value.str (Str.ofString "ConnectionError") 123) (Value.type "ConnectionError"), DictEntry.mk (PyData.keyHash P (Str.ofString "FileExistsError")) (Value.str (Str.ofString "FileExistsError") 124) (Value.type "FileExistsError"), DictEntry.mk (PyData.keyHash P (Str.ofString "FileNotFoundError")) (Value.str (Str.ofString "FileNotFoundError") 125) (Value.type "FileNotFoundError"), DictEntry.mk (PyData.keyHash P (Str.ofString "InterruptedError")) (Value.str (Str.ofString "InterruptedError") 126) (Value.type "InterruptedError"), DictEntry.mk (PyData.keyHash P (Str.ofString "IsADirectoryError")) (Value.str (Str.ofString "IsADirectoryError") 127) (Value.type "IsADirectoryError"), DictEntry.mk (PyData.keyHash P (Str.ofString "NotADirectoryError")) (Value.str (Str.ofString "NotADirectoryError") 128) (Value.type "NotADirectoryError"), DictEntry.mk (PyData.keyHash P (Str.ofString "PermissionError")) (Value.str (Str.ofString "PermissionError") 129) (Value.type "PermissionError"), DictEntry.mk (PyData.keyHash P (Str.ofString "ProcessLookupError")) (Value.str (Str.ofString "ProcessLookupError") 130) (Value.type "ProcessLookupError"), DictEntry.mk (PyData.keyHash P (Str.ofString "TimeoutError")) (Value.str (Str.ofString "TimeoutError") 131) (Value.type "TimeoutError"), DictEntry.mk (PyData.keyHash P (Str.ofString "IndentationError")) (Value.str (Str.ofString "IndentationError") 132) (Value.type "IndentationError"), DictEntry.mk (PyData.keyHash P (Str.ofString "_IncompleteInputError")) (Value.str (Str.ofString "_IncompleteInputError") 133) (Value.type "_IncompleteInputError"), DictEntry.mk (PyData.keyHash P (Str.ofString "IndexError")) (Value.str (Str.ofString "IndexError") 134) (Value.type "IndexError"), DictEntry.mk (PyData.keyHash P (Str.ofString "KeyError")) (Value.str (Str.ofString "KeyError") 135) (Value.type "KeyError"), DictEntry.mk (PyData.keyHash P (Str.ofString "ModuleNotFoundError")) (Value.str (Str.ofString "ModuleNotFoundError") 136) (Value.type "ModuleNotFoundError"), DictEntry.mk (PyData.keyHash P (Str.ofString "NotImplementedError")) (Value.str (Str.ofString "NotImplementedError") 137) (Value.type "NotImplementedError"), DictEntry.mk (PyData.keyHash P (Str.ofString "PythonFinalizationError")) (Value.str (Str.ofString "PythonFinalizationError") 138) (Value.type "PythonFinalizationError"), DictEntry.mk (PyData.keyHash P (Str.ofString "RecursionError")) (Value.str (Str.ofString "RecursionError") 139) (Value.type "RecursionError"), DictEntry.mk (PyData.keyHash P (Str.ofString "UnboundLocalError")) (Value.str (Str.ofString "UnboundLocalError") 140) (Value.type "UnboundLocalError"), DictEntry.mk (PyData.keyHash P (Str.ofString "UnicodeError")) (Value.str (Str.ofString "UnicodeError") 141) (Value.type "UnicodeError"), DictEntry.mk (PyData.keyHash P (Str.ofString "BrokenPipeError")) (Value.str (Str.ofString "BrokenPipeError") 142) (Value.type "BrokenPipeError"), DictEntry.mk (PyData.keyHash P (Str.ofString "ConnectionAbortedError")) (Value.str (Str.ofString "ConnectionAbortedError") 143) (Value.type "ConnectionAbortedError"), DictEntry.mk (PyData.keyHash P (Str.ofString "ConnectionRefusedError")) (Value.str (Str.ofString "ConnectionRefusedError") 144) (Value.type "ConnectionRefusedError"), DictEntry.mk (PyData.keyHash P (Str.ofString "ConnectionResetError")) (Value.str (Str.ofString "ConnectionResetError") 145) (Value.type "ConnectionResetError"), DictEntry.mk (PyData.keyHash P (Str.ofString "TabError")) (Value.str (Str.ofString "TabError") 146) (Value.type "TabError"), DictEntry.mk (PyData.keyHash P (Str.ofString "UnicodeDecodeError")) (Value.str (Str.ofString "UnicodeDecodeError") 147) (Value.type "UnicodeDecodeError"), DictEntry.mk (PyData.keyHash P (Str.ofString "UnicodeEncodeError")) (Value.str (Str.ofString "UnicodeEncodeError") 148) (Value.type "UnicodeEncodeError"), DictEntry.mk (PyData.keyHash P (Str.ofString "UnicodeTranslateError")) (Value.str (Str.ofString "UnicodeTranslateError") 149) (Value.type "UnicodeTranslateError"), DictEntry.mk (PyData.keyHash P (Str.ofString "ExceptionGroup")) (Value.str (Str.ofString "ExceptionGroup") 150) (Value.type "ExceptionGroup"), DictEntry.mk (PyData.keyHash P (Str.ofString "EnvironmentError")) (Value.str (Str.ofString "EnvironmentError") 151) (Value.type "OSError"), DictEntry.mk (PyData.keyHash P (Str.ofString "IOError")) (Value.str (Str.ofString "IOError") 152) (Value.type "OSError"), DictEntry.mk (PyData.keyHash P (Str.ofString "open")) (Value.str (Str.ofString "open") 153) (Value.builtin "open"), DictEntry.mk (PyData.keyHash P (Str.ofString "quit")) (Value.str (Str.ofString "quit") 154) (Value.builtin "builtins.quit#opaque"), DictEntry.mk (PyData.keyHash P (Str.ofString "exit")) (Value.str (Str.ofString "exit") 155) (Value.builtin "builtins.exit#opaque"), DictEntry.mk (PyData.keyHash P (Str.ofString "copyright")) (Value.str (Str.ofString "copyright") 156) (Value.builtin "builtins.copyright#opaque"), DictEntry.mk (PyData.keyHash P (Str.ofString "credits")) (Value.str (Str.ofString "credits") 157) (Value.builtin "builtins.credits#opaque"), DictEntry.mk (PyData.keyHash P (Str.ofString "license")) (Value.str (Str.ofString "license") 158) (Value.builtin "builtins.license#opaque"), DictEntry.mk (PyData.keyHash P (Str.ofString "help")) (Value.str (Str.ofString "help") 159) (Value.builtin "builtins.help#opaque")] 159) #[]
noncomputable def o0_1 (P : Params) : Obj := Obj.mk (Value.type "dict") Option.none (Data.dict #[DictEntry.mk (PyData.keyHash P (Str.ofString "builtins")) (Value.str (Str.ofString "builtins") 162) (Value.ref 4), DictEntry.mk (PyData.keyHash P (Str.ofString "__main__")) (Value.str (Str.ofString "__main__") 163) (Value.ref 5), DictEntry.mk (PyData.keyHash P (Str.ofString "_sre")) (Value.str (Str.ofString "_sre") 244) (Value.ref 12)] 3) #[]
noncomputable def o0_2 (P : Params) : Obj := Obj.mk Value.none Option.none (Data.dict #[DictEntry.mk (PyData.keyHash P (Str.ofString "\x69mport.loaded._sre")) (Value.str (Str.ofString "\x69mport.loaded._sre") 183) (Value.bool Bool.true), DictEntry.mk (PyData.keyHash P (Str.ofString "class._frozen_\x69mportlib.BuiltinImporter")) (Value.str (Str.ofString "class._frozen_\x69mportlib.BuiltinImporter") 185) (Value.ref 14), DictEntry.mk (PyData.keyHash P (Str.ofString "watched.\x69mport")) (Value.str (Str.ofString "watched.\x69mport") 206) (Value.ref 18), DictEntry.mk (PyData.keyHash P (Str.ofString "class._frozen_\x69mportlib.ModuleSpec")) (Value.str (Str.ofString "class._frozen_\x69mportlib.ModuleSpec") 216) (Value.ref 22), DictEntry.mk (PyData.keyHash P (Str.ofString "sys.modules.booked-epoch")) (Value.str (Str.ofString "sys.modules.booked-epoch") 245) (Value.int 3 0), DictEntry.mk (PyData.keyHash P (Str.ofString "\x69mport.later-laid._sre")) (Value.str (Str.ofString "\x69mport.later-laid._sre") 270) (Value.bool Bool.true), DictEntry.mk (PyData.keyHash P (Str.ofString "watched.library")) (Value.str (Str.ofString "watched.library") 272) (Value.ref 27), DictEntry.mk (PyData.keyHash P (Str.ofString "watched.library-objects")) (Value.str (Str.ofString "watched.library-objects") 0) (Value.str (Str.ofString "\x0c") 0), DictEntry.mk (PyData.keyHash P (Str.ofString "watched.library-deep._sre")) (Value.str (Str.ofString "watched.library-deep._sre") 273) (Value.str (Str.ofString "\x04\x00\x00\x0b\x04\x00\x00\x0b\x04\x00\x00\x03\x04\x00\x00\x0b\x08\x04dict\x02") 0)] 9) #[]
noncomputable def o0_3 (P : Params) : Obj := Obj.mk (Value.type "dict") Option.none (Data.dict #[DictEntry.mk (PyData.keyHash P (Str.ofString "__name__")) (Value.str (Str.ofString "__name__") 165) (Value.str (Str.ofString "__main__") 164), DictEntry.mk (PyData.keyHash P (Str.ofString "__doc__")) (Value.str (Str.ofString "__doc__") 166) Value.none, DictEntry.mk (PyData.keyHash P (Str.ofString "__package__")) (Value.str (Str.ofString "__package__") 167) Value.none, DictEntry.mk (PyData.keyHash P (Str.ofString "__loader__")) (Value.str (Str.ofString "__loader__") 168) (Value.builtin "__main__.__loader__#opaque"), DictEntry.mk (PyData.keyHash P (Str.ofString "__spec__")) (Value.str (Str.ofString "__spec__") 169) Value.none, DictEntry.mk (PyData.keyHash P (Str.ofString "__annotations__")) (Value.str (Str.ofString "__annotations__") 170) (Value.ref 6), DictEntry.mk (PyData.keyHash P (Str.ofString "__builtins__")) (Value.str (Str.ofString "__builtins__") 171) (Value.ref 4), DictEntry.mk (PyData.keyHash P (Str.ofString "__file__")) (Value.str (Str.ofString "__file__") 173) (Value.str (Str.ofString "/claim/cut.py") 172), DictEntry.mk (PyData.keyHash P (Str.ofString "__cached__")) (Value.str (Str.ofString "__cached__") 174) Value.none, DictEntry.mk (PyData.keyHash P (Str.ofString "_sre")) (Value.str (Str.ofString "_sre") 275) (Value.ref 12)] 10) #[]
noncomputable def o0_4 : Obj := Obj.mk (Value.type "module") (Option.some 0) Data.plain #[]
noncomputable def o0_5 : Obj := Obj.mk (Value.type "module") (Option.some 3) Data.plain #[]
noncomputable def o0_6 : Obj := Obj.mk (Value.type "dict") Option.none (Data.dict #[]) #[]
noncomputable def o0_7 : Obj := Obj.mk (Value.type "tuple") Option.none (Data.seq #[]) #[]
noncomputable def o0_8 : Obj := Obj.mk Value.none Option.none (Data.fields #[]) #[]
noncomputable def o0_9 : Obj := Obj.mk (Value.type "code") Option.none (Data.fields #[Value.str (Str.ofString "<module>") 176, Value.str (Str.ofString "<module>") 177, Value.str (Str.ofString "/claim/cut.py") 178, Value.int 1 0, Value.int 0 0, Value.int 0 0, Value.int 0 0, Value.int 0 0, Value.ref 7, Value.bool Bool.false, Value.int 175 0, Value.ref 8, Value.none, Value.none, Value.none, Value.none, Value.int 179 0, Value.int 1 0, Value.str (Str.ofString "/claim/cut.py") 180]) #[]
noncomputable def o0_10 : Obj := Obj.mk (Value.type "frame") Option.none Data.plain #[Option.some (Value.ref 9), Option.some (Value.ref 3), Option.some (Value.ref 3), Option.none, Option.some (Value.str (Str.ofString "__main__") 164), Option.none, Option.some (Value.ref 0)]
noncomputable def o0_11 (P : Params) : Obj := Obj.mk (Value.type "dict") Option.none (Data.dict #[DictEntry.mk (PyData.keyHash P (Str.ofString "__name__")) (Value.str (Str.ofString "__name__") 247) (Value.str (Str.ofString "_sre") 246), DictEntry.mk (PyData.keyHash P (Str.ofString "__doc__")) (Value.str (Str.ofString "__doc__") 248) Value.none, DictEntry.mk (PyData.keyHash P (Str.ofString "__package__")) (Value.str (Str.ofString "__package__") 250) (Value.str (Str.ofString "") 249), DictEntry.mk (PyData.keyHash P (Str.ofString "__loader__")) (Value.str (Str.ofString "__loader__") 251) (Value.builtin "off-the-table:_sre.__loader__:shared#opaque"), DictEntry.mk (PyData.keyHash P (Str.ofString "__spec__")) (Value.str (Str.ofString "__spec__") 252) (Value.builtin "off-the-table:_sre.__spec__:shared#opaque"), DictEntry.mk (PyData.keyHash P (Str.ofString "compile")) (Value.str (Str.ofString "compile") 253) (Value.builtin "_sre.compile"), DictEntry.mk (PyData.keyHash P (Str.ofString "template")) (Value.str (Str.ofString "template") 254) (Value.builtin "off-the-table:_sre.template:shared#opaque"), DictEntry.mk (PyData.keyHash P (Str.ofString "getcodesize")) (Value.str (Str.ofString "getcodesize") 255) (Value.builtin "off-the-table:_sre.getcodesize:shared#opaque"), DictEntry.mk (PyData.keyHash P (Str.ofString "ascii_iscased")) (Value.str (Str.ofString "ascii_iscased") 256) (Value.builtin "off-the-table:_sre.ascii_iscased:shared#opaque"), DictEntry.mk (PyData.keyHash P (Str.ofString "unicode_iscased")) (Value.str (Str.ofString "unicode_iscased") 257) (Value.builtin "off-the-table:_sre.unicode_iscased:shared#opaque"), DictEntry.mk (PyData.keyHash P (Str.ofString "ascii_tolower")) (Value.str (Str.ofString "ascii_tolower") 258) (Value.builtin "off-the-table:_sre.ascii_tolower:shared#opaque"), DictEntry.mk (PyData.keyHash P (Str.ofString "unicode_tolower")) (Value.str (Str.ofString "unicode_tolower") 259) (Value.builtin "off-the-table:_sre.unicode_tolower:shared#opaque"), DictEntry.mk (PyData.keyHash P (Str.ofString "MAGIC")) (Value.str (Str.ofString "MAGIC") 261) (Value.int 20230612 260), DictEntry.mk (PyData.keyHash P (Str.ofString "CODESIZE")) (Value.str (Str.ofString "CODESIZE") 263) (Value.int 4 262), DictEntry.mk (PyData.keyHash P (Str.ofString "MAXREPEAT")) (Value.str (Str.ofString "MAXREPEAT") 265) (Value.int 4294967295 264), DictEntry.mk (PyData.keyHash P (Str.ofString "MAXGROUPS")) (Value.str (Str.ofString "MAXGROUPS") 267) (Value.int 1073741823 266), DictEntry.mk (PyData.keyHash P (Str.ofString "copyright")) (Value.str (Str.ofString "copyright") 269) (Value.str (Str.ofString " SRE 2.2.2 Copyright (c) 1997-2002 by Secret Labs AB ") 268)] 17) #[]
noncomputable def o0_12 : Obj := Obj.mk (Value.type "module") (Option.some 11) Data.plain #[]
noncomputable def o0_13 (P : Params) : Obj := Obj.mk (Value.type "dict") Option.none (Data.dict #[DictEntry.mk (PyData.keyHash P (Str.ofString "__module__")) (Value.str (Str.ofString "__module__") 189) (Value.str (Str.ofString "_frozen_\x69mportlib") 186), DictEntry.mk (PyData.keyHash P (Str.ofString "__firstlineno__")) (Value.str (Str.ofString "__firstlineno__") 190) (Value.int 971 187), DictEntry.mk (PyData.keyHash P (Str.ofString "__doc__")) (Value.str (Str.ofString "__doc__") 191) (Value.builtin "_frozen_\x69mportlib.BuiltinImporter.__doc__:str#opaque"), DictEntry.mk (PyData.keyHash P (Str.ofString "_ORIGIN")) (Value.str (Str.ofString "_ORIGIN") 192) (Value.str (Str.ofString "built-in") 188), DictEntry.mk (PyData.keyHash P (Str.ofString "find_spec")) (Value.str (Str.ofString "find_spec") 193) (Value.builtin "_frozen_\x69mportlib.BuiltinImporter.find_spec#opaque"), DictEntry.mk (PyData.keyHash P (Str.ofString "create_module")) (Value.str (Str.ofString "create_module") 194) (Value.builtin "_frozen_\x69mportlib.BuiltinImporter.create_module#opaque"), DictEntry.mk (PyData.keyHash P (Str.ofString "exec_module")) (Value.str (Str.ofString "exec_module") 195) (Value.builtin "_frozen_\x69mportlib.BuiltinImporter.exec_module#opaque"), DictEntry.mk (PyData.keyHash P (Str.ofString "get_code")) (Value.str (Str.ofString "get_code") 196) (Value.builtin "_frozen_\x69mportlib.BuiltinImporter.get_code#opaque"), DictEntry.mk (PyData.keyHash P (Str.ofString "get_source")) (Value.str (Str.ofString "get_source") 197) (Value.builtin "_frozen_\x69mportlib.BuiltinImporter.get_source#opaque"), DictEntry.mk (PyData.keyHash P (Str.ofString "is_package")) (Value.str (Str.ofString "is_package") 198) (Value.builtin "_frozen_\x69mportlib.BuiltinImporter.is_package#opaque"), DictEntry.mk (PyData.keyHash P (Str.ofString "load_module")) (Value.str (Str.ofString "load_module") 199) (Value.builtin "_frozen_\x69mportlib.BuiltinImporter.load_module#opaque"), DictEntry.mk (PyData.keyHash P (Str.ofString "__static_attributes__")) (Value.str (Str.ofString "__static_attributes__") 200) (Value.ref 15), DictEntry.mk (PyData.keyHash P (Str.ofString "__dict__")) (Value.str (Str.ofString "__dict__") 202) (Value.ref 16), DictEntry.mk (PyData.keyHash P (Str.ofString "__weakref__")) (Value.str (Str.ofString "__weakref__") 204) (Value.ref 17)] 14) #[]
noncomputable def o0_14 : Obj := Obj.mk (Value.type "type") Option.none (Data.cls (ClassData.mk (Str.ofString "BuiltinImporter") [Value.type "object"] [Value.ref 14, Value.type "object"] 13 (Str.ofString "BuiltinImporter") Bool.true [] [] Bool.false Option.none Bool.false)) #[]
noncomputable def o0_15 : Obj := Obj.mk (Value.type "tuple") Option.none (Data.seq #[]) #[]
noncomputable def o0_16 : Obj := Obj.mk (Value.type "getset_descriptor") Option.none (Data.fields #[Value.str (Str.ofString "__dict__") 201, Value.ref 14, Value.builtin "function.__dict__", Value.builtin "function.__dict__#set"]) #[]
noncomputable def o0_17 : Obj := Obj.mk (Value.type "getset_descriptor") Option.none (Data.fields #[Value.str (Str.ofString "__weakref__") 203, Value.ref 14, Value.builtin "ExceptionGroup.__weakref__", Value.none]) #[]
noncomputable def o0_18 : Obj := Obj.mk Value.none Option.none (Data.seq #[Value.int 13 0, Value.str (Str.ofString "\x06½\n__module__\x06º\x11_frozen_\x69mportlib\x06¾\x0f__firstlineno__\x04»\x00ϋ\x06¿\x07__doc__\t4_frozen_\x69mportlib.BuiltinImporter.__doc__:str#opaque\x06À\x07_ORIGIN\x06¼\x08built-in\x06Á\tfind_spec\t2_frozen_\x69mportlib.BuiltinImporter.find_spec#opaque\x06Â\x0dcreate_module\t6_frozen_\x69mportlib.BuiltinImporter.create_module#opaque\x06Ã\x0bexec_module\t4_frozen_\x69mportlib.BuiltinImporter.exec_module#opaque\x06Ä\x08get_code\t1_frozen_\x69mportlib.BuiltinImporter.get_code#opaque\x06Å\nget_source\t3_frozen_\x69mportlib.BuiltinImporter.get_source#opaque\x06Æ\nis_package\t3_frozen_\x69mportlib.BuiltinImporter.is_package#opaque\x06Ç\x0bload_module\t4_frozen_\x69mportlib.BuiltinImporter.load_module#opaque\x06È\x15__static_attributes__\x04\x00\x00\x0f\x06Ê\x08__dict__\x04\x00\x00\x10\x06Ì\x0b__weakref__\x04\x00\x00\x11") 0, Value.bool Bool.true, Value.bool Bool.true, Value.str (Str.ofString "") 205, Value.int 21 0, Value.str (Str.ofString "\x06ã\n__module__\x06Ù\x11_frozen_\x69mportlib\x06ä\x0f__firstlineno__\x04Ú\x00Ȳ\x06å\x07__doc__\t/_frozen_\x69mportlib.ModuleSpec.__doc__:str#opaque\x06æ\x08__init__\t,_frozen_\x69mportlib.ModuleSpec.__init__#opaque\x06ç\x08__repr__\t,_frozen_\x69mportlib.ModuleSpec.__repr__#opaque\x06è\x06__eq__\t*_frozen_\x69mportlib.ModuleSpec.__eq__#opaque\x06é\x06cached\t*_frozen_\x69mportlib.ModuleSpec.cached#opaque\x06ê\x06parent\t*_frozen_\x69mportlib.ModuleSpec.parent#opaque\x06ë\x0chas_location\t0_frozen_\x69mportlib.ModuleSpec.has_location#opaque\x06ì\x15__static_attributes__\x04\x00\x00\x17\x06î\x08__dict__\x04\x00\x00\x18\x06ð\x0b__weakref__\x04\x00\x00\x19\x06ñ\x08__hash__\x00") 0, Value.bool Bool.true, Value.bool Bool.true, Value.str (Str.ofString "") 242] 1) #[]
noncomputable def o0_19 : Obj := Obj.mk (Value.type "list") Option.none (Data.seq #[]) #[]
noncomputable def o0_20 (P : Params) : Obj := Obj.mk (Value.type "dict") Option.none (Data.dict #[DictEntry.mk (PyData.keyHash P (Str.ofString "name")) (Value.str (Str.ofString "name") 208) (Value.str (Str.ofString "_sre") 207), DictEntry.mk (PyData.keyHash P (Str.ofString "loader")) (Value.str (Str.ofString "loader") 209) (Value.ref 14), DictEntry.mk (PyData.keyHash P (Str.ofString "origin")) (Value.str (Str.ofString "origin") 210) (Value.str (Str.ofString "built-in") 184), DictEntry.mk (PyData.keyHash P (Str.ofString "loader_state")) (Value.str (Str.ofString "loader_state") 211) Value.none, DictEntry.mk (PyData.keyHash P (Str.ofString "submodule_search_locations")) (Value.str (Str.ofString "submodule_search_locations") 212) Value.none, DictEntry.mk (PyData.keyHash P (Str.ofString "_un\x69nitialized_submodules")) (Value.str (Str.ofString "_un\x69nitialized_submodules") 213) (Value.ref 19), DictEntry.mk (PyData.keyHash P (Str.ofString "_set_fileattr")) (Value.str (Str.ofString "_set_fileattr") 214) (Value.bool Bool.false), DictEntry.mk (PyData.keyHash P (Str.ofString "_cached")) (Value.str (Str.ofString "_cached") 215) Value.none, DictEntry.mk (PyData.keyHash P (Str.ofString "_initializing")) (Value.str (Str.ofString "_initializing") 243) (Value.bool Bool.false)] 9) #[]
noncomputable def o0_21 (P : Params) : Obj := Obj.mk (Value.type "dict") Option.none (Data.dict #[DictEntry.mk (PyData.keyHash P (Str.ofString "__module__")) (Value.str (Str.ofString "__module__") 227) (Value.str (Str.ofString "_frozen_\x69mportlib") 217), DictEntry.mk (PyData.keyHash P (Str.ofString "__firstlineno__")) (Value.str (Str.ofString "__firstlineno__") 228) (Value.int 562 218), DictEntry.mk (PyData.keyHash P (Str.ofString "__doc__")) (Value.str (Str.ofString "__doc__") 229) (Value.builtin "_frozen_\x69mportlib.ModuleSpec.__doc__:str#opaque"), DictEntry.mk (PyData.keyHash P (Str.ofString "__init__")) (Value.str (Str.ofString "__init__") 230) (Value.builtin "_frozen_\x69mportlib.ModuleSpec.__init__#opaque"), DictEntry.mk (PyData.keyHash P (Str.ofString "__repr__")) (Value.str (Str.ofString "__repr__") 231) (Value.builtin "_frozen_\x69mportlib.ModuleSpec.__repr__#opaque"), DictEntry.mk (PyData.keyHash P (Str.ofString "__eq__")) (Value.str (Str.ofString "__eq__") 232) (Value.builtin "_frozen_\x69mportlib.ModuleSpec.__eq__#opaque"), DictEntry.mk (PyData.keyHash P (Str.ofString "cached")) (Value.str (Str.ofString "cached") 233) (Value.builtin "_frozen_\x69mportlib.ModuleSpec.cached#opaque"), DictEntry.mk (PyData.keyHash P (Str.ofString "parent")) (Value.str (Str.ofString "parent") 234) (Value.builtin "_frozen_\x69mportlib.ModuleSpec.parent#opaque"), DictEntry.mk (PyData.keyHash P (Str.ofString "has_location")) (Value.str (Str.ofString "has_location") 235) (Value.builtin "_frozen_\x69mportlib.ModuleSpec.has_location#opaque"), DictEntry.mk (PyData.keyHash P (Str.ofString "__static_attributes__")) (Value.str (Str.ofString "__static_attributes__") 236) (Value.ref 23), DictEntry.mk (PyData.keyHash P (Str.ofString "__dict__")) (Value.str (Str.ofString "__dict__") 238) (Value.ref 24), DictEntry.mk (PyData.keyHash P (Str.ofString "__weakref__")) (Value.str (Str.ofString "__weakref__") 240) (Value.ref 25), DictEntry.mk (PyData.keyHash P (Str.ofString "__hash__")) (Value.str (Str.ofString "__hash__") 241) Value.none] 13) #[]
noncomputable def o0_22 : Obj := Obj.mk (Value.type "type") Option.none (Data.cls (ClassData.mk (Str.ofString "ModuleSpec") [Value.type "object"] [Value.ref 22, Value.type "object"] 21 (Str.ofString "ModuleSpec") Bool.true [] [] Bool.false Option.none Bool.false)) #[]
noncomputable def o0_23 : Obj := Obj.mk (Value.type "tuple") Option.none (Data.seq #[Value.str (Str.ofString "_cached") 219, Value.str (Str.ofString "_set_fileattr") 220, Value.str (Str.ofString "_un\x69nitialized_submodules") 221, Value.str (Str.ofString "loader") 222, Value.str (Str.ofString "loader_state") 223, Value.str (Str.ofString "name") 224, Value.str (Str.ofString "origin") 225, Value.str (Str.ofString "submodule_search_locations") 226]) #[]
noncomputable def o0_24 : Obj := Obj.mk (Value.type "getset_descriptor") Option.none (Data.fields #[Value.str (Str.ofString "__dict__") 237, Value.ref 22, Value.builtin "function.__dict__", Value.builtin "function.__dict__#set"]) #[]
noncomputable def o0_25 : Obj := Obj.mk (Value.type "getset_descriptor") Option.none (Data.fields #[Value.str (Str.ofString "__weakref__") 239, Value.ref 22, Value.builtin "ExceptionGroup.__weakref__", Value.none]) #[]
noncomputable def o0_26 : Obj := Obj.mk (Value.ref 22) (Option.some 20) Data.plain #[]
noncomputable def o0_27 : Obj := Obj.mk Value.none Option.none (Data.seq #[Value.int 11 0, Value.str (Str.mk #[6, 247, 8, 95, 95, 110, 97, 109, 101, 95, 95, 6, 246, 4, 95, 115, 114, 101, 6, 248, 7, 95, 95, 100, 111, 99, 95, 95, 0, 6, 250, 11, 95, 95, 112, 97, 99, 107, 97, 103, 101, 95, 95, 6, 249, 0, 6, 251, 10, 95, 95, 108, 111, 97, 100, 101, 114, 95, 95, 4, 0, 0, 14, 6, 252, 8, 95, 95, 115, 112, 101, 99, 95, 95, 4, 0, 0, 26, 6, 253, 7, 99, 111, 109, 112, 105, 108, 101, 9, 12, 95, 115, 114, 101, 46, 99, 111, 109, 112, 105, 108, 101, 6, 254, 8, 116, 101, 109, 112, 108, 97, 116, 101, 9, 13, 95, 115, 114, 101, 46, 116, 101, 109, 112, 108, 97, 116, 101, 6, 255, 11, 103, 101, 116, 99, 111, 100, 101, 115, 105, 122, 101, 9, 16, 95, 115, 114, 101, 46, 103, 101, 116, 99, 111, 100, 101, 115, 105, 122, 101, 6, 256, 13, 97, 115, 99, 105, 105, 95, 105, 115, 99, 97, 115, 101, 100, 9, 18, 95, 115, 114, 101, 46, 97, 115, 99, 105, 105, 95, 105, 115, 99, 97, 115, 101, 100, 6, 257, 15, 117, 110, 105, 99, 111, 100, 101, 95, 105, 115, 99, 97, 115, 101, 100, 9, 20, 95, 115, 114, 101, 46, 117, 110, 105, 99, 111, 100, 101, 95, 105, 115, 99, 97, 115, 101, 100, 6, 258, 13, 97, 115, 99, 105, 105, 95, 116, 111, 108, 111, 119, 101, 114, 9, 18, 95, 115, 114, 101, 46, 97, 115, 99, 105, 105, 95, 116, 111, 108, 111, 119, 101, 114, 6, 259, 15, 117, 110, 105, 99, 111, 100, 101, 95, 116, 111, 108, 111, 119, 101, 114, 9, 20, 95, 115, 114, 101, 46, 117, 110, 105, 99, 111, 100, 101, 95, 116, 111, 108, 111, 119, 101, 114, 6, 261, 5, 77, 65, 71, 73, 67, 4, 260, 0, 20230612, 6, 263, 8, 67, 79, 68, 69, 83, 73, 90, 69, 4, 262, 0, 4, 6, 265, 9, 77, 65, 88, 82, 69, 80, 69, 65, 84, 4, 264, 0, 4294967295, 6, 267, 9, 77, 65, 88, 71, 82, 79, 85, 80, 83, 4, 266, 0, 1073741823, 6, 269, 9, 99, 111, 112, 121, 114, 105, 103, 104, 116, 6, 268, 53, 32, 83, 82, 69, 32, 50, 46, 50, 46, 50, 32, 67, 111, 112, 121, 114, 105, 103, 104, 116, 32, 40, 99, 41, 32, 49, 57, 57, 55, 45, 50, 48, 48, 50, 32, 98, 121, 32, 83, 101, 99, 114, 101, 116, 32, 76, 97, 98, 115, 32, 65, 66, 32]) 0, Value.bool Bool.true, Value.bool Bool.false, Value.str (Str.ofString "_sre") 271]) #[]
noncomputable def headLife : Life := Life.mk [] [] [] 0 [] [] Bool.false #[] [] 0 Bool.false Bool.false Bool.false 0 [2000, 10, 10] Bool.false 0 Bool.true [] [] 0 Bool.false
noncomputable def headDrawn : Drawn := Drawn.mk 0 0 0 0
noncomputable def headH0 (P : Params) : Heap := ⟨⟨[o0_0 P, o0_1 P, o0_2 P, o0_3 P, o0_4, o0_5, o0_6, o0_7, o0_8, o0_9, o0_10, o0_11 P, o0_12, o0_13 P, o0_14, o0_15, o0_16, o0_17, o0_18, o0_19, o0_20 P, o0_21 P, o0_22, o0_23, o0_24, o0_25, o0_26, o0_27]⟩, headLife⟩
noncomputable def o1_28 : Obj := Obj.mk (Value.type "tuple") Option.none (Data.seq #[]) #[]
noncomputable def o1_29 : Obj := Obj.mk Value.none Option.none (Data.fields #[]) #[]
noncomputable def o1_30 : Obj := Obj.mk (Value.type "code") Option.none (Data.fields #[Value.str (Str.ofString "<module>") 277, Value.str (Str.ofString "<module>") 278, Value.str (Str.ofString "/claim/cut.py") 279, Value.int 1 0, Value.int 0 0, Value.int 0 0, Value.int 0 0, Value.int 0 0, Value.ref 28, Value.bool Bool.false, Value.int 276 0, Value.ref 29, Value.none, Value.none, Value.none, Value.none, Value.int 280 0, Value.int 1 0, Value.str (Str.ofString "/claim/cut.py") 281]) #[]
noncomputable def o1_31 : Obj := Obj.mk (Value.type "frame") Option.none Data.plain #[Option.some (Value.ref 30), Option.some (Value.ref 3), Option.some (Value.ref 3), Option.none, Option.some (Value.str (Str.ofString "__main__") 164), Option.none, Option.some (Value.ref 0)]
noncomputable def headH1 (P : Params) : Heap := ⟨⟨[o0_0 P, o0_1 P, o0_2 P, o0_3 P, o0_4, o0_5, o0_6, o0_7, o0_8, o0_9, o0_10, o0_11 P, o0_12, o0_13 P, o0_14, o0_15, o0_16, o0_17, o0_18, o0_19, o0_20 P, o0_21 P, o0_22, o0_23, o0_24, o0_25, o0_26, o0_27, o1_28, o1_29, o1_30, o1_31]⟩, headLife⟩
noncomputable def o2_3 (P : Params) : Obj := Obj.mk (Value.type "dict") Option.none (Data.dict #[DictEntry.mk (PyData.keyHash P (Str.ofString "__name__")) (Value.str (Str.ofString "__name__") 165) (Value.str (Str.ofString "cpy313.wsgiref.headers") 282), DictEntry.mk (PyData.keyHash P (Str.ofString "__doc__")) (Value.str (Str.ofString "__doc__") 166) Value.none, DictEntry.mk (PyData.keyHash P (Str.ofString "__package__")) (Value.str (Str.ofString "__package__") 167) Value.none, DictEntry.mk (PyData.keyHash P (Str.ofString "__loader__")) (Value.str (Str.ofString "__loader__") 168) (Value.builtin "__main__.__loader__#opaque"), DictEntry.mk (PyData.keyHash P (Str.ofString "__spec__")) (Value.str (Str.ofString "__spec__") 169) Value.none, DictEntry.mk (PyData.keyHash P (Str.ofString "__annotations__")) (Value.str (Str.ofString "__annotations__") 170) (Value.ref 6), DictEntry.mk (PyData.keyHash P (Str.ofString "__builtins__")) (Value.str (Str.ofString "__builtins__") 171) (Value.ref 4), DictEntry.mk (PyData.keyHash P (Str.ofString "__file__")) (Value.str (Str.ofString "__file__") 173) (Value.str (Str.ofString "/claim/cut.py") 172), DictEntry.mk (PyData.keyHash P (Str.ofString "__cached__")) (Value.str (Str.ofString "__cached__") 174) Value.none, DictEntry.mk (PyData.keyHash P (Str.ofString "_sre")) (Value.str (Str.ofString "_sre") 275) (Value.ref 12), DictEntry.mk (PyData.keyHash P (Str.ofString "tspecials")) (Value.str (Str.ofString "tspecials") 317) (Value.ref 36), DictEntry.mk (PyData.keyHash P (Str.ofString "_name_disallowed_re")) (Value.str (Str.ofString "_name_disallowed_re") 343) (Value.ref 41), DictEntry.mk (PyData.keyHash P (Str.ofString "_value_disallowed_re")) (Value.str (Str.ofString "_value_disallowed_re") 377) (Value.ref 46), DictEntry.mk (PyData.keyHash P (Str.ofString "_formatparam")) (Value.str (Str.ofString "_formatparam") 387) (Value.ref 54)] 14) #[]
noncomputable def o2_29 : Obj := Obj.mk Value.none Option.none (Data.fields #[Value.int 6 0, Value.int 0 0, Value.ref 53]) #[]
noncomputable def o2_32 : Obj := Obj.mk (Value.type "list") Option.none (Data.seq #[Value.int 14 287, Value.int 14 288, Value.int 4 289, Value.int 1 290, Value.int 1 291, Value.int 9 292, Value.int 0 293, Value.int 4227896069 294, Value.int 939524097 295, Value.int 0 296, Value.int 0 297, Value.int 0 298, Value.int 0 299, Value.int 0 300, Value.int 0 301, Value.int 13 302, Value.int 11 303, Value.int 9 304, Value.int 0 305, Value.int 4227896069 306, Value.int 939524097 307, Value.int 0 308, Value.int 0 309, Value.int 0 310, Value.int 0 311, Value.int 0 312, Value.int 0 313, Value.int 1 314]) #[]
noncomputable def o2_33 : Obj := Obj.mk (Value.type "dict") Option.none (Data.dict #[]) #[]
noncomputable def o2_34 : Obj := Obj.mk (Value.type "tuple") Option.none (Data.seq #[Value.none]) #[]
noncomputable def o2_35 : Obj := Obj.mk (Value.type "tuple") Option.none (Data.seq #[Value.int 14 0, Value.int 14 0, Value.int 4 0, Value.int 1 0, Value.int 1 0, Value.int 9 0, Value.int 0 0, Value.int 4227896069 0, Value.int 939524097 0, Value.int 0 0, Value.int 0 0, Value.int 0 0, Value.int 0 0, Value.int 0 0, Value.int 0 0, Value.int 13 0, Value.int 11 0, Value.int 9 0, Value.int 0 0, Value.int 4227896069 0, Value.int 939524097 0, Value.int 0 0, Value.int 0 0, Value.int 0 0, Value.int 0 0, Value.int 0 0, Value.int 0 0, Value.int 1 0]) #[]
noncomputable def o2_36 : Obj := Obj.mk (Value.type "re.Pattern") Option.none (Data.fields #[Value.str (Str.ofString "[ \\(\\)<>@,;:\\\\\"/\\[\\]\\?=]") 285, Value.int 32 316, Value.int 0 0, Value.none, Value.none, Value.ref 35, Value.int 0 0]) #[]
noncomputable def o2_37 : Obj := Obj.mk (Value.type "list") Option.none (Data.seq #[Value.int 14 321, Value.int 10 322, Value.int 4 323, Value.int 1 324, Value.int 1 325, Value.int 22 326, Value.int 0 327, Value.int 31 328, Value.int 16 329, Value.int 127 330, Value.int 0 331, Value.int 13 332, Value.int 7 333, Value.int 22 334, Value.int 0 335, Value.int 31 336, Value.int 16 337, Value.int 127 338, Value.int 0 339, Value.int 1 340]) #[]
noncomputable def o2_38 : Obj := Obj.mk (Value.type "dict") Option.none (Data.dict #[]) #[]
noncomputable def o2_39 : Obj := Obj.mk (Value.type "tuple") Option.none (Data.seq #[Value.none]) #[]
noncomputable def o2_40 : Obj := Obj.mk (Value.type "tuple") Option.none (Data.seq #[Value.int 14 0, Value.int 10 0, Value.int 4 0, Value.int 1 0, Value.int 1 0, Value.int 22 0, Value.int 0 0, Value.int 31 0, Value.int 16 0, Value.int 127 0, Value.int 0 0, Value.int 13 0, Value.int 7 0, Value.int 22 0, Value.int 0 0, Value.int 31 0, Value.int 16 0, Value.int 127 0, Value.int 0 0, Value.int 1 0]) #[]
noncomputable def o2_41 : Obj := Obj.mk (Value.type "re.Pattern") Option.none (Data.fields #[Value.str (Str.ofString "[\\x00-\\x1F\\x7F]") 319, Value.int 32 342, Value.int 0 0, Value.none, Value.none, Value.ref 40, Value.int 0 0]) #[]
noncomputable def o2_42 : Obj := Obj.mk (Value.type "list") Option.none (Data.seq #[Value.int 14 347, Value.int 14 348, Value.int 4 349, Value.int 1 350, Value.int 1 351, Value.int 9 352, Value.int 4294966783 353, Value.int 0 354, Value.int 0 355, Value.int 2147483648 356, Value.int 0 357, Value.int 0 358, Value.int 0 359, Value.int 0 360, Value.int 0 361, Value.int 13 362, Value.int 11 363, Value.int 9 364, Value.int 4294966783 365, Value.int 0 366, Value.int 0 367, Value.int 2147483648 368, Value.int 0 369, Value.int 0 370, Value.int 0 371, Value.int 0 372, Value.int 0 373, Value.int 1 374]) #[]
noncomputable def o2_43 : Obj := Obj.mk (Value.type "dict") Option.none (Data.dict #[]) #[]
noncomputable def o2_44 : Obj := Obj.mk (Value.type "tuple") Option.none (Data.seq #[Value.none]) #[]
noncomputable def o2_45 : Obj := Obj.mk (Value.type "tuple") Option.none (Data.seq #[Value.int 14 0, Value.int 14 0, Value.int 4 0, Value.int 1 0, Value.int 1 0, Value.int 9 0, Value.int 4294966783 0, Value.int 0 0, Value.int 0 0, Value.int 2147483648 0, Value.int 0 0, Value.int 0 0, Value.int 0 0, Value.int 0 0, Value.int 0 0, Value.int 13 0, Value.int 11 0, Value.int 9 0, Value.int 4294966783 0, Value.int 0 0, Value.int 0 0, Value.int 2147483648 0, Value.int 0 0, Value.int 0 0, Value.int 0 0, Value.int 0 0, Value.int 0 0, Value.int 1 0]) #[]
noncomputable def o2_46 : Obj := Obj.mk (Value.type "re.Pattern") Option.none (Data.fields #[Value.str (Str.ofString "[\\x00-\\x08\\x0A-\\x1F\\x7F]") 345, Value.int 32 376, Value.int 0 0, Value.none, Value.none, Value.ref 45, Value.int 0 0]) #[]
noncomputable def o2_47 : Obj := Obj.mk (Value.type "tuple") Option.none (Data.seq #[Value.none, Value.int 1 378]) #[]
noncomputable def o2_48 : Obj := Obj.mk (Value.type "tuple") Option.none (Data.seq #[]) #[]
noncomputable def o2_49 : Obj := Obj.mk Value.none Option.none (Data.fields #[]) #[]
noncomputable def o2_50 : Obj := Obj.mk (Value.type "tuple") Option.none (Data.seq #[Value.str (Str.ofString "param") 382, Value.str (Str.ofString "value") 383, Value.str (Str.ofString "quote") 384]) #[]
noncomputable def o2_51 : Obj := Obj.mk (Value.type "tuple") Option.none (Data.seq #[]) #[]
noncomputable def o2_52 : Obj := by
  refine headLit (p := ?p) (b := ?b) (s := ?s) (x := (headStmt 5)) (fun p b s => Obj.mk Value.none Option.none (Data.func (FuncData.mk (Str.ofString "_formatparam") (Str.ofString "_formatparam") p (FuncBody.stmts b) s 0 [] Value.none Value.none Value.none Value.none Option.none Value.none Value.none 0)) #[]) ?hp ?hb ?hs
  case hp => (conv => lhs; whnf) <;> exact rfl
  case hb => (conv => lhs; whnf) <;> exact rfl
  case hs => (conv => lhs; whnf) <;> exact rfl
noncomputable def o2_53 : Obj := Obj.mk (Value.type "code") Option.none (Data.fields #[Value.str (Str.ofString "_formatparam") 379, Value.str (Str.ofString "_formatparam") 380, Value.str (Str.ofString "/claim/cut.py") 381, Value.int 6 0, Value.int 3 0, Value.int 0 0, Value.int 0 0, Value.int 3 0, Value.ref 48, Value.bool Bool.true, Value.int 276 0, Value.ref 49, Value.none, Value.ref 50, Value.ref 51, Value.ref 52, Value.int 385 0, Value.int 6 0, Value.str (Str.ofString "/claim/cut.py") 386]) #[]
noncomputable def o2_54 : Obj := by
  refine headLit (p := ?p) (b := ?b) (s := ?s) (x := (headStmt 5)) (fun p b s => Obj.mk (Value.type "function") Option.none (Data.func (FuncData.mk (Str.ofString "_formatparam") (Str.ofString "_formatparam") p (FuncBody.stmts b) s 3 [] (Value.ref 47) Value.none Value.none (Value.str (Str.ofString "cpy313.wsgiref.headers") 282) Option.none (Value.ref 53) Value.none 0)) #[]) ?hp ?hb ?hs
  case hp => (conv => lhs; whnf) <;> exact rfl
  case hb => (conv => lhs; whnf) <;> exact rfl
  case hs => (conv => lhs; whnf) <;> exact rfl
noncomputable def headH2 (P : Params) : Heap := ⟨⟨[o0_0 P, o0_1 P, o0_2 P, o2_3 P, o0_4, o0_5, o0_6, o0_7, o0_8, o0_9, o0_10, o0_11 P, o0_12, o0_13 P, o0_14, o0_15, o0_16, o0_17, o0_18, o0_19, o0_20 P, o0_21 P, o0_22, o0_23, o0_24, o0_25, o0_26, o0_27, o1_28, o2_29, o1_30, o1_31, o2_32, o2_33, o2_34, o2_35, o2_36, o2_37, o2_38, o2_39, o2_40, o2_41, o2_42, o2_43, o2_44, o2_45, o2_46, o2_47, o2_48, o2_49, o2_50, o2_51, o2_52, o2_53, o2_54]⟩, headLife⟩
noncomputable def o3_3 (P : Params) : Obj := Obj.mk (Value.type "dict") Option.none (Data.dict #[DictEntry.mk (PyData.keyHash P (Str.ofString "__name__")) (Value.str (Str.ofString "__name__") 165) (Value.str (Str.ofString "cpy313.wsgiref.headers") 282), DictEntry.mk (PyData.keyHash P (Str.ofString "__doc__")) (Value.str (Str.ofString "__doc__") 166) Value.none, DictEntry.mk (PyData.keyHash P (Str.ofString "__package__")) (Value.str (Str.ofString "__package__") 167) Value.none, DictEntry.mk (PyData.keyHash P (Str.ofString "__loader__")) (Value.str (Str.ofString "__loader__") 168) (Value.builtin "__main__.__loader__#opaque"), DictEntry.mk (PyData.keyHash P (Str.ofString "__spec__")) (Value.str (Str.ofString "__spec__") 169) Value.none, DictEntry.mk (PyData.keyHash P (Str.ofString "__annotations__")) (Value.str (Str.ofString "__annotations__") 170) (Value.ref 6), DictEntry.mk (PyData.keyHash P (Str.ofString "__builtins__")) (Value.str (Str.ofString "__builtins__") 171) (Value.ref 4), DictEntry.mk (PyData.keyHash P (Str.ofString "__file__")) (Value.str (Str.ofString "__file__") 173) (Value.str (Str.ofString "/claim/cut.py") 172), DictEntry.mk (PyData.keyHash P (Str.ofString "__cached__")) (Value.str (Str.ofString "__cached__") 174) Value.none, DictEntry.mk (PyData.keyHash P (Str.ofString "_sre")) (Value.str (Str.ofString "_sre") 275) (Value.ref 12), DictEntry.mk (PyData.keyHash P (Str.ofString "tspecials")) (Value.str (Str.ofString "tspecials") 317) (Value.ref 36), DictEntry.mk (PyData.keyHash P (Str.ofString "_name_disallowed_re")) (Value.str (Str.ofString "_name_disallowed_re") 343) (Value.ref 41), DictEntry.mk (PyData.keyHash P (Str.ofString "_value_disallowed_re")) (Value.str (Str.ofString "_value_disallowed_re") 377) (Value.ref 46), DictEntry.mk (PyData.keyHash P (Str.ofString "_formatparam")) (Value.str (Str.ofString "_formatparam") 387) (Value.ref 54), DictEntry.mk (PyData.keyHash P (Str.ofString "Headers")) (Value.str (Str.ofString "Headers") 545) (Value.ref 175)] 15) #[]
noncomputable def o3_29 : Obj := Obj.mk Value.none Option.none (Data.fields #[Value.int 6 0, Value.int 0 0, Value.ref 53, Value.int 15 0, Value.int 0 0, Value.ref 60]) #[]
noncomputable def o3_55 : Obj := Obj.mk (Value.type "tuple") Option.none (Data.seq #[]) #[]
noncomputable def o3_56 : Obj := Obj.mk (Value.type "builtin_function_or_method") Option.none (Data.fields #[Value.builtin "type.__prepare__", Value.type "type"]) #[]
noncomputable def o3_57 (P : Params) : Obj := Obj.mk (Value.type "dict") Option.none (Data.dict #[DictEntry.mk (PyData.keyHash P (Str.ofString "__module__")) (Value.str (Str.ofString "__module__") 395) (Value.str (Str.ofString "cpy313.wsgiref.headers") 282), DictEntry.mk (PyData.keyHash P (Str.ofString "__qualname__")) (Value.str (Str.ofString "__qualname__") 397) (Value.str (Str.ofString "Headers") 396), DictEntry.mk (PyData.keyHash P (Str.ofString "__firstlineno__")) (Value.str (Str.ofString "__firstlineno__") 399) (Value.int 15 398), DictEntry.mk (PyData.keyHash P (Str.ofString "__init__")) (Value.str (Str.ofString "__init__") 409) (Value.ref 69), DictEntry.mk (PyData.keyHash P (Str.ofString "_convert_string_type")) (Value.str (Str.ofString "_convert_string_type") 419) (Value.ref 76), DictEntry.mk (PyData.keyHash P (Str.ofString "__len__")) (Value.str (Str.ofString "__len__") 426) (Value.ref 83), DictEntry.mk (PyData.keyHash P (Str.ofString "__setitem__")) (Value.str (Str.ofString "__setitem__") 435) (Value.ref 90), DictEntry.mk (PyData.keyHash P (Str.ofString "__delitem__")) (Value.str (Str.ofString "__delitem__") 441) (Value.ref 95), DictEntry.mk (PyData.keyHash P (Str.ofString "__getitem__")) (Value.str (Str.ofString "__getitem__") 449) (Value.ref 102), DictEntry.mk (PyData.keyHash P (Str.ofString "__contains__")) (Value.str (Str.ofString "__contains__") 457) (Value.ref 109), DictEntry.mk (PyData.keyHash P (Str.ofString "get_all")) (Value.str (Str.ofString "get_all") 463) (Value.ref 114), DictEntry.mk (PyData.keyHash P (Str.ofString "get")) (Value.str (Str.ofString "get") 474) (Value.ref 122), DictEntry.mk (PyData.keyHash P (Str.ofString "keys")) (Value.str (Str.ofString "keys") 480) (Value.ref 127), DictEntry.mk (PyData.keyHash P (Str.ofString "values")) (Value.str (Str.ofString "values") 486) (Value.ref 132), DictEntry.mk (PyData.keyHash P (Str.ofString "items")) (Value.str (Str.ofString "items") 493) (Value.ref 139), DictEntry.mk (PyData.keyHash P (Str.ofString "__repr__")) (Value.str (Str.ofString "__repr__") 500) (Value.ref 146), DictEntry.mk (PyData.keyHash P (Str.ofString "__str__")) (Value.str (Str.ofString "__str__") 506) (Value.ref 151), DictEntry.mk (PyData.keyHash P (Str.ofString "__bytes__")) (Value.str (Str.ofString "__bytes__") 513) (Value.ref 158), DictEntry.mk (PyData.keyHash P (Str.ofString "setdefault")) (Value.str (Str.ofString "setdefault") 523) (Value.ref 165), DictEntry.mk (PyData.keyHash P (Str.ofString "add_header")) (Value.str (Str.ofString "add_header") 536) (Value.ref 172), DictEntry.mk (PyData.keyHash P (Str.ofString "__static_attributes__")) (Value.str (Str.ofString "__static_attributes__") 538) (Value.ref 173)] 21) #[]
noncomputable def o3_58 : Obj := Obj.mk (Value.type "tuple") Option.none (Data.seq #[]) #[]
noncomputable def o3_59 : Obj := Obj.mk Value.none Option.none (Data.fields #[Value.int 17 0, Value.int 4 0, Value.ref 68, Value.int 27 0, Value.int 4 0, Value.ref 75, Value.int 35 0, Value.int 4 0, Value.ref 82, Value.int 38 0, Value.int 4 0, Value.ref 89, Value.int 42 0, Value.int 4 0, Value.ref 94, Value.int 46 0, Value.int 4 0, Value.ref 101, Value.int 49 0, Value.int 4 0, Value.ref 108, Value.int 52 0, Value.int 4 0, Value.ref 113, Value.int 56 0, Value.int 4 0, Value.ref 121, Value.int 63 0, Value.int 4 0, Value.ref 126, Value.int 66 0, Value.int 4 0, Value.ref 131, Value.int 69 0, Value.int 4 0, Value.ref 138, Value.int 72 0, Value.int 4 0, Value.ref 145, Value.int 75 0, Value.int 4 0, Value.ref 150, Value.int 78 0, Value.int 4 0, Value.ref 157, Value.int 81 0, Value.int 4 0, Value.ref 164, Value.int 89 0, Value.int 4 0, Value.ref 171]) #[]
noncomputable def o3_60 : Obj := Obj.mk (Value.type "code") Option.none (Data.fields #[Value.str (Str.ofString "Headers") 390, Value.str (Str.ofString "Headers") 391, Value.str (Str.ofString "/claim/cut.py") 392, Value.int 15 0, Value.int 0 0, Value.int 0 0, Value.int 0 0, Value.int 0 0, Value.ref 58, Value.bool Bool.false, Value.int 276 0, Value.ref 59, Value.none, Value.none, Value.none, Value.none, Value.int 393 0, Value.int 15 0, Value.str (Str.ofString "/claim/cut.py") 394]) #[]
noncomputable def o3_61 : Obj := Obj.mk (Value.type "frame") Option.none Data.plain #[Option.some (Value.ref 60), Option.some (Value.ref 3), Option.some (Value.ref 57), Option.none, Option.some (Value.str (Str.ofString "cpy313.wsgiref.headers") 282), Option.none, Option.some (Value.ref 0)]
noncomputable def o3_62 : Obj := Obj.mk (Value.type "tuple") Option.none (Data.seq #[Value.none]) #[]
noncomputable def o3_63 : Obj := Obj.mk (Value.type "tuple") Option.none (Data.seq #[]) #[]
noncomputable def o3_64 : Obj := Obj.mk Value.none Option.none (Data.fields #[]) #[]
noncomputable def o3_65 : Obj := Obj.mk (Value.type "tuple") Option.none (Data.seq #[Value.str (Str.ofString "self") 403, Value.str (Str.ofString "headers") 404, Value.str (Str.ofString "k") 405, Value.str (Str.ofString "v") 406]) #[]
noncomputable def o3_66 : Obj := Obj.mk (Value.type "tuple") Option.none (Data.seq #[]) #[]
noncomputable def o3_67 : Obj := by
  refine headLit (p := ?p) (b := ?b) (s := ?s) (x := (headInner 6 0)) (fun p b s => Obj.mk Value.none Option.none (Data.func (FuncData.mk (Str.ofString "__init__") (Str.ofString "Headers.__init__") p (FuncBody.stmts b) s 0 [] Value.none Value.none Value.none Value.none Option.none Value.none Value.none 0)) #[]) ?hp ?hb ?hs
  case hp => (conv => lhs; whnf) <;> exact rfl
  case hb => (conv => lhs; whnf) <;> exact rfl
  case hs => (conv => lhs; whnf) <;> exact rfl
noncomputable def o3_68 : Obj := Obj.mk (Value.type "code") Option.none (Data.fields #[Value.str (Str.ofString "__init__") 400, Value.str (Str.ofString "Headers.__init__") 401, Value.str (Str.ofString "/claim/cut.py") 402, Value.int 17 0, Value.int 2 0, Value.int 0 0, Value.int 0 0, Value.int 3 0, Value.ref 63, Value.bool Bool.true, Value.int 276 0, Value.ref 64, Value.none, Value.ref 65, Value.ref 66, Value.ref 67, Value.int 407 0, Value.int 17 0, Value.str (Str.ofString "/claim/cut.py") 408]) #[]
noncomputable def o3_69 : Obj := by
  refine headLit (p := ?p) (b := ?b) (s := ?s) (x := (headInner 6 0)) (fun p b s => Obj.mk (Value.type "function") Option.none (Data.func (FuncData.mk (Str.ofString "__init__") (Str.ofString "Headers.__init__") p (FuncBody.stmts b) s 3 [] (Value.ref 62) Value.none Value.none (Value.str (Str.ofString "cpy313.wsgiref.headers") 282) Option.none (Value.ref 68) Value.none 0)) #[]) ?hp ?hb ?hs
  case hp => (conv => lhs; whnf) <;> exact rfl
  case hb => (conv => lhs; whnf) <;> exact rfl
  case hs => (conv => lhs; whnf) <;> exact rfl
noncomputable def o3_70 : Obj := Obj.mk (Value.type "tuple") Option.none (Data.seq #[]) #[]
noncomputable def o3_71 : Obj := Obj.mk Value.none Option.none (Data.fields #[]) #[]
noncomputable def o3_72 : Obj := Obj.mk (Value.type "tuple") Option.none (Data.seq #[Value.str (Str.ofString "self") 413, Value.str (Str.ofString "value") 414, Value.str (Str.ofString "name") 415, Value.str (Str.ofString "regex") 416]) #[]
noncomputable def o3_73 : Obj := Obj.mk (Value.type "tuple") Option.none (Data.seq #[]) #[]
noncomputable def o3_74 : Obj := by
  refine headLit (p := ?p) (b := ?b) (s := ?s) (x := (headInner 6 1)) (fun p b s => Obj.mk Value.none Option.none (Data.func (FuncData.mk (Str.ofString "_convert_string_type") (Str.ofString "Headers._convert_string_type") p (FuncBody.stmts b) s 0 [] Value.none Value.none Value.none Value.none Option.none Value.none Value.none 0)) #[]) ?hp ?hb ?hs
  case hp => (conv => lhs; whnf) <;> exact rfl
  case hb => (conv => lhs; whnf) <;> exact rfl
  case hs => (conv => lhs; whnf) <;> exact rfl
noncomputable def o3_75 : Obj := Obj.mk (Value.type "code") Option.none (Data.fields #[Value.str (Str.ofString "_convert_string_type") 410, Value.str (Str.ofString "Headers._convert_string_type") 411, Value.str (Str.ofString "/claim/cut.py") 412, Value.int 27 0, Value.int 2 0, Value.int 0 0, Value.int 1 0, Value.int 3 0, Value.ref 70, Value.bool Bool.true, Value.int 276 0, Value.ref 71, Value.none, Value.ref 72, Value.ref 73, Value.ref 74, Value.int 417 0, Value.int 27 0, Value.str (Str.ofString "/claim/cut.py") 418]) #[]
noncomputable def o3_76 : Obj := by
  refine headLit (p := ?p) (b := ?b) (s := ?s) (x := (headInner 6 1)) (fun p b s => Obj.mk (Value.type "function") Option.none (Data.func (FuncData.mk (Str.ofString "_convert_string_type") (Str.ofString "Headers._convert_string_type") p (FuncBody.stmts b) s 3 [] Value.none Value.none Value.none (Value.str (Str.ofString "cpy313.wsgiref.headers") 282) Option.none (Value.ref 75) Value.none 0)) #[]) ?hp ?hb ?hs
  case hp => (conv => lhs; whnf) <;> exact rfl
  case hb => (conv => lhs; whnf) <;> exact rfl
  case hs => (conv => lhs; whnf) <;> exact rfl
noncomputable def o3_77 : Obj := Obj.mk (Value.type "tuple") Option.none (Data.seq #[]) #[]
noncomputable def o3_78 : Obj := Obj.mk Value.none Option.none (Data.fields #[]) #[]
noncomputable def o3_79 : Obj := Obj.mk (Value.type "tuple") Option.none (Data.seq #[Value.str (Str.ofString "self") 423]) #[]
noncomputable def o3_80 : Obj := Obj.mk (Value.type "tuple") Option.none (Data.seq #[]) #[]
noncomputable def o3_81 : Obj := by
  refine headLit (p := ?p) (b := ?b) (s := ?s) (x := (headInner 6 2)) (fun p b s => Obj.mk Value.none Option.none (Data.func (FuncData.mk (Str.ofString "__len__") (Str.ofString "Headers.__len__") p (FuncBody.stmts b) s 0 [] Value.none Value.none Value.none Value.none Option.none Value.none Value.none 0)) #[]) ?hp ?hb ?hs
  case hp => (conv => lhs; whnf) <;> exact rfl
  case hb => (conv => lhs; whnf) <;> exact rfl
  case hs => (conv => lhs; whnf) <;> exact rfl
noncomputable def o3_82 : Obj := Obj.mk (Value.type "code") Option.none (Data.fields #[Value.str (Str.ofString "__len__") 420, Value.str (Str.ofString "Headers.__len__") 421, Value.str (Str.ofString "/claim/cut.py") 422, Value.int 35 0, Value.int 1 0, Value.int 0 0, Value.int 0 0, Value.int 3 0, Value.ref 77, Value.bool Bool.true, Value.int 276 0, Value.ref 78, Value.none, Value.ref 79, Value.ref 80, Value.ref 81, Value.int 424 0, Value.int 35 0, Value.str (Str.ofString "/claim/cut.py") 425]) #[]
noncomputable def o3_83 : Obj := by
  refine headLit (p := ?p) (b := ?b) (s := ?s) (x := (headInner 6 2)) (fun p b s => Obj.mk (Value.type "function") Option.none (Data.func (FuncData.mk (Str.ofString "__len__") (Str.ofString "Headers.__len__") p (FuncBody.stmts b) s 3 [] Value.none Value.none Value.none (Value.str (Str.ofString "cpy313.wsgiref.headers") 282) Option.none (Value.ref 82) Value.none 0)) #[]) ?hp ?hb ?hs
  case hp => (conv => lhs; whnf) <;> exact rfl
  case hb => (conv => lhs; whnf) <;> exact rfl
  case hs => (conv => lhs; whnf) <;> exact rfl
noncomputable def o3_84 : Obj := Obj.mk (Value.type "tuple") Option.none (Data.seq #[]) #[]
noncomputable def o3_85 : Obj := Obj.mk Value.none Option.none (Data.fields #[]) #[]
noncomputable def o3_86 : Obj := Obj.mk (Value.type "tuple") Option.none (Data.seq #[Value.str (Str.ofString "self") 430, Value.str (Str.ofString "name") 431, Value.str (Str.ofString "val") 432]) #[]
noncomputable def o3_87 : Obj := Obj.mk (Value.type "tuple") Option.none (Data.seq #[]) #[]
noncomputable def o3_88 : Obj := by
  refine headLit (p := ?p) (b := ?b) (s := ?s) (x := (headInner 6 3)) (fun p b s => Obj.mk Value.none Option.none (Data.func (FuncData.mk (Str.ofString "__setitem__") (Str.ofString "Headers.__setitem__") p (FuncBody.stmts b) s 0 [] Value.none Value.none Value.none Value.none Option.none Value.none Value.none 0)) #[]) ?hp ?hb ?hs
  case hp => (conv => lhs; whnf) <;> exact rfl
  case hb => (conv => lhs; whnf) <;> exact rfl
  case hs => (conv => lhs; whnf) <;> exact rfl
noncomputable def o3_89 : Obj := Obj.mk (Value.type "code") Option.none (Data.fields #[Value.str (Str.ofString "__setitem__") 427, Value.str (Str.ofString "Headers.__setitem__") 428, Value.str (Str.ofString "/claim/cut.py") 429, Value.int 38 0, Value.int 3 0, Value.int 0 0, Value.int 0 0, Value.int 3 0, Value.ref 84, Value.bool Bool.true, Value.int 276 0, Value.ref 85, Value.none, Value.ref 86, Value.ref 87, Value.ref 88, Value.int 433 0, Value.int 38 0, Value.str (Str.ofString "/claim/cut.py") 434]) #[]
noncomputable def o3_90 : Obj := by
  refine headLit (p := ?p) (b := ?b) (s := ?s) (x := (headInner 6 3)) (fun p b s => Obj.mk (Value.type "function") Option.none (Data.func (FuncData.mk (Str.ofString "__setitem__") (Str.ofString "Headers.__setitem__") p (FuncBody.stmts b) s 3 [] Value.none Value.none Value.none (Value.str (Str.ofString "cpy313.wsgiref.headers") 282) Option.none (Value.ref 89) Value.none 0)) #[]) ?hp ?hb ?hs
  case hp => (conv => lhs; whnf) <;> exact rfl
  case hb => (conv => lhs; whnf) <;> exact rfl
  case hs => (conv => lhs; whnf) <;> exact rfl
noncomputable def o3_91 : Obj := Obj.mk (Value.type "tuple") Option.none (Data.seq #[]) #[]
noncomputable def o3_92 : Obj := Obj.mk Value.none Option.none (Data.fields #[]) #[]
noncomputable def o3_93 : Obj := by
  refine headLit (p := ?p) (b := ?b) (s := ?s) (x := (headInner 6 4)) (fun p b s => Obj.mk Value.none Option.none (Data.func (FuncData.mk (Str.ofString "__delitem__") (Str.ofString "Headers.__delitem__") p (FuncBody.stmts b) s 0 [] Value.none Value.none Value.none Value.none Option.none Value.none Value.none 0)) #[]) ?hp ?hb ?hs
  case hp => (conv => lhs; whnf) <;> exact rfl
  case hb => (conv => lhs; whnf) <;> exact rfl
  case hs => (conv => lhs; whnf) <;> exact rfl
noncomputable def o3_94 : Obj := Obj.mk (Value.type "code") Option.none (Data.fields #[Value.str (Str.ofString "__delitem__") 436, Value.str (Str.ofString "Headers.__delitem__") 437, Value.str (Str.ofString "/claim/cut.py") 438, Value.int 42 0, Value.int 2 0, Value.int 0 0, Value.int 0 0, Value.int 3 0, Value.ref 91, Value.bool Bool.true, Value.int 276 0, Value.ref 92, Value.none, Value.none, Value.none, Value.ref 93, Value.int 439 0, Value.int 42 0, Value.str (Str.ofString "/claim/cut.py") 440]) #[]
noncomputable def o3_95 : Obj := by
  refine headLit (p := ?p) (b := ?b) (s := ?s) (x := (headInner 6 4)) (fun p b s => Obj.mk (Value.type "function") Option.none (Data.func (FuncData.mk (Str.ofString "__delitem__") (Str.ofString "Headers.__delitem__") p (FuncBody.stmts b) s 3 [] Value.none Value.none Value.none (Value.str (Str.ofString "cpy313.wsgiref.headers") 282) Option.none (Value.ref 94) Value.none 0)) #[]) ?hp ?hb ?hs
  case hp => (conv => lhs; whnf) <;> exact rfl
  case hb => (conv => lhs; whnf) <;> exact rfl
  case hs => (conv => lhs; whnf) <;> exact rfl
noncomputable def o3_96 : Obj := Obj.mk (Value.type "tuple") Option.none (Data.seq #[]) #[]
noncomputable def o3_97 : Obj := Obj.mk Value.none Option.none (Data.fields #[]) #[]
noncomputable def o3_98 : Obj := Obj.mk (Value.type "tuple") Option.none (Data.seq #[Value.str (Str.ofString "self") 445, Value.str (Str.ofString "name") 446]) #[]
noncomputable def o3_99 : Obj := Obj.mk (Value.type "tuple") Option.none (Data.seq #[]) #[]
noncomputable def o3_100 : Obj := by
  refine headLit (p := ?p) (b := ?b) (s := ?s) (x := (headInner 6 5)) (fun p b s => Obj.mk Value.none Option.none (Data.func (FuncData.mk (Str.ofString "__getitem__") (Str.ofString "Headers.__getitem__") p (FuncBody.stmts b) s 0 [] Value.none Value.none Value.none Value.none Option.none Value.none Value.none 0)) #[]) ?hp ?hb ?hs
  case hp => (conv => lhs; whnf) <;> exact rfl
  case hb => (conv => lhs; whnf) <;> exact rfl
  case hs => (conv => lhs; whnf) <;> exact rfl
noncomputable def o3_101 : Obj := Obj.mk (Value.type "code") Option.none (Data.fields #[Value.str (Str.ofString "__getitem__") 442, Value.str (Str.ofString "Headers.__getitem__") 443, Value.str (Str.ofString "/claim/cut.py") 444, Value.int 46 0, Value.int 2 0, Value.int 0 0, Value.int 0 0, Value.int 3 0, Value.ref 96, Value.bool Bool.true, Value.int 276 0, Value.ref 97, Value.none, Value.ref 98, Value.ref 99, Value.ref 100, Value.int 447 0, Value.int 46 0, Value.str (Str.ofString "/claim/cut.py") 448]) #[]
noncomputable def o3_102 : Obj := by
  refine headLit (p := ?p) (b := ?b) (s := ?s) (x := (headInner 6 5)) (fun p b s => Obj.mk (Value.type "function") Option.none (Data.func (FuncData.mk (Str.ofString "__getitem__") (Str.ofString "Headers.__getitem__") p (FuncBody.stmts b) s 3 [] Value.none Value.none Value.none (Value.str (Str.ofString "cpy313.wsgiref.headers") 282) Option.none (Value.ref 101) Value.none 0)) #[]) ?hp ?hb ?hs
  case hp => (conv => lhs; whnf) <;> exact rfl
  case hb => (conv => lhs; whnf) <;> exact rfl
  case hs => (conv => lhs; whnf) <;> exact rfl
noncomputable def o3_103 : Obj := Obj.mk (Value.type "tuple") Option.none (Data.seq #[]) #[]
noncomputable def o3_104 : Obj := Obj.mk Value.none Option.none (Data.fields #[]) #[]
noncomputable def o3_105 : Obj := Obj.mk (Value.type "tuple") Option.none (Data.seq #[Value.str (Str.ofString "self") 453, Value.str (Str.ofString "name") 454]) #[]
noncomputable def o3_106 : Obj := Obj.mk (Value.type "tuple") Option.none (Data.seq #[]) #[]
noncomputable def o3_107 : Obj := by
  refine headLit (p := ?p) (b := ?b) (s := ?s) (x := (headInner 6 6)) (fun p b s => Obj.mk Value.none Option.none (Data.func (FuncData.mk (Str.ofString "__contains__") (Str.ofString "Headers.__contains__") p (FuncBody.stmts b) s 0 [] Value.none Value.none Value.none Value.none Option.none Value.none Value.none 0)) #[]) ?hp ?hb ?hs
  case hp => (conv => lhs; whnf) <;> exact rfl
  case hb => (conv => lhs; whnf) <;> exact rfl
  case hs => (conv => lhs; whnf) <;> exact rfl
noncomputable def o3_108 : Obj := Obj.mk (Value.type "code") Option.none (Data.fields #[Value.str (Str.ofString "__contains__") 450, Value.str (Str.ofString "Headers.__contains__") 451, Value.str (Str.ofString "/claim/cut.py") 452, Value.int 49 0, Value.int 2 0, Value.int 0 0, Value.int 0 0, Value.int 3 0, Value.ref 103, Value.bool Bool.true, Value.int 276 0, Value.ref 104, Value.none, Value.ref 105, Value.ref 106, Value.ref 107, Value.int 455 0, Value.int 49 0, Value.str (Str.ofString "/claim/cut.py") 456]) #[]
noncomputable def o3_109 : Obj := by
  refine headLit (p := ?p) (b := ?b) (s := ?s) (x := (headInner 6 6)) (fun p b s => Obj.mk (Value.type "function") Option.none (Data.func (FuncData.mk (Str.ofString "__contains__") (Str.ofString "Headers.__contains__") p (FuncBody.stmts b) s 3 [] Value.none Value.none Value.none (Value.str (Str.ofString "cpy313.wsgiref.headers") 282) Option.none (Value.ref 108) Value.none 0)) #[]) ?hp ?hb ?hs
  case hp => (conv => lhs; whnf) <;> exact rfl
  case hb => (conv => lhs; whnf) <;> exact rfl
  case hs => (conv => lhs; whnf) <;> exact rfl
noncomputable def o3_110 : Obj := Obj.mk (Value.type "tuple") Option.none (Data.seq #[]) #[]
noncomputable def o3_111 : Obj := Obj.mk Value.none Option.none (Data.fields #[]) #[]
noncomputable def o3_112 : Obj := by
  refine headLit (p := ?p) (b := ?b) (s := ?s) (x := (headInner 6 7)) (fun p b s => Obj.mk Value.none Option.none (Data.func (FuncData.mk (Str.ofString "get_all") (Str.ofString "Headers.get_all") p (FuncBody.stmts b) s 0 [] Value.none Value.none Value.none Value.none Option.none Value.none Value.none 0)) #[]) ?hp ?hb ?hs
  case hp => (conv => lhs; whnf) <;> exact rfl
  case hb => (conv => lhs; whnf) <;> exact rfl
  case hs => (conv => lhs; whnf) <;> exact rfl
noncomputable def o3_113 : Obj := Obj.mk (Value.type "code") Option.none (Data.fields #[Value.str (Str.ofString "get_all") 458, Value.str (Str.ofString "Headers.get_all") 459, Value.str (Str.ofString "/claim/cut.py") 460, Value.int 52 0, Value.int 2 0, Value.int 0 0, Value.int 0 0, Value.int 3 0, Value.ref 110, Value.bool Bool.true, Value.int 276 0, Value.ref 111, Value.none, Value.none, Value.none, Value.ref 112, Value.int 461 0, Value.int 52 0, Value.str (Str.ofString "/claim/cut.py") 462]) #[]
noncomputable def o3_114 : Obj := by
  refine headLit (p := ?p) (b := ?b) (s := ?s) (x := (headInner 6 7)) (fun p b s => Obj.mk (Value.type "function") Option.none (Data.func (FuncData.mk (Str.ofString "get_all") (Str.ofString "Headers.get_all") p (FuncBody.stmts b) s 3 [] Value.none Value.none Value.none (Value.str (Str.ofString "cpy313.wsgiref.headers") 282) Option.none (Value.ref 113) Value.none 0)) #[]) ?hp ?hb ?hs
  case hp => (conv => lhs; whnf) <;> exact rfl
  case hb => (conv => lhs; whnf) <;> exact rfl
  case hs => (conv => lhs; whnf) <;> exact rfl
noncomputable def o3_115 : Obj := Obj.mk (Value.type "tuple") Option.none (Data.seq #[Value.none]) #[]
noncomputable def o3_116 : Obj := Obj.mk (Value.type "tuple") Option.none (Data.seq #[]) #[]
noncomputable def o3_117 : Obj := Obj.mk Value.none Option.none (Data.fields #[]) #[]
noncomputable def o3_118 : Obj := Obj.mk (Value.type "tuple") Option.none (Data.seq #[Value.str (Str.ofString "self") 467, Value.str (Str.ofString "name") 468, Value.str (Str.ofString "default") 469, Value.str (Str.ofString "k") 470, Value.str (Str.ofString "v") 471]) #[]
noncomputable def o3_119 : Obj := Obj.mk (Value.type "tuple") Option.none (Data.seq #[]) #[]
noncomputable def o3_120 : Obj := by
  refine headLit (p := ?p) (b := ?b) (s := ?s) (x := (headInner 6 8)) (fun p b s => Obj.mk Value.none Option.none (Data.func (FuncData.mk (Str.ofString "get") (Str.ofString "Headers.get") p (FuncBody.stmts b) s 0 [] Value.none Value.none Value.none Value.none Option.none Value.none Value.none 0)) #[]) ?hp ?hb ?hs
  case hp => (conv => lhs; whnf) <;> exact rfl
  case hb => (conv => lhs; whnf) <;> exact rfl
  case hs => (conv => lhs; whnf) <;> exact rfl
noncomputable def o3_121 : Obj := Obj.mk (Value.type "code") Option.none (Data.fields #[Value.str (Str.ofString "get") 464, Value.str (Str.ofString "Headers.get") 465, Value.str (Str.ofString "/claim/cut.py") 466, Value.int 56 0, Value.int 3 0, Value.int 0 0, Value.int 0 0, Value.int 3 0, Value.ref 116, Value.bool Bool.true, Value.int 276 0, Value.ref 117, Value.none, Value.ref 118, Value.ref 119, Value.ref 120, Value.int 472 0, Value.int 56 0, Value.str (Str.ofString "/claim/cut.py") 473]) #[]
noncomputable def o3_122 : Obj := by
  refine headLit (p := ?p) (b := ?b) (s := ?s) (x := (headInner 6 8)) (fun p b s => Obj.mk (Value.type "function") Option.none (Data.func (FuncData.mk (Str.ofString "get") (Str.ofString "Headers.get") p (FuncBody.stmts b) s 3 [] (Value.ref 115) Value.none Value.none (Value.str (Str.ofString "cpy313.wsgiref.headers") 282) Option.none (Value.ref 121) Value.none 0)) #[]) ?hp ?hb ?hs
  case hp => (conv => lhs; whnf) <;> exact rfl
  case hb => (conv => lhs; whnf) <;> exact rfl
  case hs => (conv => lhs; whnf) <;> exact rfl
noncomputable def o3_123 : Obj := Obj.mk (Value.type "tuple") Option.none (Data.seq #[]) #[]
noncomputable def o3_124 : Obj := Obj.mk Value.none Option.none (Data.fields #[]) #[]
noncomputable def o3_125 : Obj := by
  refine headLit (p := ?p) (b := ?b) (s := ?s) (x := (headInner 6 9)) (fun p b s => Obj.mk Value.none Option.none (Data.func (FuncData.mk (Str.ofString "keys") (Str.ofString "Headers.keys") p (FuncBody.stmts b) s 0 [] Value.none Value.none Value.none Value.none Option.none Value.none Value.none 0)) #[]) ?hp ?hb ?hs
  case hp => (conv => lhs; whnf) <;> exact rfl
  case hb => (conv => lhs; whnf) <;> exact rfl
  case hs => (conv => lhs; whnf) <;> exact rfl
noncomputable def o3_126 : Obj := Obj.mk (Value.type "code") Option.none (Data.fields #[Value.str (Str.ofString "keys") 475, Value.str (Str.ofString "Headers.keys") 476, Value.str (Str.ofString "/claim/cut.py") 477, Value.int 63 0, Value.int 1 0, Value.int 0 0, Value.int 0 0, Value.int 3 0, Value.ref 123, Value.bool Bool.true, Value.int 276 0, Value.ref 124, Value.none, Value.none, Value.none, Value.ref 125, Value.int 478 0, Value.int 63 0, Value.str (Str.ofString "/claim/cut.py") 479]) #[]
noncomputable def o3_127 : Obj := by
  refine headLit (p := ?p) (b := ?b) (s := ?s) (x := (headInner 6 9)) (fun p b s => Obj.mk (Value.type "function") Option.none (Data.func (FuncData.mk (Str.ofString "keys") (Str.ofString "Headers.keys") p (FuncBody.stmts b) s 3 [] Value.none Value.none Value.none (Value.str (Str.ofString "cpy313.wsgiref.headers") 282) Option.none (Value.ref 126) Value.none 0)) #[]) ?hp ?hb ?hs
  case hp => (conv => lhs; whnf) <;> exact rfl
  case hb => (conv => lhs; whnf) <;> exact rfl
  case hs => (conv => lhs; whnf) <;> exact rfl
noncomputable def o3_128 : Obj := Obj.mk (Value.type "tuple") Option.none (Data.seq #[]) #[]
noncomputable def o3_129 : Obj := Obj.mk Value.none Option.none (Data.fields #[]) #[]
noncomputable def o3_130 : Obj := by
  refine headLit (p := ?p) (b := ?b) (s := ?s) (x := (headInner 6 10)) (fun p b s => Obj.mk Value.none Option.none (Data.func (FuncData.mk (Str.ofString "values") (Str.ofString "Headers.values") p (FuncBody.stmts b) s 0 [] Value.none Value.none Value.none Value.none Option.none Value.none Value.none 0)) #[]) ?hp ?hb ?hs
  case hp => (conv => lhs; whnf) <;> exact rfl
  case hb => (conv => lhs; whnf) <;> exact rfl
  case hs => (conv => lhs; whnf) <;> exact rfl
noncomputable def o3_131 : Obj := Obj.mk (Value.type "code") Option.none (Data.fields #[Value.str (Str.ofString "values") 481, Value.str (Str.ofString "Headers.values") 482, Value.str (Str.ofString "/claim/cut.py") 483, Value.int 66 0, Value.int 1 0, Value.int 0 0, Value.int 0 0, Value.int 3 0, Value.ref 128, Value.bool Bool.true, Value.int 276 0, Value.ref 129, Value.none, Value.none, Value.none, Value.ref 130, Value.int 484 0, Value.int 66 0, Value.str (Str.ofString "/claim/cut.py") 485]) #[]
noncomputable def o3_132 : Obj := by
  refine headLit (p := ?p) (b := ?b) (s := ?s) (x := (headInner 6 10)) (fun p b s => Obj.mk (Value.type "function") Option.none (Data.func (FuncData.mk (Str.ofString "values") (Str.ofString "Headers.values") p (FuncBody.stmts b) s 3 [] Value.none Value.none Value.none (Value.str (Str.ofString "cpy313.wsgiref.headers") 282) Option.none (Value.ref 131) Value.none 0)) #[]) ?hp ?hb ?hs
  case hp => (conv => lhs; whnf) <;> exact rfl
  case hb => (conv => lhs; whnf) <;> exact rfl
  case hs => (conv => lhs; whnf) <;> exact rfl
noncomputable def o3_133 : Obj := Obj.mk (Value.type "tuple") Option.none (Data.seq #[]) #[]
noncomputable def o3_134 : Obj := Obj.mk Value.none Option.none (Data.fields #[]) #[]
noncomputable def o3_135 : Obj := Obj.mk (Value.type "tuple") Option.none (Data.seq #[Value.str (Str.ofString "self") 490]) #[]
noncomputable def o3_136 : Obj := Obj.mk (Value.type "tuple") Option.none (Data.seq #[]) #[]
noncomputable def o3_137 : Obj := by
  refine headLit (p := ?p) (b := ?b) (s := ?s) (x := (headInner 6 11)) (fun p b s => Obj.mk Value.none Option.none (Data.func (FuncData.mk (Str.ofString "items") (Str.ofString "Headers.items") p (FuncBody.stmts b) s 0 [] Value.none Value.none Value.none Value.none Option.none Value.none Value.none 0)) #[]) ?hp ?hb ?hs
  case hp => (conv => lhs; whnf) <;> exact rfl
  case hb => (conv => lhs; whnf) <;> exact rfl
  case hs => (conv => lhs; whnf) <;> exact rfl
noncomputable def o3_138 : Obj := Obj.mk (Value.type "code") Option.none (Data.fields #[Value.str (Str.ofString "items") 487, Value.str (Str.ofString "Headers.items") 488, Value.str (Str.ofString "/claim/cut.py") 489, Value.int 69 0, Value.int 1 0, Value.int 0 0, Value.int 0 0, Value.int 3 0, Value.ref 133, Value.bool Bool.true, Value.int 276 0, Value.ref 134, Value.none, Value.ref 135, Value.ref 136, Value.ref 137, Value.int 491 0, Value.int 69 0, Value.str (Str.ofString "/claim/cut.py") 492]) #[]
noncomputable def o3_139 : Obj := by
  refine headLit (p := ?p) (b := ?b) (s := ?s) (x := (headInner 6 11)) (fun p b s => Obj.mk (Value.type "function") Option.none (Data.func (FuncData.mk (Str.ofString "items") (Str.ofString "Headers.items") p (FuncBody.stmts b) s 3 [] Value.none Value.none Value.none (Value.str (Str.ofString "cpy313.wsgiref.headers") 282) Option.none (Value.ref 138) Value.none 0)) #[]) ?hp ?hb ?hs
  case hp => (conv => lhs; whnf) <;> exact rfl
  case hb => (conv => lhs; whnf) <;> exact rfl
  case hs => (conv => lhs; whnf) <;> exact rfl
noncomputable def o3_140 : Obj := Obj.mk (Value.type "tuple") Option.none (Data.seq #[]) #[]
noncomputable def o3_141 : Obj := Obj.mk Value.none Option.none (Data.fields #[]) #[]
noncomputable def o3_142 : Obj := Obj.mk (Value.type "tuple") Option.none (Data.seq #[Value.str (Str.ofString "self") 497]) #[]
noncomputable def o3_143 : Obj := Obj.mk (Value.type "tuple") Option.none (Data.seq #[]) #[]
noncomputable def o3_144 : Obj := by
  refine headLit (p := ?p) (b := ?b) (s := ?s) (x := (headInner 6 12)) (fun p b s => Obj.mk Value.none Option.none (Data.func (FuncData.mk (Str.ofString "__repr__") (Str.ofString "Headers.__repr__") p (FuncBody.stmts b) s 0 [] Value.none Value.none Value.none Value.none Option.none Value.none Value.none 0)) #[]) ?hp ?hb ?hs
  case hp => (conv => lhs; whnf) <;> exact rfl
  case hb => (conv => lhs; whnf) <;> exact rfl
  case hs => (conv => lhs; whnf) <;> exact rfl
noncomputable def o3_145 : Obj := Obj.mk (Value.type "code") Option.none (Data.fields #[Value.str (Str.ofString "__repr__") 494, Value.str (Str.ofString "Headers.__repr__") 495, Value.str (Str.ofString "/claim/cut.py") 496, Value.int 72 0, Value.int 1 0, Value.int 0 0, Value.int 0 0, Value.int 3 0, Value.ref 140, Value.bool Bool.true, Value.int 276 0, Value.ref 141, Value.none, Value.ref 142, Value.ref 143, Value.ref 144, Value.int 498 0, Value.int 72 0, Value.str (Str.ofString "/claim/cut.py") 499]) #[]
noncomputable def o3_146 : Obj := by
  refine headLit (p := ?p) (b := ?b) (s := ?s) (x := (headInner 6 12)) (fun p b s => Obj.mk (Value.type "function") Option.none (Data.func (FuncData.mk (Str.ofString "__repr__") (Str.ofString "Headers.__repr__") p (FuncBody.stmts b) s 3 [] Value.none Value.none Value.none (Value.str (Str.ofString "cpy313.wsgiref.headers") 282) Option.none (Value.ref 145) Value.none 0)) #[]) ?hp ?hb ?hs
  case hp => (conv => lhs; whnf) <;> exact rfl
  case hb => (conv => lhs; whnf) <;> exact rfl
  case hs => (conv => lhs; whnf) <;> exact rfl
noncomputable def o3_147 : Obj := Obj.mk (Value.type "tuple") Option.none (Data.seq #[]) #[]
noncomputable def o3_148 : Obj := Obj.mk Value.none Option.none (Data.fields #[]) #[]
noncomputable def o3_149 : Obj := by
  refine headLit (p := ?p) (b := ?b) (s := ?s) (x := (headInner 6 13)) (fun p b s => Obj.mk Value.none Option.none (Data.func (FuncData.mk (Str.ofString "__str__") (Str.ofString "Headers.__str__") p (FuncBody.stmts b) s 0 [] Value.none Value.none Value.none Value.none Option.none Value.none Value.none 0)) #[]) ?hp ?hb ?hs
  case hp => (conv => lhs; whnf) <;> exact rfl
  case hb => (conv => lhs; whnf) <;> exact rfl
  case hs => (conv => lhs; whnf) <;> exact rfl
noncomputable def o3_150 : Obj := Obj.mk (Value.type "code") Option.none (Data.fields #[Value.str (Str.ofString "__str__") 501, Value.str (Str.ofString "Headers.__str__") 502, Value.str (Str.ofString "/claim/cut.py") 503, Value.int 75 0, Value.int 1 0, Value.int 0 0, Value.int 0 0, Value.int 3 0, Value.ref 147, Value.bool Bool.true, Value.int 276 0, Value.ref 148, Value.none, Value.none, Value.none, Value.ref 149, Value.int 504 0, Value.int 75 0, Value.str (Str.ofString "/claim/cut.py") 505]) #[]
noncomputable def o3_151 : Obj := by
  refine headLit (p := ?p) (b := ?b) (s := ?s) (x := (headInner 6 13)) (fun p b s => Obj.mk (Value.type "function") Option.none (Data.func (FuncData.mk (Str.ofString "__str__") (Str.ofString "Headers.__str__") p (FuncBody.stmts b) s 3 [] Value.none Value.none Value.none (Value.str (Str.ofString "cpy313.wsgiref.headers") 282) Option.none (Value.ref 150) Value.none 0)) #[]) ?hp ?hb ?hs
  case hp => (conv => lhs; whnf) <;> exact rfl
  case hb => (conv => lhs; whnf) <;> exact rfl
  case hs => (conv => lhs; whnf) <;> exact rfl
noncomputable def o3_152 : Obj := Obj.mk (Value.type "tuple") Option.none (Data.seq #[]) #[]
noncomputable def o3_153 : Obj := Obj.mk Value.none Option.none (Data.fields #[]) #[]
noncomputable def o3_154 : Obj := Obj.mk (Value.type "tuple") Option.none (Data.seq #[Value.str (Str.ofString "self") 510]) #[]
noncomputable def o3_155 : Obj := Obj.mk (Value.type "tuple") Option.none (Data.seq #[]) #[]
noncomputable def o3_156 : Obj := by
  refine headLit (p := ?p) (b := ?b) (s := ?s) (x := (headInner 6 14)) (fun p b s => Obj.mk Value.none Option.none (Data.func (FuncData.mk (Str.ofString "__bytes__") (Str.ofString "Headers.__bytes__") p (FuncBody.stmts b) s 0 [] Value.none Value.none Value.none Value.none Option.none Value.none Value.none 0)) #[]) ?hp ?hb ?hs
  case hp => (conv => lhs; whnf) <;> exact rfl
  case hb => (conv => lhs; whnf) <;> exact rfl
  case hs => (conv => lhs; whnf) <;> exact rfl
noncomputable def o3_157 : Obj := Obj.mk (Value.type "code") Option.none (Data.fields #[Value.str (Str.ofString "__bytes__") 507, Value.str (Str.ofString "Headers.__bytes__") 508, Value.str (Str.ofString "/claim/cut.py") 509, Value.int 78 0, Value.int 1 0, Value.int 0 0, Value.int 0 0, Value.int 3 0, Value.ref 152, Value.bool Bool.true, Value.int 276 0, Value.ref 153, Value.none, Value.ref 154, Value.ref 155, Value.ref 156, Value.int 511 0, Value.int 78 0, Value.str (Str.ofString "/claim/cut.py") 512]) #[]
noncomputable def o3_158 : Obj := by
  refine headLit (p := ?p) (b := ?b) (s := ?s) (x := (headInner 6 14)) (fun p b s => Obj.mk (Value.type "function") Option.none (Data.func (FuncData.mk (Str.ofString "__bytes__") (Str.ofString "Headers.__bytes__") p (FuncBody.stmts b) s 3 [] Value.none Value.none Value.none (Value.str (Str.ofString "cpy313.wsgiref.headers") 282) Option.none (Value.ref 157) Value.none 0)) #[]) ?hp ?hb ?hs
  case hp => (conv => lhs; whnf) <;> exact rfl
  case hb => (conv => lhs; whnf) <;> exact rfl
  case hs => (conv => lhs; whnf) <;> exact rfl
noncomputable def o3_159 : Obj := Obj.mk (Value.type "tuple") Option.none (Data.seq #[]) #[]
noncomputable def o3_160 : Obj := Obj.mk Value.none Option.none (Data.fields #[]) #[]
noncomputable def o3_161 : Obj := Obj.mk (Value.type "tuple") Option.none (Data.seq #[Value.str (Str.ofString "self") 517, Value.str (Str.ofString "name") 518, Value.str (Str.ofString "value") 519, Value.str (Str.ofString "result") 520]) #[]
noncomputable def o3_162 : Obj := Obj.mk (Value.type "tuple") Option.none (Data.seq #[]) #[]
noncomputable def o3_163 : Obj := by
  refine headLit (p := ?p) (b := ?b) (s := ?s) (x := (headInner 6 15)) (fun p b s => Obj.mk Value.none Option.none (Data.func (FuncData.mk (Str.ofString "setdefault") (Str.ofString "Headers.setdefault") p (FuncBody.stmts b) s 0 [] Value.none Value.none Value.none Value.none Option.none Value.none Value.none 0)) #[]) ?hp ?hb ?hs
  case hp => (conv => lhs; whnf) <;> exact rfl
  case hb => (conv => lhs; whnf) <;> exact rfl
  case hs => (conv => lhs; whnf) <;> exact rfl
noncomputable def o3_164 : Obj := Obj.mk (Value.type "code") Option.none (Data.fields #[Value.str (Str.ofString "setdefault") 514, Value.str (Str.ofString "Headers.setdefault") 515, Value.str (Str.ofString "/claim/cut.py") 516, Value.int 81 0, Value.int 3 0, Value.int 0 0, Value.int 0 0, Value.int 3 0, Value.ref 159, Value.bool Bool.true, Value.int 276 0, Value.ref 160, Value.none, Value.ref 161, Value.ref 162, Value.ref 163, Value.int 521 0, Value.int 81 0, Value.str (Str.ofString "/claim/cut.py") 522]) #[]
noncomputable def o3_165 : Obj := by
  refine headLit (p := ?p) (b := ?b) (s := ?s) (x := (headInner 6 15)) (fun p b s => Obj.mk (Value.type "function") Option.none (Data.func (FuncData.mk (Str.ofString "setdefault") (Str.ofString "Headers.setdefault") p (FuncBody.stmts b) s 3 [] Value.none Value.none Value.none (Value.str (Str.ofString "cpy313.wsgiref.headers") 282) Option.none (Value.ref 164) Value.none 0)) #[]) ?hp ?hb ?hs
  case hp => (conv => lhs; whnf) <;> exact rfl
  case hb => (conv => lhs; whnf) <;> exact rfl
  case hs => (conv => lhs; whnf) <;> exact rfl
noncomputable def o3_166 : Obj := Obj.mk (Value.type "tuple") Option.none (Data.seq #[]) #[]
noncomputable def o3_167 : Obj := Obj.mk Value.none Option.none (Data.fields #[]) #[]
noncomputable def o3_168 : Obj := Obj.mk (Value.type "tuple") Option.none (Data.seq #[Value.str (Str.ofString "self") 527, Value.str (Str.ofString "_name") 528, Value.str (Str.ofString "_value") 529, Value.str (Str.ofString "_params") 530, Value.str (Str.ofString "parts") 531, Value.str (Str.ofString "k") 532, Value.str (Str.ofString "v") 533]) #[]
noncomputable def o3_169 : Obj := Obj.mk (Value.type "tuple") Option.none (Data.seq #[]) #[]
noncomputable def o3_170 : Obj := by
  refine headLit (p := ?p) (b := ?b) (s := ?s) (x := (headInner 6 16)) (fun p b s => Obj.mk Value.none Option.none (Data.func (FuncData.mk (Str.ofString "add_header") (Str.ofString "Headers.add_header") p (FuncBody.stmts b) s 0 [] Value.none Value.none Value.none Value.none Option.none Value.none Value.none 0)) #[]) ?hp ?hb ?hs
  case hp => (conv => lhs; whnf) <;> exact rfl
  case hb => (conv => lhs; whnf) <;> exact rfl
  case hs => (conv => lhs; whnf) <;> exact rfl
noncomputable def o3_171 : Obj := Obj.mk (Value.type "code") Option.none (Data.fields #[Value.str (Str.ofString "add_header") 524, Value.str (Str.ofString "Headers.add_header") 525, Value.str (Str.ofString "/claim/cut.py") 526, Value.int 89 0, Value.int 3 0, Value.int 0 0, Value.int 0 0, Value.int 11 0, Value.ref 166, Value.bool Bool.true, Value.int 276 0, Value.ref 167, Value.none, Value.ref 168, Value.ref 169, Value.ref 170, Value.int 534 0, Value.int 89 0, Value.str (Str.ofString "/claim/cut.py") 535]) #[]
noncomputable def o3_172 : Obj := by
  refine headLit (p := ?p) (b := ?b) (s := ?s) (x := (headInner 6 16)) (fun p b s => Obj.mk (Value.type "function") Option.none (Data.func (FuncData.mk (Str.ofString "add_header") (Str.ofString "Headers.add_header") p (FuncBody.stmts b) s 3 [] Value.none Value.none Value.none (Value.str (Str.ofString "cpy313.wsgiref.headers") 282) Option.none (Value.ref 171) Value.none 0)) #[]) ?hp ?hb ?hs
  case hp => (conv => lhs; whnf) <;> exact rfl
  case hb => (conv => lhs; whnf) <;> exact rfl
  case hs => (conv => lhs; whnf) <;> exact rfl
noncomputable def o3_173 : Obj := Obj.mk (Value.type "tuple") Option.none (Data.seq #[Value.str (Str.ofString "_headers") 537]) #[]
noncomputable def o3_174 (P : Params) : Obj := Obj.mk (Value.type "dict") Option.none (Data.dict #[DictEntry.mk (PyData.keyHash P (Str.ofString "__module__")) (Value.str (Str.ofString "__module__") 395) (Value.str (Str.ofString "cpy313.wsgiref.headers") 282), DictEntry.mk (PyData.keyHash P (Str.ofString "__firstlineno__")) (Value.str (Str.ofString "__firstlineno__") 399) (Value.int 15 398), DictEntry.mk (PyData.keyHash P (Str.ofString "__init__")) (Value.str (Str.ofString "__init__") 409) (Value.ref 69), DictEntry.mk (PyData.keyHash P (Str.ofString "_convert_string_type")) (Value.str (Str.ofString "_convert_string_type") 419) (Value.ref 76), DictEntry.mk (PyData.keyHash P (Str.ofString "__len__")) (Value.str (Str.ofString "__len__") 426) (Value.ref 83), DictEntry.mk (PyData.keyHash P (Str.ofString "__setitem__")) (Value.str (Str.ofString "__setitem__") 435) (Value.ref 90), DictEntry.mk (PyData.keyHash P (Str.ofString "__delitem__")) (Value.str (Str.ofString "__delitem__") 441) (Value.ref 95), DictEntry.mk (PyData.keyHash P (Str.ofString "__getitem__")) (Value.str (Str.ofString "__getitem__") 449) (Value.ref 102), DictEntry.mk (PyData.keyHash P (Str.ofString "__contains__")) (Value.str (Str.ofString "__contains__") 457) (Value.ref 109), DictEntry.mk (PyData.keyHash P (Str.ofString "get_all")) (Value.str (Str.ofString "get_all") 463) (Value.ref 114), DictEntry.mk (PyData.keyHash P (Str.ofString "get")) (Value.str (Str.ofString "get") 474) (Value.ref 122), DictEntry.mk (PyData.keyHash P (Str.ofString "keys")) (Value.str (Str.ofString "keys") 480) (Value.ref 127), DictEntry.mk (PyData.keyHash P (Str.ofString "values")) (Value.str (Str.ofString "values") 486) (Value.ref 132), DictEntry.mk (PyData.keyHash P (Str.ofString "items")) (Value.str (Str.ofString "items") 493) (Value.ref 139), DictEntry.mk (PyData.keyHash P (Str.ofString "__repr__")) (Value.str (Str.ofString "__repr__") 500) (Value.ref 146), DictEntry.mk (PyData.keyHash P (Str.ofString "__str__")) (Value.str (Str.ofString "__str__") 506) (Value.ref 151), DictEntry.mk (PyData.keyHash P (Str.ofString "__bytes__")) (Value.str (Str.ofString "__bytes__") 513) (Value.ref 158), DictEntry.mk (PyData.keyHash P (Str.ofString "setdefault")) (Value.str (Str.ofString "setdefault") 523) (Value.ref 165), DictEntry.mk (PyData.keyHash P (Str.ofString "add_header")) (Value.str (Str.ofString "add_header") 536) (Value.ref 172), DictEntry.mk (PyData.keyHash P (Str.ofString "__static_attributes__")) (Value.str (Str.ofString "__static_attributes__") 538) (Value.ref 173), DictEntry.mk (PyData.keyHash P (Str.ofString "__dict__")) (Value.str (Str.ofString "__dict__") 540) (Value.ref 176), DictEntry.mk (PyData.keyHash P (Str.ofString "__weakref__")) (Value.str (Str.ofString "__weakref__") 542) (Value.ref 177), DictEntry.mk (PyData.keyHash P (Str.ofString "__doc__")) (Value.str (Str.ofString "__doc__") 543) Value.none] 4) #[]
noncomputable def o3_175 : Obj := Obj.mk (Value.type "type") Option.none (Data.cls (ClassData.mk (Str.ofString "Headers") [Value.type "object"] [Value.ref 175, Value.type "object"] 174 (Str.ofString "Headers") Bool.true [] [] Bool.false Option.none Bool.false)) #[Option.none, Option.none, Option.some (Value.str (Str.ofString "Headers") 388), Option.some (Value.str (Str.ofString "Headers") 396), Option.some (Value.builtin "object.__new__"), Option.some (Value.bool Bool.true)]
noncomputable def o3_176 : Obj := Obj.mk (Value.type "getset_descriptor") Option.none (Data.fields #[Value.str (Str.ofString "__dict__") 539, Value.ref 175, Value.builtin "function.__dict__", Value.builtin "function.__dict__#set"]) #[]
noncomputable def o3_177 : Obj := Obj.mk (Value.type "getset_descriptor") Option.none (Data.fields #[Value.str (Str.ofString "__weakref__") 541, Value.ref 175, Value.builtin "ExceptionGroup.__weakref__", Value.none]) #[]
noncomputable def o3_178 : Obj := Obj.mk (Value.type "super") Option.none (Data.fields #[Value.ref 175, Value.ref 175, Value.ref 175]) #[]
noncomputable def o3_179 : Obj := Obj.mk (Value.type "builtin_function_or_method") Option.none (Data.fields #[Value.builtin "object.__init_subclass__", Value.ref 175]) #[]
noncomputable def headH3 (P : Params) : Heap := ⟨⟨[o0_0 P, o0_1 P, o0_2 P, o3_3 P, o0_4, o0_5, o0_6, o0_7, o0_8, o0_9, o0_10, o0_11 P, o0_12, o0_13 P, o0_14, o0_15, o0_16, o0_17, o0_18, o0_19, o0_20 P, o0_21 P, o0_22, o0_23, o0_24, o0_25, o0_26, o0_27, o1_28, o3_29, o1_30, o1_31, o2_32, o2_33, o2_34, o2_35, o2_36, o2_37, o2_38, o2_39, o2_40, o2_41, o2_42, o2_43, o2_44, o2_45, o2_46, o2_47, o2_48, o2_49, o2_50, o2_51, o2_52, o2_53, o2_54, o3_55, o3_56, o3_57 P, o3_58, o3_59, o3_60, o3_61, o3_62, o3_63, o3_64, o3_65, o3_66, o3_67, o3_68, o3_69, o3_70, o3_71, o3_72, o3_73, o3_74, o3_75, o3_76, o3_77, o3_78, o3_79, o3_80, o3_81, o3_82, o3_83, o3_84, o3_85, o3_86, o3_87, o3_88, o3_89, o3_90, o3_91, o3_92, o3_93, o3_94, o3_95, o3_96, o3_97, o3_98, o3_99, o3_100, o3_101, o3_102, o3_103, o3_104, o3_105, o3_106, o3_107, o3_108, o3_109, o3_110, o3_111, o3_112, o3_113, o3_114, o3_115, o3_116, o3_117, o3_118, o3_119, o3_120, o3_121, o3_122, o3_123, o3_124, o3_125, o3_126, o3_127, o3_128, o3_129, o3_130, o3_131, o3_132, o3_133, o3_134, o3_135, o3_136, o3_137, o3_138, o3_139, o3_140, o3_141, o3_142, o3_143, o3_144, o3_145, o3_146, o3_147, o3_148, o3_149, o3_150, o3_151, o3_152, o3_153, o3_154, o3_155, o3_156, o3_157, o3_158, o3_159, o3_160, o3_161, o3_162, o3_163, o3_164, o3_165, o3_166, o3_167, o3_168, o3_169, o3_170, o3_171, o3_172, o3_173, o3_174 P, o3_175, o3_176, o3_177, o3_178, o3_179]⟩, headLife⟩
noncomputable def o4_3 (P : Params) : Obj := Obj.mk (Value.type "dict") Option.none (Data.dict #[DictEntry.mk (PyData.keyHash P (Str.ofString "__name__")) (Value.str (Str.ofString "__name__") 165) (Value.str (Str.ofString "cpy313.token") 546), DictEntry.mk (PyData.keyHash P (Str.ofString "__doc__")) (Value.str (Str.ofString "__doc__") 166) Value.none, DictEntry.mk (PyData.keyHash P (Str.ofString "__package__")) (Value.str (Str.ofString "__package__") 167) Value.none, DictEntry.mk (PyData.keyHash P (Str.ofString "__loader__")) (Value.str (Str.ofString "__loader__") 168) (Value.builtin "__main__.__loader__#opaque"), DictEntry.mk (PyData.keyHash P (Str.ofString "__spec__")) (Value.str (Str.ofString "__spec__") 169) Value.none, DictEntry.mk (PyData.keyHash P (Str.ofString "__annotations__")) (Value.str (Str.ofString "__annotations__") 170) (Value.ref 6), DictEntry.mk (PyData.keyHash P (Str.ofString "__builtins__")) (Value.str (Str.ofString "__builtins__") 171) (Value.ref 4), DictEntry.mk (PyData.keyHash P (Str.ofString "__file__")) (Value.str (Str.ofString "__file__") 173) (Value.str (Str.ofString "/claim/cut.py") 172), DictEntry.mk (PyData.keyHash P (Str.ofString "__cached__")) (Value.str (Str.ofString "__cached__") 174) Value.none, DictEntry.mk (PyData.keyHash P (Str.ofString "_sre")) (Value.str (Str.ofString "_sre") 275) (Value.ref 12), DictEntry.mk (PyData.keyHash P (Str.ofString "tspecials")) (Value.str (Str.ofString "tspecials") 317) (Value.ref 36), DictEntry.mk (PyData.keyHash P (Str.ofString "_name_disallowed_re")) (Value.str (Str.ofString "_name_disallowed_re") 343) (Value.ref 41), DictEntry.mk (PyData.keyHash P (Str.ofString "_value_disallowed_re")) (Value.str (Str.ofString "_value_disallowed_re") 377) (Value.ref 46), DictEntry.mk (PyData.keyHash P (Str.ofString "_formatparam")) (Value.str (Str.ofString "_formatparam") 387) (Value.ref 54), DictEntry.mk (PyData.keyHash P (Str.ofString "Headers")) (Value.str (Str.ofString "Headers") 545) (Value.ref 175), DictEntry.mk (PyData.keyHash P (Str.ofString "LPAR")) (Value.str (Str.ofString "LPAR") 549) (Value.int 7 548), DictEntry.mk (PyData.keyHash P (Str.ofString "RPAR")) (Value.str (Str.ofString "RPAR") 551) (Value.int 8 550), DictEntry.mk (PyData.keyHash P (Str.ofString "LSQB")) (Value.str (Str.ofString "LSQB") 553) (Value.int 9 552), DictEntry.mk (PyData.keyHash P (Str.ofString "RSQB")) (Value.str (Str.ofString "RSQB") 555) (Value.int 10 554), DictEntry.mk (PyData.keyHash P (Str.ofString "COLON")) (Value.str (Str.ofString "COLON") 557) (Value.int 11 556), DictEntry.mk (PyData.keyHash P (Str.ofString "COMMA")) (Value.str (Str.ofString "COMMA") 559) (Value.int 12 558), DictEntry.mk (PyData.keyHash P (Str.ofString "SEMI")) (Value.str (Str.ofString "SEMI") 561) (Value.int 13 560), DictEntry.mk (PyData.keyHash P (Str.ofString "PLUS")) (Value.str (Str.ofString "PLUS") 563) (Value.int 14 562), DictEntry.mk (PyData.keyHash P (Str.ofString "MINUS")) (Value.str (Str.ofString "MINUS") 565) (Value.int 15 564), DictEntry.mk (PyData.keyHash P (Str.ofString "STAR")) (Value.str (Str.ofString "STAR") 567) (Value.int 16 566), DictEntry.mk (PyData.keyHash P (Str.ofString "SLASH")) (Value.str (Str.ofString "SLASH") 569) (Value.int 17 568), DictEntry.mk (PyData.keyHash P (Str.ofString "VBAR")) (Value.str (Str.ofString "VBAR") 571) (Value.int 18 570), DictEntry.mk (PyData.keyHash P (Str.ofString "AMPER")) (Value.str (Str.ofString "AMPER") 573) (Value.int 19 572), DictEntry.mk (PyData.keyHash P (Str.ofString "LESS")) (Value.str (Str.ofString "LESS") 575) (Value.int 20 574), DictEntry.mk (PyData.keyHash P (Str.ofString "GREATER")) (Value.str (Str.ofString "GREATER") 577) (Value.int 21 576), DictEntry.mk (PyData.keyHash P (Str.ofString "EQUAL")) (Value.str (Str.ofString "EQUAL") 579) (Value.int 22 578), DictEntry.mk (PyData.keyHash P (Str.ofString "DOT")) (Value.str (Str.ofString "DOT") 581) (Value.int 23 580), DictEntry.mk (PyData.keyHash P (Str.ofString "PERCENT")) (Value.str (Str.ofString "PERCENT") 583) (Value.int 24 582), DictEntry.mk (PyData.keyHash P (Str.ofString "LBRACE")) (Value.str (Str.ofString "LBRACE") 585) (Value.int 25 584), DictEntry.mk (PyData.keyHash P (Str.ofString "RBRACE")) (Value.str (Str.ofString "RBRACE") 587) (Value.int 26 586), DictEntry.mk (PyData.keyHash P (Str.ofString "EQEQUAL")) (Value.str (Str.ofString "EQEQUAL") 589) (Value.int 27 588), DictEntry.mk (PyData.keyHash P (Str.ofString "NOTEQUAL")) (Value.str (Str.ofString "NOTEQUAL") 591) (Value.int 28 590), DictEntry.mk (PyData.keyHash P (Str.ofString "LESSEQUAL")) (Value.str (Str.ofString "LESSEQUAL") 593) (Value.int 29 592), DictEntry.mk (PyData.keyHash P (Str.ofString "GREATEREQUAL")) (Value.str (Str.ofString "GREATEREQUAL") 595) (Value.int 30 594), DictEntry.mk (PyData.keyHash P (Str.ofString "TILDE")) (Value.str (Str.ofString "TILDE") 597) (Value.int 31 596), DictEntry.mk (PyData.keyHash P (Str.ofString "CIRCUMFLEX")) (Value.str (Str.ofString "CIRCUMFLEX") 599) (Value.int 32 598), DictEntry.mk (PyData.keyHash P (Str.ofString "LEFTSHIFT")) (Value.str (Str.ofString "LEFTSHIFT") 601) (Value.int 33 600), DictEntry.mk (PyData.keyHash P (Str.ofString "RIGHTSHIFT")) (Value.str (Str.ofString "RIGHTSHIFT") 603) (Value.int 34 602), DictEntry.mk (PyData.keyHash P (Str.ofString "DOUBLESTAR")) (Value.str (Str.ofString "DOUBLESTAR") 605) (Value.int 35 604), DictEntry.mk (PyData.keyHash P (Str.ofString "PLUSEQUAL")) (Value.str (Str.ofString "PLUSEQUAL") 607) (Value.int 36 606), DictEntry.mk (PyData.keyHash P (Str.ofString "MINEQUAL")) (Value.str (Str.ofString "MINEQUAL") 609) (Value.int 37 608), DictEntry.mk (PyData.keyHash P (Str.ofString "STAREQUAL")) (Value.str (Str.ofString "STAREQUAL") 611) (Value.int 38 610), DictEntry.mk (PyData.keyHash P (Str.ofString "SLASHEQUAL")) (Value.str (Str.ofString "SLASHEQUAL") 613) (Value.int 39 612), DictEntry.mk (PyData.keyHash P (Str.ofString "PERCENTEQUAL")) (Value.str (Str.ofString "PERCENTEQUAL") 615) (Value.int 40 614), DictEntry.mk (PyData.keyHash P (Str.ofString "AMPEREQUAL")) (Value.str (Str.ofString "AMPEREQUAL") 617) (Value.int 41 616), DictEntry.mk (PyData.keyHash P (Str.ofString "VBAREQUAL")) (Value.str (Str.ofString "VBAREQUAL") 619) (Value.int 42 618), DictEntry.mk (PyData.keyHash P (Str.ofString "CIRCUMFLEXEQUAL")) (Value.str (Str.ofString "CIRCUMFLEXEQUAL") 621) (Value.int 43 620), DictEntry.mk (PyData.keyHash P (Str.ofString "LEFTSHIFTEQUAL")) (Value.str (Str.ofString "LEFTSHIFTEQUAL") 623) (Value.int 44 622), DictEntry.mk (PyData.keyHash P (Str.ofString "RIGHTSHIFTEQUAL")) (Value.str (Str.ofString "RIGHTSHIFTEQUAL") 625) (Value.int 45 624), DictEntry.mk (PyData.keyHash P (Str.ofString "DOUBLESTAREQUAL")) (Value.str (Str.ofString "DOUBLESTAREQUAL") 627) (Value.int 46 626), DictEntry.mk (PyData.keyHash P (Str.ofString "DOUBLESLASH")) (Value.str (Str.ofString "DOUBLESLASH") 629) (Value.int 47 628), DictEntry.mk (PyData.keyHash P (Str.ofString "DOUBLESLASHEQUAL")) (Value.str (Str.ofString "DOUBLESLASHEQUAL") 631) (Value.int 48 630), DictEntry.mk (PyData.keyHash P (Str.ofString "AT")) (Value.str (Str.ofString "AT") 633) (Value.int 49 632), DictEntry.mk (PyData.keyHash P (Str.ofString "ATEQUAL")) (Value.str (Str.ofString "ATEQUAL") 635) (Value.int 50 634), DictEntry.mk (PyData.keyHash P (Str.ofString "RARROW")) (Value.str (Str.ofString "RARROW") 637) (Value.int 51 636), DictEntry.mk (PyData.keyHash P (Str.ofString "ELLIPSIS")) (Value.str (Str.ofString "ELLIPSIS") 639) (Value.int 52 638), DictEntry.mk (PyData.keyHash P (Str.ofString "COLONEQUAL")) (Value.str (Str.ofString "COLONEQUAL") 641) (Value.int 53 640), DictEntry.mk (PyData.keyHash P (Str.ofString "EXCLAMATION")) (Value.str (Str.ofString "EXCLAMATION") 643) (Value.int 54 642), DictEntry.mk (PyData.keyHash P (Str.ofString "NT_OFFSET")) (Value.str (Str.ofString "NT_OFFSET") 645) (Value.int 256 644)] 64) #[]
noncomputable def headH4 (P : Params) : Heap := ⟨⟨[o0_0 P, o0_1 P, o0_2 P, o4_3 P, o0_4, o0_5, o0_6, o0_7, o0_8, o0_9, o0_10, o0_11 P, o0_12, o0_13 P, o0_14, o0_15, o0_16, o0_17, o0_18, o0_19, o0_20 P, o0_21 P, o0_22, o0_23, o0_24, o0_25, o0_26, o0_27, o1_28, o3_29, o1_30, o1_31, o2_32, o2_33, o2_34, o2_35, o2_36, o2_37, o2_38, o2_39, o2_40, o2_41, o2_42, o2_43, o2_44, o2_45, o2_46, o2_47, o2_48, o2_49, o2_50, o2_51, o2_52, o2_53, o2_54, o3_55, o3_56, o3_57 P, o3_58, o3_59, o3_60, o3_61, o3_62, o3_63, o3_64, o3_65, o3_66, o3_67, o3_68, o3_69, o3_70, o3_71, o3_72, o3_73, o3_74, o3_75, o3_76, o3_77, o3_78, o3_79, o3_80, o3_81, o3_82, o3_83, o3_84, o3_85, o3_86, o3_87, o3_88, o3_89, o3_90, o3_91, o3_92, o3_93, o3_94, o3_95, o3_96, o3_97, o3_98, o3_99, o3_100, o3_101, o3_102, o3_103, o3_104, o3_105, o3_106, o3_107, o3_108, o3_109, o3_110, o3_111, o3_112, o3_113, o3_114, o3_115, o3_116, o3_117, o3_118, o3_119, o3_120, o3_121, o3_122, o3_123, o3_124, o3_125, o3_126, o3_127, o3_128, o3_129, o3_130, o3_131, o3_132, o3_133, o3_134, o3_135, o3_136, o3_137, o3_138, o3_139, o3_140, o3_141, o3_142, o3_143, o3_144, o3_145, o3_146, o3_147, o3_148, o3_149, o3_150, o3_151, o3_152, o3_153, o3_154, o3_155, o3_156, o3_157, o3_158, o3_159, o3_160, o3_161, o3_162, o3_163, o3_164, o3_165, o3_166, o3_167, o3_168, o3_169, o3_170, o3_171, o3_172, o3_173, o3_174 P, o3_175, o3_176, o3_177, o3_178, o3_179]⟩, headLife⟩
noncomputable def o5_3 (P : Params) : Obj := Obj.mk (Value.type "dict") Option.none (Data.dict #[DictEntry.mk (PyData.keyHash P (Str.ofString "__name__")) (Value.str (Str.ofString "__name__") 165) (Value.str (Str.ofString "cpy313.token") 546), DictEntry.mk (PyData.keyHash P (Str.ofString "__doc__")) (Value.str (Str.ofString "__doc__") 166) Value.none, DictEntry.mk (PyData.keyHash P (Str.ofString "__package__")) (Value.str (Str.ofString "__package__") 167) Value.none, DictEntry.mk (PyData.keyHash P (Str.ofString "__loader__")) (Value.str (Str.ofString "__loader__") 168) (Value.builtin "__main__.__loader__#opaque"), DictEntry.mk (PyData.keyHash P (Str.ofString "__spec__")) (Value.str (Str.ofString "__spec__") 169) Value.none, DictEntry.mk (PyData.keyHash P (Str.ofString "__annotations__")) (Value.str (Str.ofString "__annotations__") 170) (Value.ref 6), DictEntry.mk (PyData.keyHash P (Str.ofString "__builtins__")) (Value.str (Str.ofString "__builtins__") 171) (Value.ref 4), DictEntry.mk (PyData.keyHash P (Str.ofString "__file__")) (Value.str (Str.ofString "__file__") 173) (Value.str (Str.ofString "/claim/cut.py") 172), DictEntry.mk (PyData.keyHash P (Str.ofString "__cached__")) (Value.str (Str.ofString "__cached__") 174) Value.none, DictEntry.mk (PyData.keyHash P (Str.ofString "_sre")) (Value.str (Str.ofString "_sre") 275) (Value.ref 12), DictEntry.mk (PyData.keyHash P (Str.ofString "tspecials")) (Value.str (Str.ofString "tspecials") 317) (Value.ref 36), DictEntry.mk (PyData.keyHash P (Str.ofString "_name_disallowed_re")) (Value.str (Str.ofString "_name_disallowed_re") 343) (Value.ref 41), DictEntry.mk (PyData.keyHash P (Str.ofString "_value_disallowed_re")) (Value.str (Str.ofString "_value_disallowed_re") 377) (Value.ref 46), DictEntry.mk (PyData.keyHash P (Str.ofString "_formatparam")) (Value.str (Str.ofString "_formatparam") 387) (Value.ref 54), DictEntry.mk (PyData.keyHash P (Str.ofString "Headers")) (Value.str (Str.ofString "Headers") 545) (Value.ref 175), DictEntry.mk (PyData.keyHash P (Str.ofString "LPAR")) (Value.str (Str.ofString "LPAR") 549) (Value.int 7 548), DictEntry.mk (PyData.keyHash P (Str.ofString "RPAR")) (Value.str (Str.ofString "RPAR") 551) (Value.int 8 550), DictEntry.mk (PyData.keyHash P (Str.ofString "LSQB")) (Value.str (Str.ofString "LSQB") 553) (Value.int 9 552), DictEntry.mk (PyData.keyHash P (Str.ofString "RSQB")) (Value.str (Str.ofString "RSQB") 555) (Value.int 10 554), DictEntry.mk (PyData.keyHash P (Str.ofString "COLON")) (Value.str (Str.ofString "COLON") 557) (Value.int 11 556), DictEntry.mk (PyData.keyHash P (Str.ofString "COMMA")) (Value.str (Str.ofString "COMMA") 559) (Value.int 12 558), DictEntry.mk (PyData.keyHash P (Str.ofString "SEMI")) (Value.str (Str.ofString "SEMI") 561) (Value.int 13 560), DictEntry.mk (PyData.keyHash P (Str.ofString "PLUS")) (Value.str (Str.ofString "PLUS") 563) (Value.int 14 562), DictEntry.mk (PyData.keyHash P (Str.ofString "MINUS")) (Value.str (Str.ofString "MINUS") 565) (Value.int 15 564), DictEntry.mk (PyData.keyHash P (Str.ofString "STAR")) (Value.str (Str.ofString "STAR") 567) (Value.int 16 566), DictEntry.mk (PyData.keyHash P (Str.ofString "SLASH")) (Value.str (Str.ofString "SLASH") 569) (Value.int 17 568), DictEntry.mk (PyData.keyHash P (Str.ofString "VBAR")) (Value.str (Str.ofString "VBAR") 571) (Value.int 18 570), DictEntry.mk (PyData.keyHash P (Str.ofString "AMPER")) (Value.str (Str.ofString "AMPER") 573) (Value.int 19 572), DictEntry.mk (PyData.keyHash P (Str.ofString "LESS")) (Value.str (Str.ofString "LESS") 575) (Value.int 20 574), DictEntry.mk (PyData.keyHash P (Str.ofString "GREATER")) (Value.str (Str.ofString "GREATER") 577) (Value.int 21 576), DictEntry.mk (PyData.keyHash P (Str.ofString "EQUAL")) (Value.str (Str.ofString "EQUAL") 579) (Value.int 22 578), DictEntry.mk (PyData.keyHash P (Str.ofString "DOT")) (Value.str (Str.ofString "DOT") 581) (Value.int 23 580), DictEntry.mk (PyData.keyHash P (Str.ofString "PERCENT")) (Value.str (Str.ofString "PERCENT") 583) (Value.int 24 582), DictEntry.mk (PyData.keyHash P (Str.ofString "LBRACE")) (Value.str (Str.ofString "LBRACE") 585) (Value.int 25 584), DictEntry.mk (PyData.keyHash P (Str.ofString "RBRACE")) (Value.str (Str.ofString "RBRACE") 587) (Value.int 26 586), DictEntry.mk (PyData.keyHash P (Str.ofString "EQEQUAL")) (Value.str (Str.ofString "EQEQUAL") 589) (Value.int 27 588), DictEntry.mk (PyData.keyHash P (Str.ofString "NOTEQUAL")) (Value.str (Str.ofString "NOTEQUAL") 591) (Value.int 28 590), DictEntry.mk (PyData.keyHash P (Str.ofString "LESSEQUAL")) (Value.str (Str.ofString "LESSEQUAL") 593) (Value.int 29 592), DictEntry.mk (PyData.keyHash P (Str.ofString "GREATEREQUAL")) (Value.str (Str.ofString "GREATEREQUAL") 595) (Value.int 30 594), DictEntry.mk (PyData.keyHash P (Str.ofString "TILDE")) (Value.str (Str.ofString "TILDE") 597) (Value.int 31 596), DictEntry.mk (PyData.keyHash P (Str.ofString "CIRCUMFLEX")) (Value.str (Str.ofString "CIRCUMFLEX") 599) (Value.int 32 598), DictEntry.mk (PyData.keyHash P (Str.ofString "LEFTSHIFT")) (Value.str (Str.ofString "LEFTSHIFT") 601) (Value.int 33 600), DictEntry.mk (PyData.keyHash P (Str.ofString "RIGHTSHIFT")) (Value.str (Str.ofString "RIGHTSHIFT") 603) (Value.int 34 602), DictEntry.mk (PyData.keyHash P (Str.ofString "DOUBLESTAR")) (Value.str (Str.ofString "DOUBLESTAR") 605) (Value.int 35 604), DictEntry.mk (PyData.keyHash P (Str.ofString "PLUSEQUAL")) (Value.str (Str.ofString "PLUSEQUAL") 607) (Value.int 36 606), DictEntry.mk (PyData.keyHash P (Str.ofString "MINEQUAL")) (Value.str (Str.ofString "MINEQUAL") 609) (Value.int 37 608), DictEntry.mk (PyData.keyHash P (Str.ofString "STAREQUAL")) (Value.str (Str.ofString "STAREQUAL") 611) (Value.int 38 610), DictEntry.mk (PyData.keyHash P (Str.ofString "SLASHEQUAL")) (Value.str (Str.ofString "SLASHEQUAL") 613) (Value.int 39 612), DictEntry.mk (PyData.keyHash P (Str.ofString "PERCENTEQUAL")) (Value.str (Str.ofString "PERCENTEQUAL") 615) (Value.int 40 614), DictEntry.mk (PyData.keyHash P (Str.ofString "AMPEREQUAL")) (Value.str (Str.ofString "AMPEREQUAL") 617) (Value.int 41 616), DictEntry.mk (PyData.keyHash P (Str.ofString "VBAREQUAL")) (Value.str (Str.ofString "VBAREQUAL") 619) (Value.int 42 618), DictEntry.mk (PyData.keyHash P (Str.ofString "CIRCUMFLEXEQUAL")) (Value.str (Str.ofString "CIRCUMFLEXEQUAL") 621) (Value.int 43 620), DictEntry.mk (PyData.keyHash P (Str.ofString "LEFTSHIFTEQUAL")) (Value.str (Str.ofString "LEFTSHIFTEQUAL") 623) (Value.int 44 622), DictEntry.mk (PyData.keyHash P (Str.ofString "RIGHTSHIFTEQUAL")) (Value.str (Str.ofString "RIGHTSHIFTEQUAL") 625) (Value.int 45 624), DictEntry.mk (PyData.keyHash P (Str.ofString "DOUBLESTAREQUAL")) (Value.str (Str.ofString "DOUBLESTAREQUAL") 627) (Value.int 46 626), DictEntry.mk (PyData.keyHash P (Str.ofString "DOUBLESLASH")) (Value.str (Str.ofString "DOUBLESLASH") 629) (Value.int 47 628), DictEntry.mk (PyData.keyHash P (Str.ofString "DOUBLESLASHEQUAL")) (Value.str (Str.ofString "DOUBLESLASHEQUAL") 631) (Value.int 48 630), DictEntry.mk (PyData.keyHash P (Str.ofString "AT")) (Value.str (Str.ofString "AT") 633) (Value.int 49 632), DictEntry.mk (PyData.keyHash P (Str.ofString "ATEQUAL")) (Value.str (Str.ofString "ATEQUAL") 635) (Value.int 50 634), DictEntry.mk (PyData.keyHash P (Str.ofString "RARROW")) (Value.str (Str.ofString "RARROW") 637) (Value.int 51 636), DictEntry.mk (PyData.keyHash P (Str.ofString "ELLIPSIS")) (Value.str (Str.ofString "ELLIPSIS") 639) (Value.int 52 638), DictEntry.mk (PyData.keyHash P (Str.ofString "COLONEQUAL")) (Value.str (Str.ofString "COLONEQUAL") 641) (Value.int 53 640), DictEntry.mk (PyData.keyHash P (Str.ofString "EXCLAMATION")) (Value.str (Str.ofString "EXCLAMATION") 643) (Value.int 54 642), DictEntry.mk (PyData.keyHash P (Str.ofString "NT_OFFSET")) (Value.str (Str.ofString "NT_OFFSET") 645) (Value.int 256 644), DictEntry.mk (PyData.keyHash P (Str.ofString "EXACT_TOKEN_TYPES")) (Value.str (Str.ofString "EXACT_TOKEN_TYPES") 742) (Value.ref 180)] 65) #[]
noncomputable def o5_180 (P : Params) : Obj := Obj.mk (Value.type "dict") Option.none (Data.dict #[DictEntry.mk (PyData.keyHash P (Str.ofString "!")) (Value.str (Str.ofString "!") 646) (Value.int 54 642), DictEntry.mk (PyData.keyHash P (Str.ofString "!=")) (Value.str (Str.ofString "!=") 648) (Value.int 28 590), DictEntry.mk (PyData.keyHash P (Str.ofString "%")) (Value.str (Str.ofString "%") 650) (Value.int 24 582), DictEntry.mk (PyData.keyHash P (Str.ofString "%=")) (Value.str (Str.ofString "%=") 652) (Value.int 40 614), DictEntry.mk (PyData.keyHash P (Str.ofString "&")) (Value.str (Str.ofString "&") 654) (Value.int 19 572), DictEntry.mk (PyData.keyHash P (Str.ofString "&=")) (Value.str (Str.ofString "&=") 656) (Value.int 41 616), DictEntry.mk (PyData.keyHash P (Str.ofString "(")) (Value.str (Str.ofString "(") 658) (Value.int 7 548), DictEntry.mk (PyData.keyHash P (Str.ofString ")")) (Value.str (Str.ofString ")") 660) (Value.int 8 550), DictEntry.mk (PyData.keyHash P (Str.ofString "*")) (Value.str (Str.ofString "*") 662) (Value.int 16 566), DictEntry.mk (PyData.keyHash P (Str.ofString "**")) (Value.str (Str.ofString "**") 664) (Value.int 35 604), DictEntry.mk (PyData.keyHash P (Str.ofString "**=")) (Value.str (Str.ofString "**=") 666) (Value.int 46 626), DictEntry.mk (PyData.keyHash P (Str.ofString "*=")) (Value.str (Str.ofString "*=") 668) (Value.int 38 610), DictEntry.mk (PyData.keyHash P (Str.ofString "+")) (Value.str (Str.ofString "+") 670) (Value.int 14 562), DictEntry.mk (PyData.keyHash P (Str.ofString "+=")) (Value.str (Str.ofString "+=") 672) (Value.int 36 606), DictEntry.mk (PyData.keyHash P (Str.ofString ",")) (Value.str (Str.ofString ",") 674) (Value.int 12 558), DictEntry.mk (PyData.keyHash P (Str.ofString "-")) (Value.str (Str.ofString "-") 676) (Value.int 15 564), DictEntry.mk (PyData.keyHash P (Str.ofString "-=")) (Value.str (Str.ofString "-=") 678) (Value.int 37 608), DictEntry.mk (PyData.keyHash P (Str.ofString "->")) (Value.str (Str.ofString "->") 680) (Value.int 51 636), DictEntry.mk (PyData.keyHash P (Str.ofString ".")) (Value.str (Str.ofString ".") 682) (Value.int 23 580), DictEntry.mk (PyData.keyHash P (Str.ofString "...")) (Value.str (Str.ofString "...") 684) (Value.int 52 638), DictEntry.mk (PyData.keyHash P (Str.ofString "/")) (Value.str (Str.ofString "/") 686) (Value.int 17 568), DictEntry.mk (PyData.keyHash P (Str.ofString "//")) (Value.str (Str.ofString "//") 688) (Value.int 47 628), DictEntry.mk (PyData.keyHash P (Str.ofString "//=")) (Value.str (Str.ofString "//=") 690) (Value.int 48 630), DictEntry.mk (PyData.keyHash P (Str.ofString "/=")) (Value.str (Str.ofString "/=") 692) (Value.int 39 612), DictEntry.mk (PyData.keyHash P (Str.ofString ":")) (Value.str (Str.ofString ":") 694) (Value.int 11 556), DictEntry.mk (PyData.keyHash P (Str.ofString ":=")) (Value.str (Str.ofString ":=") 696) (Value.int 53 640), DictEntry.mk (PyData.keyHash P (Str.ofString ";")) (Value.str (Str.ofString ";") 698) (Value.int 13 560), DictEntry.mk (PyData.keyHash P (Str.ofString "<")) (Value.str (Str.ofString "<") 700) (Value.int 20 574), DictEntry.mk (PyData.keyHash P (Str.ofString "<<")) (Value.str (Str.ofString "<<") 702) (Value.int 33 600), DictEntry.mk (PyData.keyHash P (Str.ofString "<<=")) (Value.str (Str.ofString "<<=") 704) (Value.int 44 622), DictEntry.mk (PyData.keyHash P (Str.ofString "<=")) (Value.str (Str.ofString "<=") 706) (Value.int 29 592), DictEntry.mk (PyData.keyHash P (Str.ofString "=")) (Value.str (Str.ofString "=") 708) (Value.int 22 578), DictEntry.mk (PyData.keyHash P (Str.ofString "==")) (Value.str (Str.ofString "==") 710) (Value.int 27 588), DictEntry.mk (PyData.keyHash P (Str.ofString ">")) (Value.str (Str.ofString ">") 712) (Value.int 21 576), DictEntry.mk (PyData.keyHash P (Str.ofString ">=")) (Value.str (Str.ofString ">=") 714) (Value.int 30 594), DictEntry.mk (PyData.keyHash P (Str.ofString ">>")) (Value.str (Str.ofString ">>") 715) (Value.int 34 602), DictEntry.mk (PyData.keyHash P (Str.ofString ">>=")) (Value.str (Str.ofString ">>=") 716) (Value.int 45 624), DictEntry.mk (PyData.keyHash P (Str.ofString "@")) (Value.str (Str.ofString "@") 717) (Value.int 49 632), DictEntry.mk (PyData.keyHash P (Str.ofString "@=")) (Value.str (Str.ofString "@=") 718) (Value.int 50 634), DictEntry.mk (PyData.keyHash P (Str.ofString "[")) (Value.str (Str.ofString "[") 719) (Value.int 9 552), DictEntry.mk (PyData.keyHash P (Str.ofString "]")) (Value.str (Str.ofString "]") 720) (Value.int 10 554), DictEntry.mk (PyData.keyHash P (Str.ofString "^")) (Value.str (Str.ofString "^") 721) (Value.int 32 598), DictEntry.mk (PyData.keyHash P (Str.ofString "^=")) (Value.str (Str.ofString "^=") 722) (Value.int 43 620), DictEntry.mk (PyData.keyHash P (Str.ofString "{")) (Value.str (Str.ofString "{") 723) (Value.int 25 584), DictEntry.mk (PyData.keyHash P (Str.ofString "|")) (Value.str (Str.ofString "|") 724) (Value.int 18 570), DictEntry.mk (PyData.keyHash P (Str.ofString "|=")) (Value.str (Str.ofString "|=") 725) (Value.int 42 618), DictEntry.mk (PyData.keyHash P (Str.ofString "}")) (Value.str (Str.ofString "}") 726) (Value.int 26 586), DictEntry.mk (PyData.keyHash P (Str.ofString "~")) (Value.str (Str.ofString "~") 727) (Value.int 31 596)] 48) #[]
noncomputable def o5_181 (P : Params) : Obj := Obj.mk (Value.type "dict") Option.none (Data.dict #[DictEntry.mk (PyData.keyHash P (Str.ofString "->")) (Value.str (Str.ofString "->") 680) (Value.int 51 636), DictEntry.mk (PyData.keyHash P (Str.ofString ".")) (Value.str (Str.ofString ".") 682) (Value.int 23 580), DictEntry.mk (PyData.keyHash P (Str.ofString "...")) (Value.str (Str.ofString "...") 684) (Value.int 52 638), DictEntry.mk (PyData.keyHash P (Str.ofString "/")) (Value.str (Str.ofString "/") 686) (Value.int 17 568), DictEntry.mk (PyData.keyHash P (Str.ofString "//")) (Value.str (Str.ofString "//") 688) (Value.int 47 628), DictEntry.mk (PyData.keyHash P (Str.ofString "//=")) (Value.str (Str.ofString "//=") 690) (Value.int 48 630), DictEntry.mk (PyData.keyHash P (Str.ofString "/=")) (Value.str (Str.ofString "/=") 692) (Value.int 39 612), DictEntry.mk (PyData.keyHash P (Str.ofString ":")) (Value.str (Str.ofString ":") 694) (Value.int 11 556), DictEntry.mk (PyData.keyHash P (Str.ofString ":=")) (Value.str (Str.ofString ":=") 696) (Value.int 53 640), DictEntry.mk (PyData.keyHash P (Str.ofString ";")) (Value.str (Str.ofString ";") 698) (Value.int 13 560), DictEntry.mk (PyData.keyHash P (Str.ofString "<")) (Value.str (Str.ofString "<") 700) (Value.int 20 574), DictEntry.mk (PyData.keyHash P (Str.ofString "<<")) (Value.str (Str.ofString "<<") 702) (Value.int 33 600), DictEntry.mk (PyData.keyHash P (Str.ofString "<<=")) (Value.str (Str.ofString "<<=") 704) (Value.int 44 622), DictEntry.mk (PyData.keyHash P (Str.ofString "<=")) (Value.str (Str.ofString "<=") 706) (Value.int 29 592), DictEntry.mk (PyData.keyHash P (Str.ofString "=")) (Value.str (Str.ofString "=") 708) (Value.int 22 578), DictEntry.mk (PyData.keyHash P (Str.ofString "==")) (Value.str (Str.ofString "==") 710) (Value.int 27 588), DictEntry.mk (PyData.keyHash P (Str.ofString ">")) (Value.str (Str.ofString ">") 712) (Value.int 21 576)] 17) #[]
noncomputable def o5_182 (P : Params) : Obj := Obj.mk (Value.type "dict") Option.none (Data.dict #[DictEntry.mk (PyData.keyHash P (Str.ofString ">=")) (Value.str (Str.ofString ">=") 714) (Value.int 30 594), DictEntry.mk (PyData.keyHash P (Str.ofString ">>")) (Value.str (Str.ofString ">>") 715) (Value.int 34 602), DictEntry.mk (PyData.keyHash P (Str.ofString ">>=")) (Value.str (Str.ofString ">>=") 716) (Value.int 45 624), DictEntry.mk (PyData.keyHash P (Str.ofString "@")) (Value.str (Str.ofString "@") 717) (Value.int 49 632), DictEntry.mk (PyData.keyHash P (Str.ofString "@=")) (Value.str (Str.ofString "@=") 718) (Value.int 50 634), DictEntry.mk (PyData.keyHash P (Str.ofString "[")) (Value.str (Str.ofString "[") 719) (Value.int 9 552), DictEntry.mk (PyData.keyHash P (Str.ofString "]")) (Value.str (Str.ofString "]") 720) (Value.int 10 554), DictEntry.mk (PyData.keyHash P (Str.ofString "^")) (Value.str (Str.ofString "^") 721) (Value.int 32 598), DictEntry.mk (PyData.keyHash P (Str.ofString "^=")) (Value.str (Str.ofString "^=") 722) (Value.int 43 620), DictEntry.mk (PyData.keyHash P (Str.ofString "{")) (Value.str (Str.ofString "{") 723) (Value.int 25 584), DictEntry.mk (PyData.keyHash P (Str.ofString "|")) (Value.str (Str.ofString "|") 724) (Value.int 18 570), DictEntry.mk (PyData.keyHash P (Str.ofString "|=")) (Value.str (Str.ofString "|=") 725) (Value.int 42 618), DictEntry.mk (PyData.keyHash P (Str.ofString "}")) (Value.str (Str.ofString "}") 726) (Value.int 26 586), DictEntry.mk (PyData.keyHash P (Str.ofString "~")) (Value.str (Str.ofString "~") 727) (Value.int 31 596)] 14) #[]
noncomputable def headH5 (P : Params) : Heap := ⟨⟨[o0_0 P, o0_1 P, o0_2 P, o5_3 P, o0_4, o0_5, o0_6, o0_7, o0_8, o0_9, o0_10, o0_11 P, o0_12, o0_13 P, o0_14, o0_15, o0_16, o0_17, o0_18, o0_19, o0_20 P, o0_21 P, o0_22, o0_23, o0_24, o0_25, o0_26, o0_27, o1_28, o3_29, o1_30, o1_31, o2_32, o2_33, o2_34, o2_35, o2_36, o2_37, o2_38, o2_39, o2_40, o2_41, o2_42, o2_43, o2_44, o2_45, o2_46, o2_47, o2_48, o2_49, o2_50, o2_51, o2_52, o2_53, o2_54, o3_55, o3_56, o3_57 P, o3_58, o3_59, o3_60, o3_61, o3_62, o3_63, o3_64, o3_65, o3_66, o3_67, o3_68, o3_69, o3_70, o3_71, o3_72, o3_73, o3_74, o3_75, o3_76, o3_77, o3_78, o3_79, o3_80, o3_81, o3_82, o3_83, o3_84, o3_85, o3_86, o3_87, o3_88, o3_89, o3_90, o3_91, o3_92, o3_93, o3_94, o3_95, o3_96, o3_97, o3_98, o3_99, o3_100, o3_101, o3_102, o3_103, o3_104, o3_105, o3_106, o3_107, o3_108, o3_109, o3_110, o3_111, o3_112, o3_113, o3_114, o3_115, o3_116, o3_117, o3_118, o3_119, o3_120, o3_121, o3_122, o3_123, o3_124, o3_125, o3_126, o3_127, o3_128, o3_129, o3_130, o3_131, o3_132, o3_133, o3_134, o3_135, o3_136, o3_137, o3_138, o3_139, o3_140, o3_141, o3_142, o3_143, o3_144, o3_145, o3_146, o3_147, o3_148, o3_149, o3_150, o3_151, o3_152, o3_153, o3_154, o3_155, o3_156, o3_157, o3_158, o3_159, o3_160, o3_161, o3_162, o3_163, o3_164, o3_165, o3_166, o3_167, o3_168, o3_169, o3_170, o3_171, o3_172, o3_173, o3_174 P, o3_175, o3_176, o3_177, o3_178, o3_179, o5_180 P, o5_181 P, o5_182 P]⟩, headLife⟩
noncomputable def o6_3 (P : Params) : Obj := Obj.mk (Value.type "dict") Option.none (Data.dict #[DictEntry.mk (PyData.keyHash P (Str.ofString "__name__")) (Value.str (Str.ofString "__name__") 165) (Value.str (Str.ofString "law_pe0251_01") 750), DictEntry.mk (PyData.keyHash P (Str.ofString "__doc__")) (Value.str (Str.ofString "__doc__") 166) Value.none, DictEntry.mk (PyData.keyHash P (Str.ofString "__package__")) (Value.str (Str.ofString "__package__") 167) Value.none, DictEntry.mk (PyData.keyHash P (Str.ofString "__loader__")) (Value.str (Str.ofString "__loader__") 168) (Value.builtin "__main__.__loader__#opaque"), DictEntry.mk (PyData.keyHash P (Str.ofString "__spec__")) (Value.str (Str.ofString "__spec__") 169) Value.none, DictEntry.mk (PyData.keyHash P (Str.ofString "__annotations__")) (Value.str (Str.ofString "__annotations__") 170) (Value.ref 6), DictEntry.mk (PyData.keyHash P (Str.ofString "__builtins__")) (Value.str (Str.ofString "__builtins__") 171) (Value.ref 4), DictEntry.mk (PyData.keyHash P (Str.ofString "__file__")) (Value.str (Str.ofString "__file__") 173) (Value.str (Str.ofString "/claim/cut.py") 172), DictEntry.mk (PyData.keyHash P (Str.ofString "__cached__")) (Value.str (Str.ofString "__cached__") 174) Value.none, DictEntry.mk (PyData.keyHash P (Str.ofString "_sre")) (Value.str (Str.ofString "_sre") 275) (Value.ref 12), DictEntry.mk (PyData.keyHash P (Str.ofString "tspecials")) (Value.str (Str.ofString "tspecials") 317) (Value.ref 36), DictEntry.mk (PyData.keyHash P (Str.ofString "_name_disallowed_re")) (Value.str (Str.ofString "_name_disallowed_re") 343) (Value.ref 41), DictEntry.mk (PyData.keyHash P (Str.ofString "_value_disallowed_re")) (Value.str (Str.ofString "_value_disallowed_re") 377) (Value.ref 46), DictEntry.mk (PyData.keyHash P (Str.ofString "_formatparam")) (Value.str (Str.ofString "_formatparam") 387) (Value.ref 54), DictEntry.mk (PyData.keyHash P (Str.ofString "Headers")) (Value.str (Str.ofString "Headers") 545) (Value.ref 175), DictEntry.mk (PyData.keyHash P (Str.ofString "LPAR")) (Value.str (Str.ofString "LPAR") 549) (Value.int 7 548), DictEntry.mk (PyData.keyHash P (Str.ofString "RPAR")) (Value.str (Str.ofString "RPAR") 551) (Value.int 8 550), DictEntry.mk (PyData.keyHash P (Str.ofString "LSQB")) (Value.str (Str.ofString "LSQB") 553) (Value.int 9 552), DictEntry.mk (PyData.keyHash P (Str.ofString "RSQB")) (Value.str (Str.ofString "RSQB") 555) (Value.int 10 554), DictEntry.mk (PyData.keyHash P (Str.ofString "COLON")) (Value.str (Str.ofString "COLON") 557) (Value.int 11 556), DictEntry.mk (PyData.keyHash P (Str.ofString "COMMA")) (Value.str (Str.ofString "COMMA") 559) (Value.int 12 558), DictEntry.mk (PyData.keyHash P (Str.ofString "SEMI")) (Value.str (Str.ofString "SEMI") 561) (Value.int 13 560), DictEntry.mk (PyData.keyHash P (Str.ofString "PLUS")) (Value.str (Str.ofString "PLUS") 563) (Value.int 14 562), DictEntry.mk (PyData.keyHash P (Str.ofString "MINUS")) (Value.str (Str.ofString "MINUS") 565) (Value.int 15 564), DictEntry.mk (PyData.keyHash P (Str.ofString "STAR")) (Value.str (Str.ofString "STAR") 567) (Value.int 16 566), DictEntry.mk (PyData.keyHash P (Str.ofString "SLASH")) (Value.str (Str.ofString "SLASH") 569) (Value.int 17 568), DictEntry.mk (PyData.keyHash P (Str.ofString "VBAR")) (Value.str (Str.ofString "VBAR") 571) (Value.int 18 570), DictEntry.mk (PyData.keyHash P (Str.ofString "AMPER")) (Value.str (Str.ofString "AMPER") 573) (Value.int 19 572), DictEntry.mk (PyData.keyHash P (Str.ofString "LESS")) (Value.str (Str.ofString "LESS") 575) (Value.int 20 574), DictEntry.mk (PyData.keyHash P (Str.ofString "GREATER")) (Value.str (Str.ofString "GREATER") 577) (Value.int 21 576), DictEntry.mk (PyData.keyHash P (Str.ofString "EQUAL")) (Value.str (Str.ofString "EQUAL") 579) (Value.int 22 578), DictEntry.mk (PyData.keyHash P (Str.ofString "DOT")) (Value.str (Str.ofString "DOT") 581) (Value.int 23 580), DictEntry.mk (PyData.keyHash P (Str.ofString "PERCENT")) (Value.str (Str.ofString "PERCENT") 583) (Value.int 24 582), DictEntry.mk (PyData.keyHash P (Str.ofString "LBRACE")) (Value.str (Str.ofString "LBRACE") 585) (Value.int 25 584), DictEntry.mk (PyData.keyHash P (Str.ofString "RBRACE")) (Value.str (Str.ofString "RBRACE") 587) (Value.int 26 586), DictEntry.mk (PyData.keyHash P (Str.ofString "EQEQUAL")) (Value.str (Str.ofString "EQEQUAL") 589) (Value.int 27 588), DictEntry.mk (PyData.keyHash P (Str.ofString "NOTEQUAL")) (Value.str (Str.ofString "NOTEQUAL") 591) (Value.int 28 590), DictEntry.mk (PyData.keyHash P (Str.ofString "LESSEQUAL")) (Value.str (Str.ofString "LESSEQUAL") 593) (Value.int 29 592), DictEntry.mk (PyData.keyHash P (Str.ofString "GREATEREQUAL")) (Value.str (Str.ofString "GREATEREQUAL") 595) (Value.int 30 594), DictEntry.mk (PyData.keyHash P (Str.ofString "TILDE")) (Value.str (Str.ofString "TILDE") 597) (Value.int 31 596), DictEntry.mk (PyData.keyHash P (Str.ofString "CIRCUMFLEX")) (Value.str (Str.ofString "CIRCUMFLEX") 599) (Value.int 32 598), DictEntry.mk (PyData.keyHash P (Str.ofString "LEFTSHIFT")) (Value.str (Str.ofString "LEFTSHIFT") 601) (Value.int 33 600), DictEntry.mk (PyData.keyHash P (Str.ofString "RIGHTSHIFT")) (Value.str (Str.ofString "RIGHTSHIFT") 603) (Value.int 34 602), DictEntry.mk (PyData.keyHash P (Str.ofString "DOUBLESTAR")) (Value.str (Str.ofString "DOUBLESTAR") 605) (Value.int 35 604), DictEntry.mk (PyData.keyHash P (Str.ofString "PLUSEQUAL")) (Value.str (Str.ofString "PLUSEQUAL") 607) (Value.int 36 606), DictEntry.mk (PyData.keyHash P (Str.ofString "MINEQUAL")) (Value.str (Str.ofString "MINEQUAL") 609) (Value.int 37 608), DictEntry.mk (PyData.keyHash P (Str.ofString "STAREQUAL")) (Value.str (Str.ofString "STAREQUAL") 611) (Value.int 38 610), DictEntry.mk (PyData.keyHash P (Str.ofString "SLASHEQUAL")) (Value.str (Str.ofString "SLASHEQUAL") 613) (Value.int 39 612), DictEntry.mk (PyData.keyHash P (Str.ofString "PERCENTEQUAL")) (Value.str (Str.ofString "PERCENTEQUAL") 615) (Value.int 40 614), DictEntry.mk (PyData.keyHash P (Str.ofString "AMPEREQUAL")) (Value.str (Str.ofString "AMPEREQUAL") 617) (Value.int 41 616), DictEntry.mk (PyData.keyHash P (Str.ofString "VBAREQUAL")) (Value.str (Str.ofString "VBAREQUAL") 619) (Value.int 42 618), DictEntry.mk (PyData.keyHash P (Str.ofString "CIRCUMFLEXEQUAL")) (Value.str (Str.ofString "CIRCUMFLEXEQUAL") 621) (Value.int 43 620), DictEntry.mk (PyData.keyHash P (Str.ofString "LEFTSHIFTEQUAL")) (Value.str (Str.ofString "LEFTSHIFTEQUAL") 623) (Value.int 44 622), DictEntry.mk (PyData.keyHash P (Str.ofString "RIGHTSHIFTEQUAL")) (Value.str (Str.ofString "RIGHTSHIFTEQUAL") 625) (Value.int 45 624), DictEntry.mk (PyData.keyHash P (Str.ofString "DOUBLESTAREQUAL")) (Value.str (Str.ofString "DOUBLESTAREQUAL") 627) (Value.int 46 626), DictEntry.mk (PyData.keyHash P (Str.ofString "DOUBLESLASH")) (Value.str (Str.ofString "DOUBLESLASH") 629) (Value.int 47 628), DictEntry.mk (PyData.keyHash P (Str.ofString "DOUBLESLASHEQUAL")) (Value.str (Str.ofString "DOUBLESLASHEQUAL") 631) (Value.int 48 630), DictEntry.mk (PyData.keyHash P (Str.ofString "AT")) (Value.str (Str.ofString "AT") 633) (Value.int 49 632), DictEntry.mk (PyData.keyHash P (Str.ofString "ATEQUAL")) (Value.str (Str.ofString "ATEQUAL") 635) (Value.int 50 634), DictEntry.mk (PyData.keyHash P (Str.ofString "RARROW")) (Value.str (Str.ofString "RARROW") 637) (Value.int 51 636), DictEntry.mk (PyData.keyHash P (Str.ofString "ELLIPSIS")) (Value.str (Str.ofString "ELLIPSIS") 639) (Value.int 52 638), DictEntry.mk (PyData.keyHash P (Str.ofString "COLONEQUAL")) (Value.str (Str.ofString "COLONEQUAL") 641) (Value.int 53 640), DictEntry.mk (PyData.keyHash P (Str.ofString "EXCLAMATION")) (Value.str (Str.ofString "EXCLAMATION") 643) (Value.int 54 642), DictEntry.mk (PyData.keyHash P (Str.ofString "NT_OFFSET")) (Value.str (Str.ofString "NT_OFFSET") 645) (Value.int 256 644), DictEntry.mk (PyData.keyHash P (Str.ofString "EXACT_TOKEN_TYPES")) (Value.str (Str.ofString "EXACT_TOKEN_TYPES") 742) (Value.ref 180), DictEntry.mk (PyData.keyHash P (Str.ofString "ISNONTERMINAL")) (Value.str (Str.ofString "ISNONTERMINAL") 749) (Value.ref 189), DictEntry.mk (PyData.keyHash P (Str.ofString "_law_calls")) (Value.str (Str.ofString "_law_calls") 757) (Value.ref 194), DictEntry.mk (PyData.keyHash P (Str.ofString "_law_table")) (Value.str (Str.ofString "_law_table") 769) (Value.ref 201), DictEntry.mk (PyData.keyHash P (Str.ofString "_law_rules")) (Value.str (Str.ofString "_law_rules") 775) (Value.ref 206), DictEntry.mk (PyData.keyHash P (Str.ofString "_law_texts")) (Value.str (Str.ofString "_law_texts") 781) (Value.ref 211), DictEntry.mk (PyData.keyHash P (Str.ofString "_law_holds")) (Value.str (Str.ofString "_law_holds") 787) (Value.ref 216), DictEntry.mk (PyData.keyHash P (Str.ofString "_law_due")) (Value.str (Str.ofString "_law_due") 793) (Value.ref 221), DictEntry.mk (PyData.keyHash P (Str.ofString "_law_sides")) (Value.str (Str.ofString "_law_sides") 803) (Value.ref 228), DictEntry.mk (PyData.keyHash P (Str.ofString "_law_asked")) (Value.str (Str.ofString "_law_asked") 815) (Value.ref 235), DictEntry.mk (PyData.keyHash P (Str.ofString "_law_both")) (Value.str (Str.ofString "_law_both") 826) (Value.ref 242), DictEntry.mk (PyData.keyHash P (Str.ofString "_law_proof")) (Value.str (Str.ofString "_law_proof") 832) (Value.ref 247), DictEntry.mk (PyData.keyHash P (Str.ofString "law")) (Value.str (Str.ofString "law") 838) (Value.ref 252)] 77) #[]
noncomputable def o6_29 : Obj := Obj.mk Value.none Option.none (Data.fields #[Value.int 6 0, Value.int 0 0, Value.ref 53, Value.int 15 0, Value.int 0 0, Value.ref 60, Value.int 153 0, Value.int 0 0, Value.ref 188, Value.int 156 0, Value.int 0 0, Value.ref 193, Value.int 168 0, Value.int 0 0, Value.ref 200, Value.int 180 0, Value.int 0 0, Value.ref 205, Value.int 190 0, Value.int 0 0, Value.ref 210, Value.int 192 0, Value.int 0 0, Value.ref 215, Value.int 197 0, Value.int 0 0, Value.ref 220, Value.int 204 0, Value.int 0 0, Value.ref 227, Value.int 215 0, Value.int 0 0, Value.ref 234, Value.int 226 0, Value.int 0 0, Value.ref 241, Value.int 231 0, Value.int 0 0, Value.ref 246, Value.int 239 0, Value.int 0 0, Value.ref 251]) #[]
noncomputable def o6_183 : Obj := Obj.mk (Value.type "tuple") Option.none (Data.seq #[]) #[]
noncomputable def o6_184 : Obj := Obj.mk Value.none Option.none (Data.fields #[]) #[]
noncomputable def o6_185 : Obj := Obj.mk (Value.type "tuple") Option.none (Data.seq #[Value.str (Str.ofString "x") 746]) #[]
noncomputable def o6_186 : Obj := Obj.mk (Value.type "tuple") Option.none (Data.seq #[]) #[]
noncomputable def o6_187 : Obj := by
  refine headLit (p := ?p) (b := ?b) (s := ?s) (x := (headStmt 58)) (fun p b s => Obj.mk Value.none Option.none (Data.func (FuncData.mk (Str.ofString "ISNONTERMINAL") (Str.ofString "ISNONTERMINAL") p (FuncBody.stmts b) s 0 [] Value.none Value.none Value.none Value.none Option.none Value.none Value.none 0)) #[]) ?hp ?hb ?hs
  case hp => (conv => lhs; whnf) <;> exact rfl
  case hb => (conv => lhs; whnf) <;> exact rfl
  case hs => (conv => lhs; whnf) <;> exact rfl
noncomputable def o6_188 : Obj := Obj.mk (Value.type "code") Option.none (Data.fields #[Value.str (Str.ofString "ISNONTERMINAL") 743, Value.str (Str.ofString "ISNONTERMINAL") 744, Value.str (Str.ofString "/claim/cut.py") 745, Value.int 153 0, Value.int 1 0, Value.int 0 0, Value.int 0 0, Value.int 3 0, Value.ref 183, Value.bool Bool.true, Value.int 276 0, Value.ref 184, Value.none, Value.ref 185, Value.ref 186, Value.ref 187, Value.int 747 0, Value.int 153 0, Value.str (Str.ofString "/claim/cut.py") 748]) #[]
noncomputable def o6_189 : Obj := by
  refine headLit (p := ?p) (b := ?b) (s := ?s) (x := (headStmt 58)) (fun p b s => Obj.mk (Value.type "function") Option.none (Data.func (FuncData.mk (Str.ofString "ISNONTERMINAL") (Str.ofString "ISNONTERMINAL") p (FuncBody.stmts b) s 3 [] Value.none Value.none Value.none (Value.str (Str.ofString "cpy313.token") 546) Option.none (Value.ref 188) Value.none 0)) #[]) ?hp ?hb ?hs
  case hp => (conv => lhs; whnf) <;> exact rfl
  case hb => (conv => lhs; whnf) <;> exact rfl
  case hs => (conv => lhs; whnf) <;> exact rfl
noncomputable def o6_190 : Obj := Obj.mk (Value.type "tuple") Option.none (Data.seq #[]) #[]
noncomputable def o6_191 : Obj := Obj.mk Value.none Option.none (Data.fields #[]) #[]
noncomputable def o6_192 : Obj := by
  refine headLit (p := ?p) (b := ?b) (s := ?s) (x := (headStmt 60)) (fun p b s => Obj.mk Value.none Option.none (Data.func (FuncData.mk (Str.ofString "_law_calls") (Str.ofString "_law_calls") p (FuncBody.stmts b) s 0 [] Value.none Value.none Value.none Value.none Option.none Value.none Value.none 0)) #[]) ?hp ?hb ?hs
  case hp => (conv => lhs; whnf) <;> exact rfl
  case hb => (conv => lhs; whnf) <;> exact rfl
  case hs => (conv => lhs; whnf) <;> exact rfl
noncomputable def o6_193 : Obj := Obj.mk (Value.type "code") Option.none (Data.fields #[Value.str (Str.ofString "_law_calls") 752, Value.str (Str.ofString "_law_calls") 753, Value.str (Str.ofString "/claim/cut.py") 754, Value.int 156 0, Value.int 1 0, Value.int 0 0, Value.int 0 0, Value.int 3 0, Value.ref 190, Value.bool Bool.true, Value.int 276 0, Value.ref 191, Value.none, Value.none, Value.none, Value.ref 192, Value.int 755 0, Value.int 156 0, Value.str (Str.ofString "/claim/cut.py") 756]) #[]
noncomputable def o6_194 : Obj := by
  refine headLit (p := ?p) (b := ?b) (s := ?s) (x := (headStmt 60)) (fun p b s => Obj.mk (Value.type "function") Option.none (Data.func (FuncData.mk (Str.ofString "_law_calls") (Str.ofString "_law_calls") p (FuncBody.stmts b) s 3 [] Value.none Value.none Value.none (Value.str (Str.ofString "law_pe0251_01") 750) Option.none (Value.ref 193) Value.none 0)) #[]) ?hp ?hb ?hs
  case hp => (conv => lhs; whnf) <;> exact rfl
  case hb => (conv => lhs; whnf) <;> exact rfl
  case hs => (conv => lhs; whnf) <;> exact rfl
noncomputable def o6_195 : Obj := Obj.mk (Value.type "tuple") Option.none (Data.seq #[]) #[]
noncomputable def o6_196 : Obj := Obj.mk Value.none Option.none (Data.fields #[]) #[]
noncomputable def o6_197 : Obj := Obj.mk (Value.type "tuple") Option.none (Data.seq #[Value.str (Str.ofString "calls") 761, Value.str (Str.ofString "table") 762, Value.str (Str.ofString "call") 763, Value.str (Str.ofString "head") 764, Value.str (Str.ofString "text") 765, Value.str (Str.ofString "sides") 766]) #[]
noncomputable def o6_198 : Obj := Obj.mk (Value.type "tuple") Option.none (Data.seq #[]) #[]
noncomputable def o6_199 : Obj := by
  refine headLit (p := ?p) (b := ?b) (s := ?s) (x := (headStmt 61)) (fun p b s => Obj.mk Value.none Option.none (Data.func (FuncData.mk (Str.ofString "_law_table") (Str.ofString "_law_table") p (FuncBody.stmts b) s 0 [] Value.none Value.none Value.none Value.none Option.none Value.none Value.none 0)) #[]) ?hp ?hb ?hs
  case hp => (conv => lhs; whnf) <;> exact rfl
  case hb => (conv => lhs; whnf) <;> exact rfl
  case hs => (conv => lhs; whnf) <;> exact rfl
noncomputable def o6_200 : Obj := Obj.mk (Value.type "code") Option.none (Data.fields #[Value.str (Str.ofString "_law_table") 758, Value.str (Str.ofString "_law_table") 759, Value.str (Str.ofString "/claim/cut.py") 760, Value.int 168 0, Value.int 1 0, Value.int 0 0, Value.int 0 0, Value.int 3 0, Value.ref 195, Value.bool Bool.true, Value.int 276 0, Value.ref 196, Value.none, Value.ref 197, Value.ref 198, Value.ref 199, Value.int 767 0, Value.int 168 0, Value.str (Str.ofString "/claim/cut.py") 768]) #[]
noncomputable def o6_201 : Obj := by
  refine headLit (p := ?p) (b := ?b) (s := ?s) (x := (headStmt 61)) (fun p b s => Obj.mk (Value.type "function") Option.none (Data.func (FuncData.mk (Str.ofString "_law_table") (Str.ofString "_law_table") p (FuncBody.stmts b) s 3 [] Value.none Value.none Value.none (Value.str (Str.ofString "law_pe0251_01") 750) Option.none (Value.ref 200) Value.none 0)) #[]) ?hp ?hb ?hs
  case hp => (conv => lhs; whnf) <;> exact rfl
  case hb => (conv => lhs; whnf) <;> exact rfl
  case hs => (conv => lhs; whnf) <;> exact rfl
noncomputable def o6_202 : Obj := Obj.mk (Value.type "tuple") Option.none (Data.seq #[]) #[]
noncomputable def o6_203 : Obj := Obj.mk Value.none Option.none (Data.fields #[]) #[]
noncomputable def o6_204 : Obj := by
  refine headLit (p := ?p) (b := ?b) (s := ?s) (x := (headStmt 62)) (fun p b s => Obj.mk Value.none Option.none (Data.func (FuncData.mk (Str.ofString "_law_rules") (Str.ofString "_law_rules") p (FuncBody.stmts b) s 0 [] Value.none Value.none Value.none Value.none Option.none Value.none Value.none 0)) #[]) ?hp ?hb ?hs
  case hp => (conv => lhs; whnf) <;> exact rfl
  case hb => (conv => lhs; whnf) <;> exact rfl
  case hs => (conv => lhs; whnf) <;> exact rfl
noncomputable def o6_205 : Obj := Obj.mk (Value.type "code") Option.none (Data.fields #[Value.str (Str.ofString "_law_rules") 770, Value.str (Str.ofString "_law_rules") 771, Value.str (Str.ofString "/claim/cut.py") 772, Value.int 180 0, Value.int 1 0, Value.int 0 0, Value.int 0 0, Value.int 3 0, Value.ref 202, Value.bool Bool.true, Value.int 276 0, Value.ref 203, Value.none, Value.none, Value.none, Value.ref 204, Value.int 773 0, Value.int 180 0, Value.str (Str.ofString "/claim/cut.py") 774]) #[]
noncomputable def o6_206 : Obj := by
  refine headLit (p := ?p) (b := ?b) (s := ?s) (x := (headStmt 62)) (fun p b s => Obj.mk (Value.type "function") Option.none (Data.func (FuncData.mk (Str.ofString "_law_rules") (Str.ofString "_law_rules") p (FuncBody.stmts b) s 3 [] Value.none Value.none Value.none (Value.str (Str.ofString "law_pe0251_01") 750) Option.none (Value.ref 205) Value.none 0)) #[]) ?hp ?hb ?hs
  case hp => (conv => lhs; whnf) <;> exact rfl
  case hb => (conv => lhs; whnf) <;> exact rfl
  case hs => (conv => lhs; whnf) <;> exact rfl
noncomputable def o6_207 : Obj := Obj.mk (Value.type "tuple") Option.none (Data.seq #[]) #[]
noncomputable def o6_208 : Obj := Obj.mk Value.none Option.none (Data.fields #[]) #[]
noncomputable def o6_209 : Obj := by
  refine headLit (p := ?p) (b := ?b) (s := ?s) (x := (headStmt 63)) (fun p b s => Obj.mk Value.none Option.none (Data.func (FuncData.mk (Str.ofString "_law_texts") (Str.ofString "_law_texts") p (FuncBody.stmts b) s 0 [] Value.none Value.none Value.none Value.none Option.none Value.none Value.none 0)) #[]) ?hp ?hb ?hs
  case hp => (conv => lhs; whnf) <;> exact rfl
  case hb => (conv => lhs; whnf) <;> exact rfl
  case hs => (conv => lhs; whnf) <;> exact rfl
noncomputable def o6_210 : Obj := Obj.mk (Value.type "code") Option.none (Data.fields #[Value.str (Str.ofString "_law_texts") 776, Value.str (Str.ofString "_law_texts") 777, Value.str (Str.ofString "/claim/cut.py") 778, Value.int 190 0, Value.int 2 0, Value.int 0 0, Value.int 0 0, Value.int 3 0, Value.ref 207, Value.bool Bool.true, Value.int 276 0, Value.ref 208, Value.none, Value.none, Value.none, Value.ref 209, Value.int 779 0, Value.int 190 0, Value.str (Str.ofString "/claim/cut.py") 780]) #[]
noncomputable def o6_211 : Obj := by
  refine headLit (p := ?p) (b := ?b) (s := ?s) (x := (headStmt 63)) (fun p b s => Obj.mk (Value.type "function") Option.none (Data.func (FuncData.mk (Str.ofString "_law_texts") (Str.ofString "_law_texts") p (FuncBody.stmts b) s 3 [] Value.none Value.none Value.none (Value.str (Str.ofString "law_pe0251_01") 750) Option.none (Value.ref 210) Value.none 0)) #[]) ?hp ?hb ?hs
  case hp => (conv => lhs; whnf) <;> exact rfl
  case hb => (conv => lhs; whnf) <;> exact rfl
  case hs => (conv => lhs; whnf) <;> exact rfl
noncomputable def o6_212 : Obj := Obj.mk (Value.type "tuple") Option.none (Data.seq #[]) #[]
noncomputable def o6_213 : Obj := Obj.mk Value.none Option.none (Data.fields #[]) #[]
noncomputable def o6_214 : Obj := by
  refine headLit (p := ?p) (b := ?b) (s := ?s) (x := (headStmt 64)) (fun p b s => Obj.mk Value.none Option.none (Data.func (FuncData.mk (Str.ofString "_law_holds") (Str.ofString "_law_holds") p (FuncBody.stmts b) s 0 [] Value.none Value.none Value.none Value.none Option.none Value.none Value.none 0)) #[]) ?hp ?hb ?hs
  case hp => (conv => lhs; whnf) <;> exact rfl
  case hb => (conv => lhs; whnf) <;> exact rfl
  case hs => (conv => lhs; whnf) <;> exact rfl
noncomputable def o6_215 : Obj := Obj.mk (Value.type "code") Option.none (Data.fields #[Value.str (Str.ofString "_law_holds") 782, Value.str (Str.ofString "_law_holds") 783, Value.str (Str.ofString "/claim/cut.py") 784, Value.int 192 0, Value.int 2 0, Value.int 0 0, Value.int 0 0, Value.int 3 0, Value.ref 212, Value.bool Bool.true, Value.int 276 0, Value.ref 213, Value.none, Value.none, Value.none, Value.ref 214, Value.int 785 0, Value.int 192 0, Value.str (Str.ofString "/claim/cut.py") 786]) #[]
noncomputable def o6_216 : Obj := by
  refine headLit (p := ?p) (b := ?b) (s := ?s) (x := (headStmt 64)) (fun p b s => Obj.mk (Value.type "function") Option.none (Data.func (FuncData.mk (Str.ofString "_law_holds") (Str.ofString "_law_holds") p (FuncBody.stmts b) s 3 [] Value.none Value.none Value.none (Value.str (Str.ofString "law_pe0251_01") 750) Option.none (Value.ref 215) Value.none 0)) #[]) ?hp ?hb ?hs
  case hp => (conv => lhs; whnf) <;> exact rfl
  case hb => (conv => lhs; whnf) <;> exact rfl
  case hs => (conv => lhs; whnf) <;> exact rfl
noncomputable def o6_217 : Obj := Obj.mk (Value.type "tuple") Option.none (Data.seq #[]) #[]
noncomputable def o6_218 : Obj := Obj.mk Value.none Option.none (Data.fields #[]) #[]
noncomputable def o6_219 : Obj := by
  refine headLit (p := ?p) (b := ?b) (s := ?s) (x := (headStmt 65)) (fun p b s => Obj.mk Value.none Option.none (Data.func (FuncData.mk (Str.ofString "_law_due") (Str.ofString "_law_due") p (FuncBody.stmts b) s 0 [] Value.none Value.none Value.none Value.none Option.none Value.none Value.none 0)) #[]) ?hp ?hb ?hs
  case hp => (conv => lhs; whnf) <;> exact rfl
  case hb => (conv => lhs; whnf) <;> exact rfl
  case hs => (conv => lhs; whnf) <;> exact rfl
noncomputable def o6_220 : Obj := Obj.mk (Value.type "code") Option.none (Data.fields #[Value.str (Str.ofString "_law_due") 788, Value.str (Str.ofString "_law_due") 789, Value.str (Str.ofString "/claim/cut.py") 790, Value.int 197 0, Value.int 1 0, Value.int 0 0, Value.int 0 0, Value.int 3 0, Value.ref 217, Value.bool Bool.true, Value.int 276 0, Value.ref 218, Value.none, Value.none, Value.none, Value.ref 219, Value.int 791 0, Value.int 197 0, Value.str (Str.ofString "/claim/cut.py") 792]) #[]
noncomputable def o6_221 : Obj := by
  refine headLit (p := ?p) (b := ?b) (s := ?s) (x := (headStmt 65)) (fun p b s => Obj.mk (Value.type "function") Option.none (Data.func (FuncData.mk (Str.ofString "_law_due") (Str.ofString "_law_due") p (FuncBody.stmts b) s 3 [] Value.none Value.none Value.none (Value.str (Str.ofString "law_pe0251_01") 750) Option.none (Value.ref 220) Value.none 0)) #[]) ?hp ?hb ?hs
  case hp => (conv => lhs; whnf) <;> exact rfl
  case hb => (conv => lhs; whnf) <;> exact rfl
  case hs => (conv => lhs; whnf) <;> exact rfl
noncomputable def o6_222 : Obj := Obj.mk (Value.type "tuple") Option.none (Data.seq #[]) #[]
noncomputable def o6_223 : Obj := Obj.mk Value.none Option.none (Data.fields #[]) #[]
noncomputable def o6_224 : Obj := Obj.mk (Value.type "tuple") Option.none (Data.seq #[Value.str (Str.ofString "text") 797, Value.str (Str.ofString "sides") 798, Value.str (Str.ofString "sign") 799, Value.str (Str.ofString "number") 800]) #[]
noncomputable def o6_225 : Obj := Obj.mk (Value.type "tuple") Option.none (Data.seq #[]) #[]
noncomputable def o6_226 : Obj := by
  refine headLit (p := ?p) (b := ?b) (s := ?s) (x := (headStmt 66)) (fun p b s => Obj.mk Value.none Option.none (Data.func (FuncData.mk (Str.ofString "_law_sides") (Str.ofString "_law_sides") p (FuncBody.stmts b) s 0 [] Value.none Value.none Value.none Value.none Option.none Value.none Value.none 0)) #[]) ?hp ?hb ?hs
  case hp => (conv => lhs; whnf) <;> exact rfl
  case hb => (conv => lhs; whnf) <;> exact rfl
  case hs => (conv => lhs; whnf) <;> exact rfl
noncomputable def o6_227 : Obj := Obj.mk (Value.type "code") Option.none (Data.fields #[Value.str (Str.ofString "_law_sides") 794, Value.str (Str.ofString "_law_sides") 795, Value.str (Str.ofString "/claim/cut.py") 796, Value.int 204 0, Value.int 1 0, Value.int 0 0, Value.int 0 0, Value.int 3 0, Value.ref 222, Value.bool Bool.true, Value.int 276 0, Value.ref 223, Value.none, Value.ref 224, Value.ref 225, Value.ref 226, Value.int 801 0, Value.int 204 0, Value.str (Str.ofString "/claim/cut.py") 802]) #[]
noncomputable def o6_228 : Obj := by
  refine headLit (p := ?p) (b := ?b) (s := ?s) (x := (headStmt 66)) (fun p b s => Obj.mk (Value.type "function") Option.none (Data.func (FuncData.mk (Str.ofString "_law_sides") (Str.ofString "_law_sides") p (FuncBody.stmts b) s 3 [] Value.none Value.none Value.none (Value.str (Str.ofString "law_pe0251_01") 750) Option.none (Value.ref 227) Value.none 0)) #[]) ?hp ?hb ?hs
  case hp => (conv => lhs; whnf) <;> exact rfl
  case hb => (conv => lhs; whnf) <;> exact rfl
  case hs => (conv => lhs; whnf) <;> exact rfl
noncomputable def o6_229 : Obj := Obj.mk (Value.type "tuple") Option.none (Data.seq #[]) #[]
noncomputable def o6_230 : Obj := Obj.mk Value.none Option.none (Data.fields #[]) #[]
noncomputable def o6_231 : Obj := Obj.mk (Value.type "tuple") Option.none (Data.seq #[Value.str (Str.ofString "table") 807, Value.str (Str.ofString "found") 808, Value.str (Str.ofString "letter") 809, Value.str (Str.ofString "above") 810, Value.str (Str.ofString "text") 811, Value.str (Str.ofString "side") 812]) #[]
noncomputable def o6_232 : Obj := Obj.mk (Value.type "tuple") Option.none (Data.seq #[]) #[]
noncomputable def o6_233 : Obj := by
  refine headLit (p := ?p) (b := ?b) (s := ?s) (x := (headStmt 67)) (fun p b s => Obj.mk Value.none Option.none (Data.func (FuncData.mk (Str.ofString "_law_asked") (Str.ofString "_law_asked") p (FuncBody.stmts b) s 0 [] Value.none Value.none Value.none Value.none Option.none Value.none Value.none 0)) #[]) ?hp ?hb ?hs
  case hp => (conv => lhs; whnf) <;> exact rfl
  case hb => (conv => lhs; whnf) <;> exact rfl
  case hs => (conv => lhs; whnf) <;> exact rfl
noncomputable def o6_234 : Obj := Obj.mk (Value.type "code") Option.none (Data.fields #[Value.str (Str.ofString "_law_asked") 804, Value.str (Str.ofString "_law_asked") 805, Value.str (Str.ofString "/claim/cut.py") 806, Value.int 215 0, Value.int 4 0, Value.int 0 0, Value.int 0 0, Value.int 3 0, Value.ref 229, Value.bool Bool.true, Value.int 276 0, Value.ref 230, Value.none, Value.ref 231, Value.ref 232, Value.ref 233, Value.int 813 0, Value.int 215 0, Value.str (Str.ofString "/claim/cut.py") 814]) #[]
noncomputable def o6_235 : Obj := by
  refine headLit (p := ?p) (b := ?b) (s := ?s) (x := (headStmt 67)) (fun p b s => Obj.mk (Value.type "function") Option.none (Data.func (FuncData.mk (Str.ofString "_law_asked") (Str.ofString "_law_asked") p (FuncBody.stmts b) s 3 [] Value.none Value.none Value.none (Value.str (Str.ofString "law_pe0251_01") 750) Option.none (Value.ref 234) Value.none 0)) #[]) ?hp ?hb ?hs
  case hp => (conv => lhs; whnf) <;> exact rfl
  case hb => (conv => lhs; whnf) <;> exact rfl
  case hs => (conv => lhs; whnf) <;> exact rfl
noncomputable def o6_236 : Obj := Obj.mk (Value.type "tuple") Option.none (Data.seq #[]) #[]
noncomputable def o6_237 : Obj := Obj.mk Value.none Option.none (Data.fields #[]) #[]
noncomputable def o6_238 : Obj := Obj.mk (Value.type "tuple") Option.none (Data.seq #[Value.str (Str.ofString "table") 819, Value.str (Str.ofString "found") 820, Value.str (Str.ofString "side") 821, Value.str (Str.ofString "above") 822, Value.str (Str.ofString "letter") 823]) #[]
noncomputable def o6_239 : Obj := Obj.mk (Value.type "tuple") Option.none (Data.seq #[]) #[]
noncomputable def o6_240 : Obj := by
  refine headLit (p := ?p) (b := ?b) (s := ?s) (x := (headStmt 68)) (fun p b s => Obj.mk Value.none Option.none (Data.func (FuncData.mk (Str.ofString "_law_both") (Str.ofString "_law_both") p (FuncBody.stmts b) s 0 [] Value.none Value.none Value.none Value.none Option.none Value.none Value.none 0)) #[]) ?hp ?hb ?hs
  case hp => (conv => lhs; whnf) <;> exact rfl
  case hb => (conv => lhs; whnf) <;> exact rfl
  case hs => (conv => lhs; whnf) <;> exact rfl
noncomputable def o6_241 : Obj := Obj.mk (Value.type "code") Option.none (Data.fields #[Value.str (Str.ofString "_law_both") 816, Value.str (Str.ofString "_law_both") 817, Value.str (Str.ofString "/claim/cut.py") 818, Value.int 226 0, Value.int 4 0, Value.int 0 0, Value.int 0 0, Value.int 3 0, Value.ref 236, Value.bool Bool.true, Value.int 276 0, Value.ref 237, Value.none, Value.ref 238, Value.ref 239, Value.ref 240, Value.int 824 0, Value.int 226 0, Value.str (Str.ofString "/claim/cut.py") 825]) #[]
noncomputable def o6_242 : Obj := by
  refine headLit (p := ?p) (b := ?b) (s := ?s) (x := (headStmt 68)) (fun p b s => Obj.mk (Value.type "function") Option.none (Data.func (FuncData.mk (Str.ofString "_law_both") (Str.ofString "_law_both") p (FuncBody.stmts b) s 3 [] Value.none Value.none Value.none (Value.str (Str.ofString "law_pe0251_01") 750) Option.none (Value.ref 241) Value.none 0)) #[]) ?hp ?hb ?hs
  case hp => (conv => lhs; whnf) <;> exact rfl
  case hb => (conv => lhs; whnf) <;> exact rfl
  case hs => (conv => lhs; whnf) <;> exact rfl
noncomputable def o6_243 : Obj := Obj.mk (Value.type "tuple") Option.none (Data.seq #[]) #[]
noncomputable def o6_244 : Obj := Obj.mk Value.none Option.none (Data.fields #[]) #[]
noncomputable def o6_245 : Obj := by
  refine headLit (p := ?p) (b := ?b) (s := ?s) (x := (headStmt 69)) (fun p b s => Obj.mk Value.none Option.none (Data.func (FuncData.mk (Str.ofString "_law_proof") (Str.ofString "_law_proof") p (FuncBody.stmts b) s 0 [] Value.none Value.none Value.none Value.none Option.none Value.none Value.none 0)) #[]) ?hp ?hb ?hs
  case hp => (conv => lhs; whnf) <;> exact rfl
  case hb => (conv => lhs; whnf) <;> exact rfl
  case hs => (conv => lhs; whnf) <;> exact rfl
noncomputable def o6_246 : Obj := Obj.mk (Value.type "code") Option.none (Data.fields #[Value.str (Str.ofString "_law_proof") 827, Value.str (Str.ofString "_law_proof") 828, Value.str (Str.ofString "/claim/cut.py") 829, Value.int 231 0, Value.int 3 0, Value.int 0 0, Value.int 0 0, Value.int 3 0, Value.ref 243, Value.bool Bool.true, Value.int 276 0, Value.ref 244, Value.none, Value.none, Value.none, Value.ref 245, Value.int 830 0, Value.int 231 0, Value.str (Str.ofString "/claim/cut.py") 831]) #[]
noncomputable def o6_247 : Obj := by
  refine headLit (p := ?p) (b := ?b) (s := ?s) (x := (headStmt 69)) (fun p b s => Obj.mk (Value.type "function") Option.none (Data.func (FuncData.mk (Str.ofString "_law_proof") (Str.ofString "_law_proof") p (FuncBody.stmts b) s 3 [] Value.none Value.none Value.none (Value.str (Str.ofString "law_pe0251_01") 750) Option.none (Value.ref 246) Value.none 0)) #[]) ?hp ?hb ?hs
  case hp => (conv => lhs; whnf) <;> exact rfl
  case hb => (conv => lhs; whnf) <;> exact rfl
  case hs => (conv => lhs; whnf) <;> exact rfl
noncomputable def o6_248 : Obj := Obj.mk (Value.type "tuple") Option.none (Data.seq #[]) #[]
noncomputable def o6_249 : Obj := Obj.mk Value.none Option.none (Data.fields #[]) #[]
noncomputable def o6_250 : Obj := by
  refine headLit (p := ?p) (b := ?b) (s := ?s) (x := (headStmt 70)) (fun p b s => Obj.mk Value.none Option.none (Data.func (FuncData.mk (Str.ofString "law") (Str.ofString "law") p (FuncBody.stmts b) s 0 [] Value.none Value.none Value.none Value.none Option.none Value.none Value.none 0)) #[]) ?hp ?hb ?hs
  case hp => (conv => lhs; whnf) <;> exact rfl
  case hb => (conv => lhs; whnf) <;> exact rfl
  case hs => (conv => lhs; whnf) <;> exact rfl
noncomputable def o6_251 : Obj := Obj.mk (Value.type "code") Option.none (Data.fields #[Value.str (Str.ofString "law") 833, Value.str (Str.ofString "law") 834, Value.str (Str.ofString "/claim/cut.py") 835, Value.int 239 0, Value.int 1 0, Value.int 0 0, Value.int 0 0, Value.int 3 0, Value.ref 248, Value.bool Bool.true, Value.int 276 0, Value.ref 249, Value.none, Value.none, Value.none, Value.ref 250, Value.int 836 0, Value.int 239 0, Value.str (Str.ofString "/claim/cut.py") 837]) #[]
noncomputable def o6_252 : Obj := by
  refine headLit (p := ?p) (b := ?b) (s := ?s) (x := (headStmt 70)) (fun p b s => Obj.mk (Value.type "function") Option.none (Data.func (FuncData.mk (Str.ofString "law") (Str.ofString "law") p (FuncBody.stmts b) s 3 [] Value.none Value.none Value.none (Value.str (Str.ofString "law_pe0251_01") 750) Option.none (Value.ref 251) Value.none 0)) #[]) ?hp ?hb ?hs
  case hp => (conv => lhs; whnf) <;> exact rfl
  case hb => (conv => lhs; whnf) <;> exact rfl
  case hs => (conv => lhs; whnf) <;> exact rfl
noncomputable def headH6 (P : Params) : Heap := ⟨⟨[o0_0 P, o0_1 P, o0_2 P, o6_3 P, o0_4, o0_5, o0_6, o0_7, o0_8, o0_9, o0_10, o0_11 P, o0_12, o0_13 P, o0_14, o0_15, o0_16, o0_17, o0_18, o0_19, o0_20 P, o0_21 P, o0_22, o0_23, o0_24, o0_25, o0_26, o0_27, o1_28, o6_29, o1_30, o1_31, o2_32, o2_33, o2_34, o2_35, o2_36, o2_37, o2_38, o2_39, o2_40, o2_41, o2_42, o2_43, o2_44, o2_45, o2_46, o2_47, o2_48, o2_49, o2_50, o2_51, o2_52, o2_53, o2_54, o3_55, o3_56, o3_57 P, o3_58, o3_59, o3_60, o3_61, o3_62, o3_63, o3_64, o3_65, o3_66, o3_67, o3_68, o3_69, o3_70, o3_71, o3_72, o3_73, o3_74, o3_75, o3_76, o3_77, o3_78, o3_79, o3_80, o3_81, o3_82, o3_83, o3_84, o3_85, o3_86, o3_87, o3_88, o3_89, o3_90, o3_91, o3_92, o3_93, o3_94, o3_95, o3_96, o3_97, o3_98, o3_99, o3_100, o3_101, o3_102, o3_103, o3_104, o3_105, o3_106, o3_107, o3_108, o3_109, o3_110, o3_111, o3_112, o3_113, o3_114, o3_115, o3_116, o3_117, o3_118, o3_119, o3_120, o3_121, o3_122, o3_123, o3_124, o3_125, o3_126, o3_127, o3_128, o3_129, o3_130, o3_131, o3_132, o3_133, o3_134, o3_135, o3_136, o3_137, o3_138, o3_139, o3_140, o3_141, o3_142, o3_143, o3_144, o3_145, o3_146, o3_147, o3_148, o3_149, o3_150, o3_151, o3_152, o3_153, o3_154, o3_155, o3_156, o3_157, o3_158, o3_159, o3_160, o3_161, o3_162, o3_163, o3_164, o3_165, o3_166, o3_167, o3_168, o3_169, o3_170, o3_171, o3_172, o3_173, o3_174 P, o3_175, o3_176, o3_177, o3_178, o3_179, o5_180 P, o5_181 P, o5_182 P, o6_183, o6_184, o6_185, o6_186, o6_187, o6_188, o6_189, o6_190, o6_191, o6_192, o6_193, o6_194, o6_195, o6_196, o6_197, o6_198, o6_199, o6_200, o6_201, o6_202, o6_203, o6_204, o6_205, o6_206, o6_207, o6_208, o6_209, o6_210, o6_211, o6_212, o6_213, o6_214, o6_215, o6_216, o6_217, o6_218, o6_219, o6_220, o6_221, o6_222, o6_223, o6_224, o6_225, o6_226, o6_227, o6_228, o6_229, o6_230, o6_231, o6_232, o6_233, o6_234, o6_235, o6_236, o6_237, o6_238, o6_239, o6_240, o6_241, o6_242, o6_243, o6_244, o6_245, o6_246, o6_247, o6_248, o6_249, o6_250, o6_251, o6_252]⟩, headLife⟩
noncomputable def headK : Params → Frag := fun P => (nat_lit 2, o0_2 P) :: (nat_lit 3, o6_3 P) :: (nat_lit 35, o2_35) :: (nat_lit 36, o2_36) :: (nat_lit 40, o2_40) :: (nat_lit 41, o2_41) :: (nat_lit 45, o2_45) :: (nat_lit 46, o2_46) :: (nat_lit 47, o2_47) :: (nat_lit 48, o2_48) :: (nat_lit 50, o2_50) :: (nat_lit 51, o2_51) :: (nat_lit 53, o2_53) :: (nat_lit 54, o2_54) :: (nat_lit 62, o3_62) :: (nat_lit 63, o3_63) :: (nat_lit 65, o3_65) :: (nat_lit 66, o3_66) :: (nat_lit 68, o3_68) :: (nat_lit 69, o3_69) :: (nat_lit 70, o3_70) :: (nat_lit 72, o3_72) :: (nat_lit 73, o3_73) :: (nat_lit 75, o3_75) :: (nat_lit 76, o3_76) :: (nat_lit 77, o3_77) :: (nat_lit 79, o3_79) :: (nat_lit 80, o3_80) :: (nat_lit 82, o3_82) :: (nat_lit 83, o3_83) :: (nat_lit 84, o3_84) :: (nat_lit 86, o3_86) :: (nat_lit 87, o3_87) :: (nat_lit 89, o3_89) :: (nat_lit 90, o3_90) :: (nat_lit 91, o3_91) :: (nat_lit 94, o3_94) :: (nat_lit 95, o3_95) :: (nat_lit 96, o3_96) :: (nat_lit 98, o3_98) :: (nat_lit 99, o3_99) :: (nat_lit 101, o3_101) :: (nat_lit 102, o3_102) :: (nat_lit 103, o3_103) :: (nat_lit 105, o3_105) :: (nat_lit 106, o3_106) :: (nat_lit 108, o3_108) :: (nat_lit 109, o3_109) :: (nat_lit 110, o3_110) :: (nat_lit 113, o3_113) :: (nat_lit 114, o3_114) :: (nat_lit 115, o3_115) :: (nat_lit 116, o3_116) :: (nat_lit 118, o3_118) :: (nat_lit 119, o3_119) :: (nat_lit 121, o3_121) :: (nat_lit 122, o3_122) :: (nat_lit 123, o3_123) :: (nat_lit 126, o3_126) :: (nat_lit 127, o3_127) :: (nat_lit 128, o3_128) :: (nat_lit 131, o3_131) :: (nat_lit 132, o3_132) :: (nat_lit 133, o3_133) :: (nat_lit 135, o3_135) :: (nat_lit 136, o3_136) :: (nat_lit 138, o3_138) :: (nat_lit 139, o3_139) :: (nat_lit 140, o3_140) :: (nat_lit 142, o3_142) :: (nat_lit 143, o3_143) :: (nat_lit 145, o3_145) :: (nat_lit 146, o3_146) :: (nat_lit 147, o3_147) :: (nat_lit 150, o3_150) :: (nat_lit 151, o3_151) :: (nat_lit 152, o3_152) :: (nat_lit 154, o3_154) :: (nat_lit 155, o3_155) :: (nat_lit 157, o3_157) :: (nat_lit 158, o3_158) :: (nat_lit 159, o3_159) :: (nat_lit 161, o3_161) :: (nat_lit 162, o3_162) :: (nat_lit 164, o3_164) :: (nat_lit 165, o3_165) :: (nat_lit 166, o3_166) :: (nat_lit 168, o3_168) :: (nat_lit 169, o3_169) :: (nat_lit 171, o3_171) :: (nat_lit 172, o3_172) :: (nat_lit 173, o3_173) :: (nat_lit 174, o3_174 P) :: (nat_lit 175, o3_175) :: (nat_lit 176, o3_176) :: (nat_lit 177, o3_177) :: (nat_lit 180, o5_180 P) :: (nat_lit 183, o6_183) :: (nat_lit 185, o6_185) :: (nat_lit 186, o6_186) :: (nat_lit 188, o6_188) :: (nat_lit 189, o6_189) :: (nat_lit 190, o6_190) :: (nat_lit 193, o6_193) :: (nat_lit 194, o6_194) :: (nat_lit 195, o6_195) :: (nat_lit 197, o6_197) :: (nat_lit 198, o6_198) :: (nat_lit 200, o6_200) :: (nat_lit 201, o6_201) :: (nat_lit 202, o6_202) :: (nat_lit 205, o6_205) :: (nat_lit 206, o6_206) :: (nat_lit 207, o6_207) :: (nat_lit 210, o6_210) :: (nat_lit 211, o6_211) :: (nat_lit 212, o6_212) :: (nat_lit 215, o6_215) :: (nat_lit 216, o6_216) :: (nat_lit 217, o6_217) :: (nat_lit 220, o6_220) :: (nat_lit 221, o6_221) :: (nat_lit 222, o6_222) :: (nat_lit 224, o6_224) :: (nat_lit 225, o6_225) :: (nat_lit 227, o6_227) :: (nat_lit 228, o6_228) :: (nat_lit 229, o6_229) :: (nat_lit 231, o6_231) :: (nat_lit 232, o6_232) :: (nat_lit 234, o6_234) :: (nat_lit 235, o6_235) :: (nat_lit 236, o6_236) :: (nat_lit 238, o6_238) :: (nat_lit 239, o6_239) :: (nat_lit 241, o6_241) :: (nat_lit 242, o6_242) :: (nat_lit 243, o6_243) :: (nat_lit 246, o6_246) :: (nat_lit 247, o6_247) :: (nat_lit 248, o6_248) :: (nat_lit 251, o6_251) :: (nat_lit 252, o6_252) :: []
end Mine
namespace Mine
abbrev headPg : Program := PySem.Challenge.rw_pe0251_01.row.prog
abbrev headPos : Pos := ⟨0, 0, 0, 0⟩
def headEnv : Env := { scope := headPg.main.scope, locals := mainNs, globals := mainNs, cells := [], code := .ref 30, frame := some 31 }
abbrev headCode : Code := .body (behindTheImports headPg) headEnv
abbrev headAnn : Option Value := some (.ref 6)
noncomputable abbrev headAt (H : Params → Heap) (k : Nat) (w : World) (os : OsState) : Shared := ⟨H w.params, ⟨[]⟩, headDrawn, k, os⟩
def headPart (a n : Nat) : List Stmt := (List.range' a n).map headStmt
abbrev HeadGoes (n : Nat) (H H' : Params → Heap) (k k' : Nat) (l : List Stmt) (p p' : Pos) (w : World) : Prop := ∀ os, segRun treeTable headPg w 28 headAnn 1 (n + 1) (headAt H k w os) (piecesOf l headEnv headCode p [topFrame headPos]) = some (.next, headAt H' k' w os, headCode, p')
set_option maxHeartbeats 0 in
theorem head_open (w : World) : (fencedOpening treeTable headPg w 5672).map (fun s => (s.heap, s.gens, s.drawn, s.toks)) = some (headH0 w.params, ⟨[]⟩, headDrawn, 276) := by kernel_rfl
set_option maxHeartbeats 0 in
theorem head_pre (w : World) (os : OsState) : topGo treeTable headPg w 28 headAnn 12 (headAt headH0 276 w os) (topStub headPg) = some (headAt headH1 282 w os, ⟨denote treeTable headCode, headCode, headPos, [topFrame headPos]⟩) := by kernel_rfl
set_option maxHeartbeats 0 in
theorem head_block (w : World) (os : OsState) : segRun treeTable headPg w 28 headAnn 1 1 (headAt headH1 282 w os) (blockOf (behindTheImports headPg) headEnv headCode headPos [topFrame headPos]) = some (.next, headAt headH1 282 w os, headCode, headPos) := by kernel_rfl
set_option maxHeartbeats 0 in
theorem head_fin (w : World) (os : OsState) : topRun treeTable headPg w 28 headAnn 2 (headAt headH6 839 w os) ⟨doneF .next, headCode, ⟨239, 0, 250, 48⟩, [topFrame headPos]⟩ = some (headAt headH6 839 w os) := by kernel_rfl
set_option maxHeartbeats 0 in
theorem head_seg1 : ∀ w : World, HeadGoes 265 headH1 headH2 282 388 (headPart 1 5) headPos ⟨6, 0, 14, 20⟩ w := by
  intro w os
  kernel_rfl
set_option maxHeartbeats 0 in
theorem head_seg2 : ∀ w : World, HeadGoes 727 headH2 headH3 388 546 (headPart 6 1) ⟨6, 0, 14, 20⟩ ⟨15, 0, 101, 93⟩ w := by
  intro w os
  kernel_rfl
set_option maxHeartbeats 0 in
theorem head_seg3 : ∀ w : World, HeadGoes 450 headH3 headH4 546 646 (headPart 7 50) ⟨15, 0, 101, 93⟩ ⟨151, 0, 151, 9⟩ w := by
  intro w os
  kernel_rfl
set_option maxHeartbeats 0 in
theorem head_seg4f : ∀ w : World, HeadGoes 978 headH4 headH5 646 743 (headPart 57 1) ⟨151, 0, 151, 9⟩ ⟨152, 0, 152, 17⟩ (w.withFollow "special-get-raises" false) := by
  intro w os
  kernel_rfl
set_option maxHeartbeats 0 in
theorem head_seg4t : ∀ w : World, HeadGoes 978 headH4 headH5 646 743 (headPart 57 1) ⟨151, 0, 151, 9⟩ ⟨152, 0, 152, 17⟩ (w.withFollow "special-get-raises" true) := by
  intro w os
  kernel_rfl
set_option maxHeartbeats 0 in
theorem head_seg5 : ∀ w : World, HeadGoes 353 headH5 headH6 743 839 (headPart 58 13) ⟨152, 0, 152, 17⟩ ⟨239, 0, 250, 48⟩ w := by
  intro w os
  kernel_rfl
def headLoose : List Str := [Str.ofString "tspecials", Str.ofString "_name_disallowed_re", Str.ofString "_value_disallowed_re", Str.ofString "_formatparam", Str.ofString "EXACT_TOKEN_TYPES"]
abbrev HeadSeen (s : Shared) : Bool := xlAt headV [] s && recOk (RowW.records (OpenRow.toRowW PySem.Challenge.rw_pe0251_01.row)) s
set_option maxHeartbeats 0 in
theorem head_look1 (w : World) : (fun os => (staticsOk (importedModules headPg.main.body) (headH0 w.params) (headH6 w.params) && namesBound headPg (headH6 w.params) && gensDone (headAt headH6 839 w os) && laidKept (headH0 w.params) (headH6 w.params))) = fun _ => true := by kernel_rfl
set_option maxHeartbeats 0 in
theorem head_look2 (w : World) : (fun os => openSeen headV headLoose (importedModules headPg.main.body) HeadSeen true (headAt headH6 839 w os)) = fun _ => openGood headV headLoose := by kernel_rfl
def headAs : List Addr := [2, 3, 35, 36, 40, 41, 45, 46, 47, 48, 50, 51, 53, 54, 62, 63, 65, 66, 68, 69, 70, 72, 73, 75, 76, 77, 79, 80, 82, 83, 84, 86, 87, 89, 90, 91, 94, 95, 96, 98, 99, 101, 102, 103, 105, 106, 108, 109, 110, 113, 114, 115, 116, 118, 119, 121, 122, 123, 126, 127, 128, 131, 132, 133, 135, 136, 138, 139, 140, 142, 143, 145, 146, 147, 150, 151, 152, 154, 155, 157, 158, 159, 161, 162, 164, 165, 166, 168, 169, 171, 172, 173, 174, 175, 176, 177, 180, 183, 185, 186, 188, 189, 190, 193, 194, 195, 197, 198, 200, 201, 202, 205, 206, 207, 210, 211, 212, 215, 216, 217, 220, 221, 222, 224, 225, 227, 228, 229, 231, 232, 234, 235, 236, 238, 239, 241, 242, 243, 246, 247, 248, 251, 252]
noncomputable def headHook : Hook := kHook headK headAs (fun _ => by kernel_rfl)
set_option maxHeartbeats 0 in
theorem head_look3 (w : World) : (fun os => headHook.obs (headAt headH6 839 w os)) = fun _ => headHook.val w := by kernel_rfl
set_option maxHeartbeats 0 in
theorem head_size (w : World) : ((headH0 w.params).isNs mainGlobals && (⟨[]⟩ : Array GenState).size == 0, (headH0 w.params).objs.size, (headH0 w.params).nsMap mainGlobals "__annotations__") = (true, 28, headAnn) := by kernel_rfl
set_option maxHeartbeats 0 in
theorem head_body : behindTheImports headPg = headPart 1 5 ++ (headPart 6 1 ++ (headPart 7 50 ++ (headPart 57 1 ++ (headPart 58 13 ++ [])))) := by kernel_rfl
end Mine
namespace Mine
theorem head_seg4 : ∀ w : World, HeadGoes 978 headH4 headH5 646 743 (headPart 57 1) ⟨151, 0, 151, 9⟩ ⟨152, 0, 152, 17⟩ w := byRow2 "special-get-raises" head_seg4f head_seg4t
theorem head_run (w : World) (os : OsState) : topRun treeTable headPg w 28 headAnn (12 + (1 + ((265 + 1) + ((727 + 1) + ((450 + 1) + ((978 + 1) + ((353 + 1) + 2))))))) (headAt headH0 276 w os) (topStub headPg) = some (headAt headH6 839 w os) := by
  refine go_top (head_pre w os) (piece_block (head_block w os) ?_)
  rw [head_body]
  exact piece_app (head_seg1 w os) (piece_app (head_seg2 w os) (piece_app (head_seg3 w os) (piece_app (head_seg4 w os) (piece_app (head_seg5 w os) (piece_nil (head_fin w os))))))
theorem head_left : LeftO headPg headV headLoose HeadSeen headHook.obs headHook.val 5672 :=
  LeftO.of_pieces head_open head_size head_run rfl fun w => funext fun os => Prod.ext (congrFun (head_look1 w) os) (Prod.ext (congrFun (head_look2 w) os) (congrFun (head_look3 w) os))
theorem head_as (P : Params) : headAs = (headK P).map (·.1) := by kernel_rfl
theorem head_left' : LeftO headPg headV headLoose HeadSeen (Hook.obs (kHook headK headAs head_as)) (Hook.val (kHook headK headAs head_as)) 5672 := head_left
theorem head_promised : PySem.Challenge.rw_pe0251_01.row.toRowW.promised := by w_witness2
set_option maxHeartbeats 0 in
theorem head_said : PySem.Challenge.rw_pe0251_01.wellSaid = true := by kernel_rfl
set_option maxHeartbeats 0 in
theorem hd {d : DefRec} {kwd : List (Str × Expr)} (hdef : defOf headV PySem.Challenge.rw_pe0251_01.row.name = some (d, kwd)) (hp : headPg.theDef PySem.Challenge.rw_pe0251_01.row.name = some (d.params, d.body, d.scope))
    (hk : kwWritten? d.params.kwonlyargs d.params.kw_defaults = some kwd) (call : WalkO headV headLoose (XL headV []) (Hook.says (kHook headK headAs head_as)) PySem.Challenge.rw_pe0251_01.row.toRowW d kwd fun f vs => PySem.call f vs) : PySem.Challenge.rw_pe0251_01.Holds :=
  holds_law head_said fun said => holds_open (q := headV) (loose := headLoose) (Xt := HeadSeen) (XP := XL headV []) (Yf := Hook.obs (kHook headK headAs head_as)) (Ya := Hook.val (kHook headK headAs head_as)) (YP := Hook.says (kHook headK headAs head_as)) (N := 5672)
    head_left' (Hook.of _) (Hook.keeps _) (fun s e => xl_of s (Bool.and_eq_true_iff.mp e).1) XL.keeps hdef hp hk (fun s e => recFacts_of (Bool.and_eq_true_iff.mp e).2) (by rfl) said (by decide +kernel) ⟨rfl, rfl, rfl, rfl, rfl, by decide +kernel⟩ head_promised call
end Mine
namespace Mine

noncomputable abbrev LO : List Str := looseW headV
    [Str.ofString "tspecials", Str.ofString "_name_disallowed_re", Str.ofString "_value_disallowed_re",
      Str.ofString "_formatparam", Str.ofString "EXACT_TOKEN_TYPES"]

def Le (h h' : Heap) : Prop := ∀ b o, h.get? b = some o → h'.get? b = some o
theorem Le.refl (h : Heap) : Le h h := fun _ _ e => e
theorem Le.trans {a b c : Heap} (x : Le a b) (y : Le b c) : Le a c := fun i o e => y i o (x i o e)

/-- The text's own part lies in the heap. -/
structure Stat (w : World) (mean : ExcName → Option Value) (mg mb : Str → Option Value) (h : Heap) : Prop where
  k : (headK w.params).In h
  t : Top headV LO mean mg mb h
theorem Stat.le {w : World} {mean : ExcName → Option Value} {mg mb : Str → Option Value} {h h' : Heap} (x : Stat w mean mg mb h) (l : Le h h') : Stat w mean mg mb h' :=
  ⟨x.k.keeps l, x.t.keeps l⟩

structure Room (A : Around) (k : Nat) : Prop where
  hh : A.handled = none
  dep : A.depth + k < recursionLimit
  un : A.units + 8 * k < cLine
theorem Room.deeper {A : Around} {k : Nat} {env : Env} (x : Room A (k + 1)) : Room (A.deeper env) k :=
  ⟨x.hh, by have := x.dep; show A.depth + 1 + k < _; omega, by have := x.un; show A.units + 3 + 8 * k < _; omega⟩
theorem Room.mono {A : Around} {k j : Nat} (x : Room A k) (h : j ≤ k) : Room A j :=
  ⟨x.hh, by have := x.dep; omega, by have := x.un; omega⟩

theorem hide_le {h : Heap} {l : List Addr} {b : Addr} {o : Obj} (e : h.get? b = some o) (n : b ∉ l) : (hideAll h l).get? b = some o := hideAll_get l e n

section
variable {w : World} {A : Around} {s : Shared} {Q E : Value → Shared → Prop}
/-- Into a def: what stood is the base, less the objects W that the call may change. -/
theorem enter {name qual : Str} {params : Arguments} {body : List Stmt} {scope : Scope} {dV kV doc pm cdv ct oc : Value} {an od : Option Addr} {osl : Array (Option Value)} {f : Addr} {args : Args} {binds : List (Str × Value)}
    {mean : ExcName → Option Value} {mg mb : Str → Option Value} (W : List (Addr × Obj))
    (S : Stat w mean mg mb s.heap) (hroom : A.depth < recursionLimit)
    (ho : (headK w.params).lookup f = some ⟨oc, od, .func (fnOf name qual params body scope dV kV doc pm an cdv ct), osl⟩) (hcd : codeIn (headK w.params) cdv qual = true)
    (hbind : BindsTo s (fnOf name qual params body scope dV kV doc pm an cdv ct) args binds) (hkind : (binds.all fun y => scope.names.lookup y.1 == some .local || scope.names.lookup y.1 == some .cell) = true)
    (hnd : ((cellsFrom 0 scope.names []).map (·.1)).Nodup)
    (hW : ∀ p ∈ W, s.heap.get? p.1 = some p.2)
    (h : ∀ L h₁ tk cells, Fr (hideAll s.heap (W.map (·.1))) L h₁ (bindL (envOfC qual scope L f cdv).kindOf binds fun _ => none) → News (hideAll s.heap (W.map (·.1))) L h₁ (cells ++ W) →
      CellsAre (bindC (envOfC qual scope L f cdv).kindOf binds fun _ => none) (cellsFrom (L + 1) scope.names []) cells → (∀ p ∈ W, p.1 < L) →
      wpAny (model PySem.Challenge.rw_pe0251_01.row.prog w) (A.deeper (envOfC qual scope L f cdv)) (execs body (envOfC qual scope L f cdv))
        (fun fl s' => Q (match fl with | .ret v => v | _ => .none) s') (fun _ _ => False) { s with heap := h₁, toks := tk })
    (hco : scope.isCoroutine = false) (hgen : scope.isGenerator = false) (hk : scope.kind = .function) :
    codeAny (model PySem.Challenge.rw_pe0251_01.row.prog w) A (.call (.ref f) args) (fun r s' => match r with | .ok (.ret v) => Q v s' | .ok _ => False | .error e => E e s') s := by
  refine codeAny_call_function hroom (S.k _ _ ho) rfl hco hgen rfl (codeRec_of S.k hcd) (hbind _ _ _ _ ?_)
  refine wpAny_newFunctionEnv_cells hk (kindsX hkind _) fun env' he s' x => ?_
  subst he
  refine ⟨S.t.nolimit.keeps x.toInCall.keep, codeAny_func ?_⟩
  obtain ⟨h₁, tk, rfl, _⟩ := x.done
  have hk₁ := x.toInCall.keep
  obtain ⟨cells, NC, Y⟩ := Cl.news (h₀ := s.heap) (Nat.le_refl _) fun n c hm => ⟨x.cell n c (lookup_of_mem_nodup (cellsFrom_names scope.names 0 (s.heap.objs.size + 1) [] [] rfl ▸ hnd) hm), x.above n c hm⟩
  refine wpAny_mono (h s.heap.objs.size h₁ tk cells ⟨x.toInCall.ns, fun b o e => hk₁ b o (of_hideAll _ e), Nat.le_of_eq (hideAll_size _ _)⟩ (fun p hp => ?_) Y (fun p hp => Heap.lt_size (hW p hp))) (fun fl s' hl => hl) fun _ _ y => y.elim
  rcases List.mem_append.mp hp with hp | hp
  · refine ⟨(NC p hp).1, (NC p hp).2.1, ?_⟩
    cases q : (hideAll s.heap (W.map (·.1))).get? p.1 with
    | none => rfl
    | some o => have := of_hideAll _ q; rw [(NC p hp).2.2] at this; cases this
  · exact ⟨hk₁ _ _ (hW p hp), Nat.ne_of_lt (Heap.lt_size (hW p hp)), hideAll_none _ (List.mem_map_of_mem hp)⟩
end
end Mine
namespace Mine

def Halt (p : Prop) : Prop := p
theorem halt {p : Prop} (h : Halt p) : p := h
theorem unhalt {p : Prop} (h : p) : Halt p := h

def ownedNames : List String := ["enumerate", "zip", "dict_itemiterator", "dict_reverseitemiterator", "odict_iterator", "itertools.zip_longest", "itertools.pairwise"]
def CalmObj (o : Obj) : Prop := ∃ T vs, o.cls = .type T ∧ o.data = .fields vs ∧ ownedNames.contains T = false
theorem let_owned {w : World} {A : Around} {s : Shared} {E : Value → Shared → Prop} {Q : Unit → Shared → Prop} {I : Addr} {o : Obj} {target : Expr} {v : Value} (ho : s.heap.get? I = some o) (hc : CalmObj o) (h : Q () s) : wpAny (model PySem.Challenge.rw_pe0251_01.row.prog w) A (letOwnedTupleGo target (.ref I) v) Q E s := by
  obtain ⟨T, vs, e1, e2, e3⟩ := hc
  have key : ∀ a : Addr, wpAny (model PySem.Challenge.rw_pe0251_01.row.prog w) A (load I >>= fun o => match o.cls, o.data with
    | .type n, .fields vs => if ownedNames.contains n && vs[0]? == some (rawInt a) then (do rule "for.unpacks-the-owned-tuple"; updateField I 0 .none) else pure ()
    | _, _ => pure ()) Q E s := by
    intro a
    refine wpAny_bind (wpAny_load ho ?_)
    rw [e1, e2]
    simp only [e3, Bool.false_and, Bool.false_eq_true, if_false]
    exact wpAny_pure h
  unfold letOwnedTupleGo
  split
  · split
    · next r a e => cases e; exact key a
    · exact wpAny_pure h
  · split
    · next r a e => cases e; exact key a
    · exact wpAny_pure h
  · exact wpAny_pure h

/-- A source that a loop draws from: I is the iterator, B what must stay of the source itself. -/
structure Src (w : World) (A : Around) (B : Heap → Prop) (I : Addr) (n : Nat) (P : Nat → Value → Prop) (St : Nat → Heap → Prop) : Prop where
  item : ∀ i (s : Shared) (Q : Option Value → Shared → Prop) (E : Value → Shared → Prop), i < n → St i s.heap →
    (∀ v h' tk, P i v → St (i + 1) h' → (∀ b o, b ≠ I → s.heap.get? b = some o → h'.get? b = some o) → Q (some v) { s with heap := h', toks := tk }) → wpAny (model PySem.Challenge.rw_pe0251_01.row.prog w) A (pyNext (.ref I)) Q E s
  done : ∀ (s : Shared) (Q : Option Value → Shared → Prop) (E : Value → Shared → Prop), St n s.heap →
    (∀ h' tk, (∀ b o, b ≠ I → s.heap.get? b = some o → h'.get? b = some o) → Q none { s with heap := h', toks := tk }) → wpAny (model PySem.Challenge.rw_pe0251_01.row.prog w) A (pyNext (.ref I)) Q E s
  self : ∀ i (s : Shared) (Q : Value → Shared → Prop) (E : Value → Shared → Prop), St i s.heap → Q (.ref I) s → wpAny (model PySem.Challenge.rw_pe0251_01.row.prog w) A (pyIter (.ref I)) Q E s
  obj : ∀ i h, St i h → ∃ o, h.get? I = some o ∧ CalmObj o
  stable : ∀ i h h' o, St i h → h.get? I = some o → h'.get? I = some o → B h' → St i h'

theorem src_list {w : World} {A : Around} (hh : A.handled = none) (I ax : Addr) (hne : ax ≠ I) (its : Array Value) :
    Src w A (fun h => h.IsList ax its) I its.size (fun i v => its[i]? = some v) (fun i h => h.IsListIter I ax i ∧ h.IsList ax its) :=
  have W := Walks.list (prog := PySem.Challenge.rw_pe0251_01.row.prog) (w := w) hh I ax hne its
  { item := fun i s Q E hi st hQ => W.item i s Q E hi st fun v h' tk p st' k => hQ v h' tk p st' fun b o hb e => k b o (by simpa using hb) e
    done := fun s Q E st hQ => W.done s Q E st fun h' tk k => hQ h' tk fun b o hb e => k b o (by simpa using hb) e
    self := W.self
    obj := fun i h st => by obtain ⟨o, e, hc, hd⟩ := st.1; exact ⟨o, e, _, _, hc, hd, by decide⟩
    stable := fun i h h' o st e e' b => ⟨by obtain ⟨o', q, r⟩ := st.1; rw [e] at q; cases q; exact ⟨o, e', r⟩, b⟩ }

theorem src_walks {w : World} {A : Around} {I : Addr} {n : Nat} {P : Nat → Value → Prop} {St : Nat → Heap → Prop} (W : Walks PySem.Challenge.rw_pe0251_01.row.prog w A I [I] [I] n P St) (ho : ∀ i h, St i h → ∃ o, h.get? I = some o ∧ CalmObj o) : Src w A (fun _ => True) I n P St :=
  { item := fun i s Q E hi st hQ => W.item i s Q E hi st fun v h' tk p st' k => hQ v h' tk p st' fun b o hb e => k b o (by simpa using hb) e
    done := fun s Q E st hQ => W.done s Q E st fun h' tk k => hQ h' tk fun b o hb e => k b o (by simpa using hb) e
    self := W.self
    obj := ho
    stable := fun i h h' o st e e' _ => W.frame i h h' st fun b hb o' q => by
      have hb' : b = I := by simpa using hb
      subst hb'; rw [e] at q; cases q; exact e' }

/-- A turn's end: the frame and the ledger, the iterator as it was. -/
def Turned (h₀ : Heap) (L I : Addr) (oI : Obj) (J : (Str → Option Value) → List (Addr × Obj) → Prop) (s s' : Shared) : Prop :=
  ∃ h tk m nx, s' = { s with heap := h, toks := tk } ∧ Fr h₀ L h m ∧ News h₀ L h ((I, oI) :: nx) ∧ (∀ p ∈ nx, p.1 ≠ I) ∧ J m nx

section
variable {w : World} {A : Around} {s : Shared} {E : Value → Shared → Prop} {Q : Flow → Shared → Prop} {env : Env} {h₀ : Heap} {L : Addr} {target : Expr} {body : List Stmt} {m₀ : Str → Option Value} {news : List (Addr × Obj)}

theorem for_loop {B : Heap → Prop} {I : Addr} {n : Nat} {P : Nat → Value → Prop} {St : Nat → Heap → Prop} (W : Src w A B I n P St) (J : Nat → (Str → Option Value) → List (Addr × Obj) → Prop)
    (hIL : I ≠ L) (hI₀ : h₀.get? I = none) (hst : St 0 s.heap) (F : Fr h₀ L s.heap m₀) (N : News h₀ L s.heap news) (off : ∀ p ∈ news, p.1 ≠ I) (hJ : J 0 m₀ news)
    (hB : ∀ i m nx h, J i m nx → Fr h₀ L h m → News h₀ L h nx → B h)
    (turn : ∀ i v m nx h tk oI (E' : Value → Shared → Prop), P i v → J i m nx → Fr h₀ L h m → News h₀ L h ((I, oI) :: nx) → (∀ p ∈ nx, p.1 ≠ I) → CalmObj oI →
      wpAny (model PySem.Challenge.rw_pe0251_01.row.prog w) A (assign target env v) (fun _ s₂ => wpAny (model PySem.Challenge.rw_pe0251_01.row.prog w) A (execs body env) (fun f s₃ => match f with
        | .next | .cont => Turned h₀ L I oI (J (i + 1)) s s₃
        | .brk => Q .next s₃
        | .ret v => Q (.ret v) s₃) E' s₂) E' { s with heap := h, toks := tk })
    (done : ∀ m nx h tk, J n m nx → Fr h₀ L h m → News h₀ L h nx → Q .next { s with heap := h, toks := tk }) :
    codeAny (model PySem.Challenge.rw_pe0251_01.row.prog w) A (.forLoop target (.ref I) body [] env) (fun r s' => match r with | .ok f => Q f s' | .error e => cameBackBy (model PySem.Challenge.rw_pe0251_01.row.prog w) A env E e s') s := by
  refine codeAny_forLoop_any (fun k s' => ∃ h tk i m nx, s' = { s with heap := h, toks := tk } ∧ i ≤ n ∧ k = n + 1 - i ∧ St i h ∧ Fr h₀ L h m ∧ News h₀ L h nx ∧ (∀ p ∈ nx, p.1 ≠ I) ∧ J i m nx) ?_ (n + 1)
    ⟨s.heap, s.toks, 0, m₀, news, rfl, Nat.zero_le _, rfl, hst, F, N, off, hJ⟩
  rintro k s' ⟨h, tk, i, m, nx, rfl, hi, rfl, hst', F', N', off', hJ'⟩
  by_cases hlt : i < n
  · refine W.item i _ _ _ hlt hst' fun v h₂ tk₂ hPv hst₂ hk₂ => ?_
    obtain ⟨oI, heI, hcalm⟩ := W.obj _ _ hst₂
    refine let_owned heI hcalm ?_
    have F₂ : Fr h₀ L h₂ m := ⟨F'.ns.at' fun o e => hk₂ _ o (Ne.symm hIL) e, fun b o e => hk₂ b o (fun q => by rw [q, hI₀] at e; cases e) (F'.keep b o e), F'.above⟩
    have N₂ : News h₀ L h₂ ((I, oI) :: nx) := fun p hp => by
      rcases List.mem_cons.mp hp with rfl | hp
      · exact ⟨heI, hIL, hI₀⟩
      · exact ⟨hk₂ _ _ (off' p hp) (N' p hp).1, (N' p hp).2⟩
    refine wpAny_mono (turn i v m nx h₂ tk₂ oI _ hPv hJ' F₂ N₂ off' hcalm) (fun _ s₃ h₃ => wpAny_mono h₃ (fun f s₄ h₄ => ?_) fun _ _ e => e) fun _ _ e => e
    have fin : Turned h₀ L I oI (J (i + 1)) s s₄ → ∃ k', k' < n + 1 - i ∧ ∃ h tk i' m nx, s₄ = { s with heap := h, toks := tk } ∧ i' ≤ n ∧ k' = n + 1 - i' ∧ St i' h ∧ Fr h₀ L h m ∧ News h₀ L h nx ∧ (∀ p ∈ nx, p.1 ≠ I) ∧ J i' m nx := by
      rintro ⟨h₅, tk₅, m₅, nx₅, rfl, F₅, N₅, off₅, J₅⟩
      have N₅' : News h₀ L h₅ nx₅ := fun p hp => N₅ p (.tail _ hp)
      exact ⟨n + 1 - (i + 1), by omega, h₅, tk₅, i + 1, m₅, nx₅, rfl, hlt, rfl, W.stable _ _ _ _ hst₂ heI (N₅ _ (.head _)).1 (hB _ _ _ _ J₅ F₅ N₅'), F₅, N₅', off₅, J₅⟩
    cases f with
    | next => exact fin h₄
    | cont => exact fin h₄
    | brk => exact h₄
    | ret v => exact h₄
  · obtain rfl : i = n := Nat.le_antisymm hi (Nat.not_lt.mp hlt)
    refine W.done _ _ _ hst' fun h₂ tk₂ hk₂ => ?_
    refine wpAny_pure (done m nx h₂ tk₂ hJ' ⟨F'.ns.at' fun o e => hk₂ _ o (Ne.symm hIL) e, fun b o e => hk₂ b o (fun q => by rw [q, hI₀] at e; cases e) (F'.keep b o e), F'.above⟩ fun p hp => ⟨hk₂ _ _ (off' p hp) (N' p hp).1, (N' p hp).2⟩)
end

theorem comp_loop {w : World} {A : Around} {s : Shared} {R : Result → Shared → Prop} {elt target iter : Expr} {ifs : List Expr} {scope : Scope} {pos : Pos} {it acc : Value} {env : Env} (I : Nat → Shared → Prop)
    (turn : ∀ n s, I n s → wpAny (model PySem.Challenge.rw_pe0251_01.row.prog w) A (pyNext it) (fun r s₁ => match r with
      | none => R (.ok .next) s₁
      | some v => wpAny (model PySem.Challenge.rw_pe0251_01.row.prog w) A (letOwnedTupleGo target it v) (fun _ s₁' => wpAny (model PySem.Challenge.rw_pe0251_01.row.prog w) A (assign target env v) (fun _ s₂ =>
          wpAny (model PySem.Challenge.rw_pe0251_01.row.prog w) A (forIn ifs true fun c r => if r = true then do let ok ← isTrue c env (eval c env); pure (ForInStep.yield ok) else pure (ForInStep.yield r)) (fun ok s₃ =>
            if ok = true then wpAny (model PySem.Challenge.rw_pe0251_01.row.prog w) A (eval elt env) (fun x s₄ =>
              wpAny (model PySem.Challenge.rw_pe0251_01.row.prog w) A (call (.builtin "list.append") [acc, x]) (fun _ s₅ => ∃ m, m < n ∧ I m s₅) (notedBy (model PySem.Challenge.rw_pe0251_01.row.prog w) A env fun e s' => R (.error e) s') s₄) (notedBy (model PySem.Challenge.rw_pe0251_01.row.prog w) A env fun e s' => R (.error e) s') s₃
            else ∃ m, m < n ∧ I m s₃) (notedBy (model PySem.Challenge.rw_pe0251_01.row.prog w) A env fun e s' => R (.error e) s') s₂) (notedBy (model PySem.Challenge.rw_pe0251_01.row.prog w) A env fun e s' => R (.error e) s') s₁') (notedBy (model PySem.Challenge.rw_pe0251_01.row.prog w) A env fun e s' => R (.error e) s') s₁) (notedBy (model PySem.Challenge.rw_pe0251_01.row.prog w) A env fun e s' => R (.error e) s') s)
    (n : Nat) (h : I n s) : codeAny (model PySem.Challenge.rw_pe0251_01.row.prog w) A (.compLoop (.ListComp elt [⟨target, iter, ifs, 0⟩] scope pos) 0 it acc env) R s := by
  refine codeAny_loop rfl I (fun n s hI => ?_) n h
  show wpAny _ A ((compTurn (.ListComp elt [⟨target, iter, ifs, 0⟩] scope pos) 0 it acc env).onRaise (fun x => do noteFrame x env; theTreesLotGoes x)) _ _ s
  refine wpAny_noted ?_
  rw [compTurn_list]
  refine wpAny_bind (wpAny_standAt (wpAny_bind (wpAny_mono (turn n s hI) (fun r s₁ h₁ => ?_) fun _ _ h' => h')))
  cases r with
  | none => exact wpAny_pure h₁
  | some v =>
    refine wpAny_bind (wpAny_mono h₁ (fun _ s₁' h₁' => ?_) fun _ _ h' => h')
    refine wpAny_bind (wpAny_mono h₁' (fun _ s₂ h₂ => wpAny_bind (wpAny_mono h₂ (fun ok s₃ h₃ => ?_) fun _ _ h' => h')) fun _ _ h' => h')
    cases ok with
    | false => exact wpAny_pure ⟨rfl, h₃⟩
    | true =>
      exact wpAny_bind (wpAny_bind (wpAny_mono h₃ (fun x s₄ h₄ => wpAny_bind (wpAny_mono h₄ (fun _ s₅ h₅ => wpAny_pure (wpAny_pure ⟨rfl, h₅⟩)) fun _ _ h' => h')) fun _ _ h' => h'))

/-- A comprehension's turn's end. -/
def CTurned (B : Heap) (C I : Addr) (oI : Obj) (D : Addr) (ys : List Value) (J : List (Addr × Obj) → Prop) (s s' : Shared) : Prop :=
  ∃ h tk m nx, s' = { s with heap := h, toks := tk } ∧ Fr B C h m ∧ News B C h ((I, oI) :: (D, LCg.lst ys) :: nx) ∧ (∀ p ∈ nx, p.1 ≠ I ∧ p.1 ≠ D) ∧ J nx

section
variable {w : World} {A : Around} {s : Shared} {E : Value → Shared → Prop} {env : Env} {target elt iter : Expr} {ifs : List Expr} {scope : Scope} {cl : List (Str × Addr)} {pos : Pos}

theorem comp_block {S : Heap → Prop} {I : Addr} {n : Nat} {P : Nat → Value → Prop} {St : Nat → Heap → Prop} {RR : Value → Addr → Result → Shared → Prop} {B : Heap} {news : List (Addr × Obj)}
    (W : Src w A S I n P St) (J : Nat → List Value → List (Addr × Obj) → Prop) (hsz : n ≤ sizeLine) (hcell : ∀ y ∈ scope.names, y.2 ≠ .cell) (hkind : scope.kind = .function)
    (hB : ∀ b o, B.get? b = some o → s.heap.get? b = some o) (hBs : B.objs.size ≤ s.heap.objs.size) (hI₀ : B.get? I = none) (hst : St 0 s.heap)
    (N : ∀ p ∈ news, s.heap.get? p.1 = some p.2 ∧ B.get? p.1 = none ∧ p.1 ≠ I) (hJ : J 0 [] news)
    (hS : ∀ i ys nx C m h, J i ys nx → Fr B C h m → News B C h nx → S h)
    (turn : ∀ i v ys C D m nx h tk oI (E' : Value → Shared → Prop), P i v → J i ys nx → ys.length ≤ i → Fr B C h m → News B C h ((I, oI) :: (D, LCg.lst ys) :: nx) → I ≠ D → (∀ p ∈ nx, p.1 ≠ I ∧ p.1 ≠ D) → CalmObj oI →
      wpAny (model PySem.Challenge.rw_pe0251_01.row.prog w) A (assign target (compEnvC scope cl C env) v) (fun _ s₂ =>
        wpAny (model PySem.Challenge.rw_pe0251_01.row.prog w) A (forIn ifs true fun c r => if r = true then do let ok ← isTrue c (compEnvC scope cl C env) (eval c (compEnvC scope cl C env)); pure (ForInStep.yield ok) else pure (ForInStep.yield r)) (fun ok s₃ =>
          if ok = true then wpAny (model PySem.Challenge.rw_pe0251_01.row.prog w) A (eval elt (compEnvC scope cl C env)) (fun y s₄ => CTurned B C I oI D ys (J (i + 1) (ys ++ [y])) s s₄) E' s₃
          else CTurned B C I oI D ys (J (i + 1) ys) s s₃) E' s₂) E' { s with heap := h, toks := tk })
    (hRR : ∀ C D m ys nx h tk, Fr B C h m → News B C h ((D, LCg.lst ys) :: nx) → (∀ p ∈ nx, p.1 ≠ D) → ys.length ≤ n → s.heap.objs.size ≤ D → s.heap.objs.size ≤ C → J n ys nx → RR (.ref D) C (.ok .next) { s with heap := h, toks := tk }) :
    wpAny (model PySem.Challenge.rw_pe0251_01.row.prog w) A (newList []) (fun acc s₃ => wpAny (model PySem.Challenge.rw_pe0251_01.row.prog w) A (newFunctionEnv scope env.globals cl [] env.qual none .none (some env)) (fun cenv s₄ =>
      codeAny (model PySem.Challenge.rw_pe0251_01.row.prog w) A (.compStart (.ListComp elt [⟨target, iter, ifs, 0⟩] scope pos) 0 (.ref I) acc { cenv with scope := relabel scope env }) (RR acc cenv.locals) s₄) E s₃) E s := by
  refine wpAny_newObj_type (wpAny_newFunctionEnv hcell (by intro y hy; simp at hy) (fun h₁ hns₁ hsb₁ => ?_) hkind)
  dsimp only at hns₁ hsb₁ ⊢
  generalize hH2 : s.heap.push { cls := .type "list", dict := none, data := .seq ([] : List Value).toArray } = H2 at hns₁ hsb₁ ⊢
  have hC : H2.objs.size = s.heap.objs.size + 1 := by rw [← hH2, Heap.size_push]
  generalize hDe : s.heap.objs.size = D at *
  generalize hCe : H2.objs.size = C at *
  have hDlt : D < C := by omega
  have hDC : D ≠ C := Nat.ne_of_lt hDlt
  have old : ∀ b o, s.heap.get? b = some o → h₁.get? b = some o := fun b o e => hsb₁.extBut b o (Nat.ne_of_lt (Nat.lt_trans (hDe ▸ Heap.lt_size e) hDlt)) (Heap.get?_push_of_some _ (hH2 ▸ Heap.get?_push_of_some _ e))
  have hacc : h₁.get? D = some (LCg.lst []) := hsb₁.extBut _ _ hDC (Heap.get?_push_of_some _ (hH2 ▸ hDe ▸ Heap.get?_push_size _ rfl))
  have freshB : ∀ a, D ≤ a → B.get? a = none := fun a ha => Heap.get?_none_of_le (Nat.le_trans hBs ha)
  obtain ⟨oI₀, hoI₀, _⟩ := W.obj _ _ hst
  have hIlt : I < D := hDe ▸ Heap.lt_size hoI₀
  have hID : I ≠ D := Nat.ne_of_lt hIlt
  have hIC : I ≠ C := Nat.ne_of_lt (Nat.lt_trans hIlt hDlt)
  have F₁ : Fr B C h₁ _ := ⟨hns₁, fun b o e => old b o (hB b o e), by omega⟩
  have hlt : ∀ p ∈ news, p.1 < D := fun p hp => hDe ▸ Heap.lt_size (N p hp).1
  have N₁ : News B C h₁ ((D, LCg.lst []) :: news) := fun p hp => by
    rcases List.mem_cons.mp hp with rfl | hp
    · exact ⟨hacc, hDC, freshB D (Nat.le_refl _)⟩
    · exact ⟨old _ _ (N p hp).1, Nat.ne_of_lt (Nat.lt_trans (hlt p hp) hDlt), (N p hp).2.1⟩
  have hst₁ : St 0 h₁ := W.stable _ _ _ _ hst hoI₀ (old _ _ hoI₀) (hS 0 [] news C _ h₁ hJ F₁ fun p hp => N₁ p (.tail _ hp))
  have loop : ∀ s₃ : Shared, s₃ = { s with heap := h₁, toks := s.toks + ([] : List (Str × Value)).length } →
      codeAny (model PySem.Challenge.rw_pe0251_01.row.prog w) A (.compLoop (.ListComp elt [⟨target, iter, ifs, 0⟩] scope pos) 0 (.ref I) (.ref D) (compEnvC scope cl C env)) (RR (.ref D) C) s₃ := by
    rintro s₃ rfl
    refine comp_loop
      (fun k s' => ∃ h tk i ys m nx, s' = { s with heap := h, toks := tk } ∧ i ≤ n ∧ k = n + 1 - i ∧ ys.length ≤ i ∧ St i h ∧ Fr B C h m ∧ News B C h ((D, LCg.lst ys) :: nx) ∧ (∀ p ∈ nx, p.1 ≠ I ∧ p.1 ≠ D) ∧ J i ys nx) ?_ (n + 1)
      ⟨h₁, _, 0, [], _, news, rfl, Nat.zero_le _, rfl, Nat.le_refl _, hst₁, F₁, N₁, fun p hp => ⟨(N p hp).2.2, Nat.ne_of_lt (hlt p hp)⟩, hJ⟩
    rintro k s' ⟨h, tk, i, ys, m, nx, rfl, hi, rfl, hyl, hst', F', N', off', hJ'⟩
    by_cases hlt : i < n
    · refine W.item i _ _ _ hlt hst' fun v h₂ tk₂ hPv hst₂ hk₂ => ?_
      obtain ⟨oI, heI, hcalm⟩ := W.obj _ _ hst₂
      refine let_owned heI hcalm ?_
      have F₂ : Fr B C h₂ m := ⟨F'.ns.at' fun o e => hk₂ _ o (Ne.symm hIC) e, fun b o e => hk₂ b o (fun q => by rw [q, hI₀] at e; cases e) (F'.keep b o e), F'.above⟩
      have N₂ : News B C h₂ ((I, oI) :: (D, LCg.lst ys) :: nx) := fun p hp => by
        rcases List.mem_cons.mp hp with rfl | hp
        · exact ⟨heI, hIC, hI₀⟩
        · refine ⟨hk₂ _ _ ?_ (N' p hp).1, (N' p hp).2⟩
          rcases List.mem_cons.mp hp with rfl | hp
          · exact Ne.symm hID
          · exact (off' p hp).1
      refine wpAny_mono (turn i v ys C D m nx h₂ tk₂ oI _ hPv hJ' hyl F₂ N₂ hID off' hcalm) (fun _ s₃ h₃ => wpAny_mono h₃ (fun ok s₄ h₄ => ?_) fun _ _ e => e) fun _ _ e => e
      cases ok with
      | true =>
        simp only [if_true] at h₄ ⊢
        refine wpAny_mono h₄ (fun y s₅ h₅ => ?_) fun _ _ e => e
        obtain ⟨h₅, tk₅, m₅, nx₅, rfl, F₅, N₅, off₅, J₅⟩ := h₅
        have zD := (N₅ (D, LCg.lst ys) (.tail _ (.head _))).1
        refine append_at (hsz := by show ys.toArray.size ≤ sizeLine; rw [List.size_toArray]; exact Nat.le_trans (Nat.le_trans hyl hi) hsz) zD fun h₆ hs₆ hD₆ => ?_
        have hD₀ := freshB D (Nat.le_refl _)
        have F₆ : Fr B C h₆ m₅ := F₅.change hs₆ hDC hD₀
        have N₆ : News B C h₆ ((D, LCg.lst (ys ++ [y])) :: nx₅) := fun p hp => by
          rcases List.mem_cons.mp hp with rfl | hp
          · exact ⟨hD₆.trans (congrArg some (LCg.lst_snoc ys y)), hDC, hD₀⟩
          · have z := N₅ p (.tail _ (.tail _ hp))
            exact ⟨hs₆.extBut _ _ (off₅ p hp).2 z.1, z.2⟩
        have zI : h₆.get? I = some oI := hs₆.extBut _ _ hID (N₅ (I, oI) (.head _)).1
        exact ⟨n + 1 - (i + 1), by omega, h₆, tk₅, i + 1, ys ++ [y], m₅, nx₅, rfl, hlt, rfl, by rw [List.length_append, List.length_singleton]; exact Nat.succ_le_succ hyl,
          W.stable _ _ _ _ hst₂ heI zI (hS _ _ _ _ _ _ J₅ F₆ fun p hp => N₆ p (.tail _ hp)), F₆, N₆, off₅, J₅⟩
      | false =>
        simp only [Bool.false_eq_true, if_false] at h₄ ⊢
        obtain ⟨h₅, tk₅, m₅, nx₅, rfl, F₅, N₅, off₅, J₅⟩ := h₄
        exact ⟨n + 1 - (i + 1), by omega, h₅, tk₅, i + 1, ys, m₅, nx₅, rfl, hlt, rfl, Nat.le_succ_of_le hyl,
          W.stable _ _ _ _ hst₂ heI (N₅ (I, oI) (.head _)).1 (hS _ _ _ _ _ _ J₅ F₅ fun p hp => N₅ p (.tail _ (.tail _ hp))), F₅, fun p hp => N₅ p (.tail _ hp), off₅, J₅⟩
    · obtain rfl : i = n := Nat.le_antisymm hi (Nat.not_lt.mp hlt)
      refine W.done _ _ _ hst' fun h₂ tk₂ hk₂ => ?_
      refine hRR C D m ys nx h₂ tk₂ ⟨F'.ns.at' fun o e => hk₂ _ o (Ne.symm hIC) e, fun b o e => hk₂ b o (fun q => by rw [q, hI₀] at e; cases e) (F'.keep b o e), F'.above⟩ (fun p hp => ⟨hk₂ _ _ ?_ (N' p hp).1, (N' p hp).2⟩) (fun p hp => (off' p hp).2) hyl (Nat.le_refl _) (by omega) hJ'
      rcases List.mem_cons.mp hp with rfl | hp
      · exact Ne.symm hID
      · exact (off' p hp).1
  exact codeAny_compStart_list (loop _ rfl) (W.self 0 _ _ _ hst₁ (loop _ rfl))
end
end Mine
namespace Mine

/-- What an iterator over xv gives. -/
def IterOf (w : World) (A : Around) (xv : Value) (s₁ : Shared) (S : Heap → Prop) (n : Nat) (P : Nat → Value → Prop) : Prop :=
  ∀ (Q : Value → Shared → Prop) (E : Value → Shared → Prop), (∀ (o : Obj) (St : Nat → Heap → Prop), Src w A S s₁.heap.objs.size n P St → St 0 (s₁.heap.push o) →
    Q (.ref s₁.heap.objs.size) { s₁ with heap := s₁.heap.push o }) → wpAny (model PySem.Challenge.rw_pe0251_01.row.prog w) A (pyIter xv) Q E s₁

section
variable {w : World} {A : Around} {s₁ : Shared}
theorem iter_list (hh : A.handled = none) {ax : Addr} {its : Array Value} (hl : s₁.heap.IsList ax its) : IterOf w A (.ref ax) s₁ (fun h => h.IsList ax its) its.size (fun i v => its[i]? = some v) := by
  intro Q E k
  have hlt : ax < s₁.heap.objs.size := by obtain ⟨_, e, _⟩ := hl; exact Heap.lt_size e
  exact wpAny_pyIter_list hl (k _ _ (src_list hh _ ax (Nat.ne_of_lt hlt) its) ⟨⟨_, Heap.get?_push_size _ rfl, rfl, rfl⟩, hl.push _⟩)
theorem iter_str (hh : A.handled = none) {x : Str} {t : Tok} : IterOf w A (.str x t) s₁ (fun _ => True) x.cps.size (SignAt x) := by
  intro Q E k
  cases ha : x.cps.all (· < 128)
  · exact wpAny_pyIter_wide ha (k _ _ (src_walks (Walks.strWide hh _ x t) fun i h st => by obtain ⟨o, e, hc, hd⟩ := st; exact ⟨o, e, _, _, hc, hd, by decide⟩) ⟨_, Heap.get?_push_size _ rfl, rfl, rfl⟩)
  · exact wpAny_pyIter_ascii ha (k _ _ (src_walks (Walks.strAscii hh _ x t) fun i h st => by obtain ⟨o, e, hc, hd⟩ := st; exact ⟨o, e, _, _, hc, hd, by decide⟩) ⟨_, Heap.get?_push_size _ rfl, rfl, rfl⟩)
theorem iter_range (hh : A.handled = none) {r : Addr} {a b : Int} {t u v : Tok} {n : Nat} (hr : IsRange s₁.heap r a b 1 t u v) (hsm : Builtin.Range.small a b 1 = true) (hn : Builtin.Range.rangeSize a b 1 = ((n : Nat) : Int)) :
    IterOf w A (.ref r) s₁ (fun _ => True) n (fun i v => ∃ t, v = .int (a + (i : Int)) t) := by
  intro Q E k
  refine wpAny_pyIter_range hr hsm (k _ _ (src_walks (LCg.range_walks hh a n) fun i h st => ⟨_, st, _, _, rfl, rfl, by decide⟩) ?_)
  show IsRangeIter _ _ _ _ _
  rw [hn]; simpa using Heap.get?_push_size _ rfl
end

section
variable {w : World} {A : Around} {s : Shared} {E : Value → Shared → Prop} {Q : Flow → Shared → Prop} {env : Env} {h₀ : Heap} {L : Addr} {target : Expr} {body : List Stmt} {m₀ : Str → Option Value} {news : List (Addr × Obj)}
theorem for_iterC {xv : Value} {S : Heap → Prop} {n : Nat} {P : Nat → Value → Prop} (it : IterOf w A xv s S n P) (J : Nat → (Str → Option Value) → List (Addr × Obj) → Prop)
    (F : Fr h₀ L s.heap m₀) (N : News h₀ L s.heap news) (hJ : J 0 m₀ news)
    (hB : ∀ i m nx h, J i m nx → Fr h₀ L h m → News h₀ L h nx → S h)
    (turn : ∀ i v m nx h tk I oI (E' : Value → Shared → Prop), P i v → J i m nx → Fr h₀ L h m → News h₀ L h ((I, oI) :: nx) → (∀ p ∈ nx, p.1 ≠ I) → CalmObj oI →
      wpAny (model PySem.Challenge.rw_pe0251_01.row.prog w) A (assign target env v) (fun _ s₂ => wpAny (model PySem.Challenge.rw_pe0251_01.row.prog w) A (execs body env) (fun f s₃ => match f with
        | .next | .cont => Turned h₀ L I oI (J (i + 1)) s s₃
        | .brk => Q .next s₃
        | .ret v => Q (.ret v) s₃) E' s₂) E' { s with heap := h, toks := tk })
    (done : ∀ m nx h tk, J n m nx → Fr h₀ L h m → News h₀ L h nx → Q .next { s with heap := h, toks := tk }) :
    wpAny (model PySem.Challenge.rw_pe0251_01.row.prog w) A (pyIter xv) (fun it s₂ => codeAny (model PySem.Challenge.rw_pe0251_01.row.prog w) A (.forLoop target it body [] env) (fun r s' => match r with | .ok f => Q f s' | .error e => cameBackBy (model PySem.Challenge.rw_pe0251_01.row.prog w) A env E e s') s₂) E s := by
  refine it _ _ fun o St W hst => ?_
  have up : ∀ b o', s.heap.get? b = some o' → (s.heap.push o).get? b = some o' := fun b o' e => Heap.get?_push_of_some _ e
  refine for_loop (s := { s with heap := s.heap.push o }) W J (Ne.symm (Nat.ne_of_lt F.ns.lt)) (next_is_new F) hst (F.keeps up) (N.grown up) (fun p hp => Nat.ne_of_lt (Heap.lt_size (N p hp).1)) hJ hB ?_ ?_
  · intro i v m nx h tk oI E' hP hJ' F' N' off' hc
    exact turn i v m nx h tk _ oI E' hP hJ' F' N' off' hc
  · intro m nx h tk hJ' F' N'
    exact done m nx h tk hJ' F' N'

theorem for_iter {xv : Value} {S : Heap → Prop} {n : Nat} {P : Nat → Value → Prop} (it : IterOf w A xv s S n P) (J : Nat → (Str → Option Value) → List (Addr × Obj) → Prop)
    (F : Fr h₀ L s.heap m₀) (N : News h₀ L s.heap news) (hJ : J 0 m₀ news)
    (hB : ∀ i m nx h, J i m nx → Fr h₀ L h m → News h₀ L h nx → S h)
    (turn : ∀ i v m nx h tk I oI (E' : Value → Shared → Prop), P i v → J i m nx → Fr h₀ L h m → News h₀ L h ((I, oI) :: nx) → (∀ p ∈ nx, p.1 ≠ I) →
      wpAny (model PySem.Challenge.rw_pe0251_01.row.prog w) A (assign target env v) (fun _ s₂ => wpAny (model PySem.Challenge.rw_pe0251_01.row.prog w) A (execs body env) (fun f s₃ => match f with
        | .next | .cont => Turned h₀ L I oI (J (i + 1)) s s₃
        | .brk => Q .next s₃
        | .ret v => Q (.ret v) s₃) E' s₂) E' { s with heap := h, toks := tk })
    (done : ∀ m nx h tk, J n m nx → Fr h₀ L h m → News h₀ L h nx → Q .next { s with heap := h, toks := tk }) :
    wpAny (model PySem.Challenge.rw_pe0251_01.row.prog w) A (pyIter xv) (fun it s₂ => codeAny (model PySem.Challenge.rw_pe0251_01.row.prog w) A (.forLoop target it body [] env) (fun r s' => match r with | .ok f => Q f s' | .error e => cameBackBy (model PySem.Challenge.rw_pe0251_01.row.prog w) A env E e s') s₂) E s :=
  for_iterC it J F N hJ hB (fun i v m nx h tk I oI E' a b c d e _ => turn i v m nx h tk I oI E' a b c d e) done
theorem exec_for {xv : Value} {iter : Expr} {pos : Pos} (he : ∀ Q' : Value → Shared → Prop, Q' xv s → wpAny (model PySem.Challenge.rw_pe0251_01.row.prog w) A (eval iter env) Q' E s)
    (h : wpAny (model PySem.Challenge.rw_pe0251_01.row.prog w) A (pyIter xv) (fun it s₂ => codeAny (model PySem.Challenge.rw_pe0251_01.row.prog w) A (.forLoop target it body [] env) (fun r s' => match r with | .ok f => Q f s' | .error e => cameBackBy (model PySem.Challenge.rw_pe0251_01.row.prog w) A env E e s') s₂) E s)
    (hs : ∀ x, foldedSetIterable iter env x = pure x := by intro _; rfl) :
    wpAny (model PySem.Challenge.rw_pe0251_01.row.prog w) A (exec (.For target iter body [] pos) env) Q E s := wpAny_For (he _ h) hs
end

section
variable {w : World} {A : Around} {s : Shared} {E : Value → Shared → Prop} {env : Env} {target elt iter : Expr} {ifs : List Expr} {scope : Scope} {cl : List (Str × Addr)} {pos : Pos}

/-- One turn of a comprehension over the base B. -/
def CompTurn (w : World) (A : Around) (env : Env) (target elt : Expr) (ifs : List Expr) (scope : Scope) (cl : List (Str × Addr)) (s : Shared) (B : Heap) (P : Nat → Value → Prop) (J : Nat → List Value → List (Addr × Obj) → Prop) : Prop :=
  ∀ i v ys C I D m nx h tk oI (E' : Value → Shared → Prop), P i v → J i ys nx → ys.length ≤ i → Fr B C h m → News B C h ((I, oI) :: (D, LCg.lst ys) :: nx) → I ≠ D → (∀ p ∈ nx, p.1 ≠ I ∧ p.1 ≠ D) → CalmObj oI →
      wpAny (model PySem.Challenge.rw_pe0251_01.row.prog w) A (assign target (compEnvC scope cl C env) v) (fun _ s₂ =>
        wpAny (model PySem.Challenge.rw_pe0251_01.row.prog w) A (forIn ifs true fun c r => if r = true then do let ok ← isTrue c (compEnvC scope cl C env) (eval c (compEnvC scope cl C env)); pure (ForInStep.yield ok) else pure (ForInStep.yield r)) (fun ok s₃ =>
          if ok = true then wpAny (model PySem.Challenge.rw_pe0251_01.row.prog w) A (eval elt (compEnvC scope cl C env)) (fun y s₄ => CTurned B C I oI D ys (J (i + 1) (ys ++ [y])) s s₄) E' s₃
          else CTurned B C I oI D ys (J (i + 1) ys) s s₃) E' s₂) E' { s with heap := h, toks := tk }

theorem comp_eval {Q : Value → Shared → Prop} (hclos : closureFor scope env = pure cl) (hcell : ∀ y ∈ scope.names, y.2 ≠ .cell) (hkind : scope.kind = .function)
    (hnames : ∀ y ∈ scope.names, y.2 = .local → scope.names.lookup y.1 = some .local)
    (h : wpAny (model PySem.Challenge.rw_pe0251_01.row.prog w) A (eval iter env) (fun xv s₁ => ∃ S n P J W, IterOf w A xv s₁ S n P ∧ n ≤ sizeLine ∧ (∀ p ∈ W, s₁.heap.get? p.1 = some p.2) ∧ J 0 [] W ∧
      (∀ i ys nx C m h, J i ys nx → Fr (hideAll s₁.heap (W.map (·.1))) C h m → News (hideAll s₁.heap (W.map (·.1))) C h nx → S h) ∧
      (∀ g, CompTurn w A env target elt ifs scope cl { s₁ with heap := g } (hideAll s₁.heap (W.map (·.1))) P J) ∧
      ∀ D ys nx h tk, (∀ b o, (hideAll s₁.heap (W.map (·.1))).get? b = some o → h.get? b = some o) → h.get? D = some (LCg.lst ys) → s₁.heap.objs.size ≤ D → ys.length ≤ n →
        (∀ p ∈ nx, h.get? p.1 = some p.2 ∧ p.1 ≠ D ∧ (hideAll s₁.heap (W.map (·.1))).get? p.1 = none) → J n ys nx → Q (.ref D) { s₁ with heap := h, toks := tk }) E s)
    (hs : ∀ x, foldedSetIterable iter env x = pure x := by intro _; rfl) :
    wpAny (model PySem.Challenge.rw_pe0251_01.row.prog w) A (eval (.ListComp elt [⟨target, iter, ifs, 0⟩] scope pos) env) Q E s := by
  rw [eval_ListComp]
  refine wpAny_comprehension_free (use := none) rfl hs hclos hkind hnames (wpAny_mono h (fun xv s₁ h₁ => ?_) fun _ _ e => e)
  obtain ⟨S, n, P, J, W, it, hsz, hW, hJ, hS, turn, fin⟩ := h₁
  refine it _ _ fun o St src hst => ?_
  refine comp_block (s := { s₁ with heap := s₁.heap.push o }) (B := hideAll s₁.heap (W.map (·.1))) (news := W) src J hsz hcell hkind (fun b o' e => Heap.get?_push_of_some _ (of_hideAll _ e)) (by rw [hideAll_size]; show _ ≤ (s₁.heap.push o).objs.size; rw [Heap.size_push]; exact Nat.le_succ _)
    (Heap.get?_none_of_le (by rw [hideAll_size]; exact Nat.le_refl _)) hst (fun p hp => ⟨Heap.get?_push_of_some _ (hW p hp), hideAll_none _ (List.mem_map_of_mem hp), Nat.ne_of_lt (Heap.lt_size (hW p hp))⟩) hJ hS (fun i v ys C D m nx h tk oI E' => turn _ i v ys C _ D m nx h tk oI E') ?_
  intro C D m ys nx h tk F N off hyl hD hC hJ'
  have hle : s₁.heap.objs.size ≤ D := Nat.le_trans (by show _ ≤ (s₁.heap.push o).objs.size; rw [Heap.size_push]; exact Nat.le_succ _) hD
  refine ⟨m, F.ns, fun h' hs' => ?_⟩
  have hCB : (hideAll s₁.heap (W.map (·.1))).get? C = none := Heap.get?_none_of_le F.above
  have kp : ∀ p ∈ (D, LCg.lst ys) :: nx, h'.get? p.1 = some p.2 := fun p hp => hs'.extBut _ _ (N p hp).2.1 (N p hp).1
  exact fin D ys nx h' tk (fun b o e => hs'.extBut b o (fun q => by rw [q, hCB] at e; cases e) (F.keep b o e)) (kp _ (.head _)) hle hyl (fun p hp => ⟨kp p (.tail _ hp), off p hp, (N p (.tail _ hp)).2.2⟩) hJ'

/-- The same where the list is stored in a local name of the frame. -/
theorem comp_assign {Q : Flow → Shared → Prop} {y : Str} {py spos : Pos}
    (hsw : swapsWith (.ListComp elt [⟨target, iter, ifs, 0⟩] scope pos) (some (.Name y py)) spos.line env = pure true)
    (hclos : closureFor scope env = pure cl) (hcell : ∀ y ∈ scope.names, y.2 ≠ .cell) (hkind : scope.kind = .function)
    (hnames : ∀ y ∈ scope.names, y.2 = .local → scope.names.lookup y.1 = some .local)
    (hy : env.kindOf y = some .local) (hp : (env.scope.kind == .class || (env.scope.kind == .module && env.locals != env.globals)) = false)
    (h : wpAny (model PySem.Challenge.rw_pe0251_01.row.prog w) A (eval iter env) (fun xv s₁ => ∃ S n P J W, ∃ m₀ : Str → Option Value, s₁.heap.Ns env.locals m₀ ∧ env.locals ∉ W.map (·.1) ∧ IterOf w A xv s₁ S n P ∧ n ≤ sizeLine ∧ (∀ p ∈ W, s₁.heap.get? p.1 = some p.2) ∧ J 0 [] W ∧
      (∀ i ys nx C m h, J i ys nx → Fr (hideAll s₁.heap (W.map (·.1))) C h m → News (hideAll s₁.heap (W.map (·.1))) C h nx → S h) ∧
      (∀ g, CompTurn w A env target elt ifs scope cl { s₁ with heap := g } (hideAll s₁.heap (W.map (·.1))) P J) ∧
      ∀ D ys nx h tk, h.Ns env.locals (fun z => if z = y then some (.ref D) else m₀ z) → (∀ b o, b ≠ env.locals → (hideAll s₁.heap (W.map (·.1))).get? b = some o → h.get? b = some o) → h.get? D = some (LCg.lst ys) → s₁.heap.objs.size ≤ D → ys.length ≤ n →
        (∀ p ∈ nx, h.get? p.1 = some p.2 ∧ p.1 ≠ D ∧ (hideAll s₁.heap (W.map (·.1))).get? p.1 = none) → J n ys nx → Q .next { s₁ with heap := h, toks := tk }) E s)
    (hs : ∀ x, foldedSetIterable iter env x = pure x := by intro _; rfl) :
    wpAny (model PySem.Challenge.rw_pe0251_01.row.prog w) A (exec (.Assign [.Name y py] (.ListComp elt [⟨target, iter, ifs, 0⟩] scope pos) spos) env) Q E s := by
  rw [exec_Assign_Name_used _ _ _ _ hsw]
  refine wpAny_bind (wpAny_standAt (wpAny_bind ?_))
  show wpAny _ A (do let _ ← comprehension (.ListComp elt [⟨target, iter, ifs, 0⟩] scope pos) scope env _ (newList []) false (eval iter env) (some (assign (.Name y py) env))) _ _ s
  refine wpAny_bind (wpAny_mono (wpAny_comprehension_free (use := some (assign (.Name y py) env)) (Q := fun _ s' => Q .next s') rfl hs hclos hkind hnames
    (wpAny_mono h (fun xv s₁ h₁ => ?_) fun _ _ e => e)) (fun _ s' hq => wpAny_pure (wpAny_pure hq)) fun _ _ e => e)
  obtain ⟨S, n, P, J, W, m₀, ns₀, nW, it, hsz, hW, hJ, hS, turn, fin⟩ := h₁
  refine it _ _ fun o St src hst => ?_
  refine comp_block (s := { s₁ with heap := s₁.heap.push o }) (B := hideAll s₁.heap (W.map (·.1))) (news := W) src J hsz hcell hkind (fun b o' e => Heap.get?_push_of_some _ (of_hideAll _ e)) (by rw [hideAll_size]; show _ ≤ (s₁.heap.push o).objs.size; rw [Heap.size_push]; exact Nat.le_succ _)
    (Heap.get?_none_of_le (by rw [hideAll_size]; exact Nat.le_refl _)) hst (fun p hp => ⟨Heap.get?_push_of_some _ (hW p hp), hideAll_none _ (List.mem_map_of_mem hp), Nat.ne_of_lt (Heap.lt_size (hW p hp))⟩) hJ hS (fun i v ys C D m nx h tk oI E' => turn _ i v ys C _ D m nx h tk oI E') ?_
  intro C D m ys nx h tk F N off hyl hD hC hJ'
  have hle : s₁.heap.objs.size ≤ D := Nat.le_trans (by show _ ≤ (s₁.heap.push o).objs.size; rw [Heap.size_push]; exact Nat.le_succ _) hD
  have hCB : (hideAll s₁.heap (W.map (·.1))).get? C = none := Heap.get?_none_of_le F.above
  have nsB : (hideAll s₁.heap (W.map (·.1))).Ns env.locals m₀ := ns₀.at' fun o e => hideAll_get _ e nW
  have ns₁ : h.Ns env.locals m₀ := nsB.at' fun o e => F.keep _ _ e
  have hLlt : env.locals < s₁.heap.objs.size := ns₀.lt
  have hCL : C ≠ env.locals := Ne.symm (Nat.ne_of_lt (Nat.lt_of_lt_of_le hLlt (Nat.le_trans (by show _ ≤ (s₁.heap.push o).objs.size; rw [Heap.size_push]; exact Nat.le_succ _) hC)))
  show wpAny _ A (assign (.Name y py) env (.ref D)) _ _ _
  refine wpAny_assign_Name (wpAny_storeName_local hy ns₁ (fun h₂ hn₂ hs₂ => ?_) hp)
  refine ⟨m, F.ns.sameBut hs₂ hCL, fun h' hs' => ?_⟩
  have nLB : ∀ p ∈ (D, LCg.lst ys) :: nx, p.1 ≠ env.locals := fun p hp q => by
    obtain ⟨oL, _, _, eL, _⟩ := nsB
    have := (N p hp).2.2
    rw [q, eL] at this; cases this
  have kp : ∀ p ∈ (D, LCg.lst ys) :: nx, h'.get? p.1 = some p.2 := fun p hp => hs'.extBut _ _ (N p hp).2.1 (hs₂.extBut _ _ (nLB p hp) (N p hp).1)
  exact fin D ys nx h' _ (hn₂.sameBut hs' (Ne.symm hCL)) (fun b o hb e => hs'.extBut b o (fun q => by rw [q, hCB] at e; cases e) (hs₂.extBut b o hb (F.keep b o e))) (kp _ (.head _)) hle hyl (fun p hp => ⟨kp p (.tail _ hp), off p hp, (N p (.tail _ hp)).2.2⟩) hJ'
end
end Mine
namespace Mine
section
variable {w : World} {A : Around} {s : Shared} {Q E : Value → Shared → Prop}
/-- Into a def that changes nothing that stood. -/
theorem enter0 {name qual : Str} {params : Arguments} {body : List Stmt} {scope : Scope} {dV kV doc pm cdv ct oc : Value} {an od : Option Addr} {osl : Array (Option Value)} {f : Addr} {args : Args} {binds : List (Str × Value)}
    {mean : ExcName → Option Value} {mg mb : Str → Option Value} (m : Str → Option Value)
    {k : Nat} (S : Stat w mean mg mb s.heap) (R : Room A (k + 1))
    (ho : (headK w.params).lookup f = some ⟨oc, od, .func (fnOf name qual params body scope dV kV doc pm an cdv ct), osl⟩) (hcd : codeIn (headK w.params) cdv qual = true)
    (hbind : BindsTo s (fnOf name qual params body scope dV kV doc pm an cdv ct) args binds) (hkind : (binds.all fun y => scope.names.lookup y.1 == some .local || scope.names.lookup y.1 == some .cell) = true)
    (hnd : ((cellsFrom 0 scope.names []).map (·.1)).Nodup)
    (hm : ∀ L, bindL (envOfC qual scope L f cdv).kindOf binds (fun _ => none) = m)
    (h : ∀ L h₁ tk cells A', Room A' k → Fr s.heap L h₁ m → News s.heap L h₁ cells →
      CellsAre (bindC (envOfC qual scope L f cdv).kindOf binds fun _ => none) (cellsFrom (L + 1) scope.names []) cells →
      wpAny (model PySem.Challenge.rw_pe0251_01.row.prog w) A' (execs body (envOfC qual scope L f cdv))
        (fun fl s' => Q (match fl with | .ret v => v | _ => .none) s') (fun _ _ => False) { s with heap := h₁, toks := tk })
    (hco : scope.isCoroutine = false) (hgen : scope.isGenerator = false) (hk : scope.kind = .function) :
    wpAny (model PySem.Challenge.rw_pe0251_01.row.prog w) A (call (.ref f) args.pos args.kw) Q E s :=
  wpAny_call (enter [] S (Nat.lt_of_le_of_lt (Nat.le_add_right _ _) R.dep) ho hcd hbind hkind hnd (List.forall_mem_nil _) (fun L h₁ tk cells F N Y _ => by
    rw [hm] at F
    exact h L h₁ tk cells _ R.deeper F (by rw [List.append_nil] at N; exact N) Y) hco hgen hk)
end
end Mine
namespace Mine
/-- A tree run over objects that are known. -/
def runL {α : Type} (g : Setting) (look : Addr → Option Obj) : Nat → Sem α → Sem α
  | 0, t => t
  | n + 1, .rule _ k => runL g look n (k ())
  | n + 1, .at _ k => runL g look n (k ())
  | n + 1, .point _ k => runL g look n (k ())
  | n + 1, .ask k => runL g look n (k g)
  | n + 1, .load a q k => match look a with
    | some o => runL g look n (k o)
    | none => .load a q k
  | _ + 1, t => t
theorem runL_ok {α : Type} {prog : Program} {w : World} {A : Around} {E : Value → Shared → Prop} {s : Shared} {Q : α → Shared → Prop} {look : Addr → Option Obj} (hl : ∀ a o, look a = some o → s.heap.get? a = some o) :
    ∀ (n : Nat) {t : Sem α}, wpAny (model prog w) A (runL ⟨prog, w.params⟩ look n t) Q E s → wpAny (model prog w) A t Q E s
  | 0, _, h => h
  | n + 1, .rule _ _, h => X.x_rule (runL_ok hl n h)
  | n + 1, .at _ _, h => X.x_at (runL_ok hl n h)
  | n + 1, .point _ _, h => X.x_point (runL_ok hl n h)
  | n + 1, .ask _, h => X.x_ask (runL_ok hl n h)
  | n + 1, .load a q k, h => by
    unfold runL at h
    cases e : look a with
    | some o => rw [e] at h; exact X.x_load (hl _ _ e) (runL_ok hl n h)
    | none => rw [e] at h; exact h
  | _ + 1, .pure _, h => h
  | _ + 1, .raise _, h => h
  | _ + 1, .unsupported _, h => h
  | _ + 1, .finish _, h => h
  | _ + 1, .update .., h => h
  | _ + 1, .alloc .., h => h
  | _ + 1, .loadIfAlive .., h => h
  | _ + 1, .register .., h => h
  | _ + 1, .fresh _, h => h
  | _ + 1, .choose .., h => h
  | _ + 1, .os .., h => h
  | _ + 1, .call .., h => h
  | _ + 1, .handled .., h => h
  | _ + 1, .newGen .., h => h
  | _ + 1, .genState .., h => h
  | _ + 1, .resume .., h => h
  | _ + 1, .yield .., h => h
  | _ + 1, .stack _, h => h
  | _ + 1, .fork .., h => h
  | _ + 1, .thread _, h => h
  | _ + 1, .await .., h => h

def st (l : List Nat) : Str := ⟨l.toArray⟩
def lets : List Nat := [97, 98, 99, 100, 65, 66, 67, 68]
def heads : List Str := lets.map fun c => st [c]
def texts : List Str := st [] :: ((lets.map fun c => st [c]) ++ ((lets.flatMap fun c => lets.map fun d => st [c, 38, d]) ++ lets.flatMap fun c => lets.map fun d => st [c, 124, d]))

theorem slot_search : Slot "re.Pattern" "search" "re.Pattern.search" :=
  .of (owner := "re.Pattern") (n := "search") (by rw [typeLookup_type, builtinLookup_eq_fast]; kernel_rfl) (by decide +kernel) (by decide +kernel) (by decide +kernel)
    (by first | exact .inl (by decide +kernel) | exact .inr (by decide +kernel)) (by rw [isSubtype_type]; kernel_rfl)
theorem type_search : typeOf (.builtin "re.Pattern.search") = pure (.type "method_descriptor") := by show builtinType _ = _; rw [builtinType_eq_fast]; kernel_rfl
theorem entry_search : entryFor table "re.Pattern.search" = some Builtin.«re.Pattern.search» := entryFor_of_tree (by kernel_rfl)
theorem args_search (a b : Value) : argsOk "re.Pattern.search" ⟨[a, b], []⟩ := by unfold argsOk; kernel_rfl
theorem plainAttrs_pat : PlainAttrs "re.Pattern" :=
  ⟨⟨"object.__getattribute__", by rw [typeLookup_type, builtinLookup_eq_fast]; kernel_rfl, by decide +kernel⟩, by rw [typeLookup_type, builtinLookup_eq_fast]; kernel_rfl⟩

def codeObj (l : List Int) : Obj := { cls := .type "tuple", data := .seq (l.map fun i => Value.int i 0).toArray }
def patName : Obj := { cls := .type "re.Pattern", data := .fields #[.str (Str.ofString "[\\x00-\\x1F\\x7F]") 319, .int 32 342, .int 0 0, .none, .none, .ref 40, .int 0 0] }
def patVal : Obj := { cls := .type "re.Pattern", data := .fields #[.str (Str.ofString "[\\x00-\\x08\\x0A-\\x1F\\x7F]") 345, .int 32 376, .int 0 0, .none, .none, .ref 45, .int 0 0] }
def codeName : Obj := codeObj [14, 10, 4, 1, 1, 22, 0, 31, 16, 127, 0, 13, 7, 22, 0, 31, 16, 127, 0, 1]
def codeVal : Obj := codeObj [14, 14, 4, 1, 1, 9, 4294966783, 0, 0, 2147483648, 0, 0, 0, 0, 0, 13, 11, 9, 4294966783, 0, 0, 2147483648, 0, 0, 0, 0, 0, 1]
def lookRe : Addr → Option Obj := fun a => if a = 41 then some patName else if a = 40 then some codeName else if a = 46 then some patVal else if a = 45 then some codeVal else none
set_option maxHeartbeats 0 in
theorem searchName (g : Setting) (t : Tok) : heads.map (fun x => runL g lookRe 400 (Builtin.«re.Pattern.search» ⟨[.ref 41, .str x t], []⟩)) = heads.map fun _ => .pure (.done (.ret .none)) := by kernel_rfl
set_option maxHeartbeats 0 in
theorem searchVal (g : Setting) (t : Tok) : texts.map (fun x => runL g lookRe 400 (Builtin.«re.Pattern.search» ⟨[.ref 46, .str x t], []⟩)) = texts.map fun _ => .pure (.done (.ret .none)) := by kernel_rfl
end Mine
namespace Mine

def StrVal (v : Value) (x : Str) : Prop := ∃ t, v = .str x t
inductive All2 {α β : Type} (R : α → β → Prop) : List α → List β → Prop
  | nil : All2 R [] []
  | cons {a b as bs} : R a b → All2 R as bs → All2 R (a :: as) (b :: bs)
namespace All2
variable {α β : Type} {R R' : α → β → Prop}
theorem length : ∀ {as : List α} {bs : List β}, All2 R as bs → as.length = bs.length
  | _, _, .nil => rfl
  | _, _, .cons _ r => by rw [List.length_cons, List.length_cons, r.length]
theorem mono (f : ∀ a b, R a b → R' a b) : ∀ {as : List α} {bs : List β}, All2 R as bs → All2 R' as bs
  | _, _, .nil => .nil
  | _, _, .cons h r => .cons (f _ _ h) (r.mono f)
theorem snoc {a : α} {b : β} (h : R a b) : ∀ {as : List α} {bs : List β}, All2 R as bs → All2 R (as ++ [a]) (bs ++ [b])
  | _, _, .nil => .cons h .nil
  | _, _, .cons k r => .cons k (r.snoc h)
theorem append {cs : List α} {ds : List β} (h : All2 R cs ds) : ∀ {as : List α} {bs : List β}, All2 R as bs → All2 R (as ++ cs) (bs ++ ds)
  | _, _, .nil => h
  | _, _, .cons k r => .cons k (append h r)
theorem get : ∀ {as : List α} {bs : List β}, All2 R as bs → ∀ {i : Nat} {a : α}, as[i]? = some a → ∃ b, bs[i]? = some b ∧ R a b
  | _, _, .nil, i, a, e => by simp at e
  | _, _, .cons h r, 0, a, e => by cases e; exact ⟨_, rfl, h⟩
  | _, _, .cons h r, i + 1, a, e => by simpa using r.get (i := i) (by simpa using e)
end All2

def StrsAt (h : Heap) (a : Addr) (l : List Str) : Prop := ∃ vs : List Value, h.IsList a vs.toArray ∧ All2 StrVal vs l ∧ l.length ≤ 4096
def SideVal (h : Heap) (v : Value) (side : List Str) : Prop := ∃ b, v = .ref b ∧ StrsAt h b side
def SidesAt (h : Heap) (a : Addr) (l : List (List Str)) : Prop := ∃ vs : List Value, h.IsList a vs.toArray ∧ All2 (SideVal h) vs l ∧ l.length ≤ 4096
theorem isList_le {h h' : Heap} (l : Le h h') {a : Addr} {its : Array Value} (x : h.IsList a its) : h'.IsList a its := let ⟨o, e, r⟩ := x; ⟨o, l _ _ e, r⟩
theorem isTuple_le {h h' : Heap} (l : Le h h') {a : Addr} {its : Array Value} (x : h.IsTuple a its) : h'.IsTuple a its := let ⟨o, e, r⟩ := x; ⟨o, l _ _ e, r⟩
theorem StrsAt.le {h h' : Heap} (l : Le h h') {a : Addr} {x : List Str} (y : StrsAt h a x) : StrsAt h' a x := let ⟨vs, e, r⟩ := y; ⟨vs, isList_le l e, r⟩
theorem SideVal.le {h h' : Heap} (l : Le h h') {v : Value} {x : List Str} (y : SideVal h v x) : SideVal h' v x := let ⟨b, e, r⟩ := y; ⟨b, e, r.le l⟩
theorem SidesAt.le {h h' : Heap} (l : Le h h') {a : Addr} {x : List (List Str)} (y : SidesAt h a x) : SidesAt h' a x := let ⟨vs, e, r⟩ := y; ⟨vs, isList_le l e, r.1.mono fun _ _ q => q.le l, r.2⟩

theorem news_add {h₀ h h' : Heap} {L D : Addr} {o : Obj} {m : Str → Option Value} {news : List (Addr × Obj)} (F : Fr h₀ L h m) (N : News h₀ L h news) (hle : Le h h') (hD : h'.get? D = some o) (hsz : h.objs.size ≤ D) : News h₀ L h' ((D, o) :: news) := fun p hp => by
  rcases List.mem_cons.mp hp with rfl | hp
  · refine ⟨hD, Ne.symm (Nat.ne_of_lt (Nat.lt_of_lt_of_le F.ns.lt hsz)), ?_⟩
    cases q : h₀.get? D with
    | none => rfl
    | some o => exact absurd (Heap.lt_size (F.keep _ _ q)) (Nat.not_lt.mpr hsz)
  · exact ⟨hle _ _ (N p hp).1, (N p hp).2⟩
/-- A Headers object, its list of pairs at l. -/
def TableAt (h : Heap) (t dx l : Addr) (hh : Int) (tk : Tok) : Prop := h.get? t = some (instObj 175 dx) ∧ h.get? dx = some (dictOf [⟨hh, .str (Str.ofString "_headers") tk, .ref l⟩] 1)
theorem TableAt.le {h h' : Heap} (e : Le h h') {t dx l : Addr} {hh : Int} {tk : Tok} (x : TableAt h t dx l hh tk) : TableAt h' t dx l hh tk := ⟨e _ _ x.1, e _ _ x.2⟩
theorem TableAt.inst {h₀ h : Heap} {L : Addr} {m : Str → Option Value} (F : Fr h₀ L h m) {t dx l : Addr} {hh : Int} {tk : Tok} (x : TableAt h₀ t dx l hh tk) : InstAt h t (instObj 175 dx) 175 (some (dictOf [⟨hh, .str (Str.ofString "_headers") tk, .ref l⟩] 1)) :=
  ⟨F.keep _ _ x.1, rfl, rfl, F.keep _ _ x.2⟩
def PairVal (h : Heap) (v : Value) (p : Str × Str) : Prop := ∃ a t u, v = .ref a ∧ h.IsTuple a #[.str p.1 t, .str p.2 u]
def HdrsAt (h : Heap) (l : Addr) (ps : List (Str × Str)) : Prop := ∃ (vs : List Value) (n : Nat), h.get? l = some (W.listOf vs.toArray n) ∧ All2 (PairVal h) vs ps ∧ ps.length ≤ 4096
theorem PairVal.le {h h' : Heap} (l : Le h h') {v : Value} {x : Str × Str} (y : PairVal h v x) : PairVal h' v x := let ⟨a, t, u, e, r⟩ := y; ⟨a, t, u, e, isTuple_le l r⟩
theorem HdrsAt.le {h h' : Heap} (l : Le h h') {a : Addr} {x : List (Str × Str)} (y : HdrsAt h a x) : HdrsAt h' a x := let ⟨vs, n, e, r⟩ := y; ⟨vs, n, l _ _ e, r.1.mono fun _ _ q => q.le l, r.2⟩
theorem HdrsAt.list {h : Heap} {a : Addr} {x : List (Str × Str)} (y : HdrsAt h a x) : ∃ vs : List Value, h.IsList a vs.toArray ∧ All2 (PairVal h) vs x ∧ x.length ≤ 4096 := let ⟨vs, n, e, r⟩ := y; ⟨vs, ⟨_, e, rfl, n, rfl⟩, r⟩
theorem isList_lst {h : Heap} {D : Addr} {ys : List Value} (e : h.get? D = some (LCg.lst ys)) : h.IsList D ys.toArray := ⟨_, e, rfl, _, rfl⟩

section
variable {w : World} {A : Around} {s : Shared} {Q E : Value → Shared → Prop}
theorem eq_nil {a b : Addr} {xs : List Value} (hu : A.units < cLine) (ha : s.heap.IsList a xs.toArray) (hb : s.heap.IsList b #[]) (h : Q (.bool xs.isEmpty) s) : wpAny (model PySem.Challenge.rw_pe0251_01.row.prog w) A (compareOp .Eq (.ref a) (.ref b)) Q E s := by
  cases xs with
  | nil => exact SeqAt.eq_listAt (e := fun _ => true) ha hb rfl hu (fun j h1 => absurd h1 (Nat.not_lt_zero _)) h
  | cons x xs => exact SeqAt.eq_list_lengthsAt ha hb (by simp) hu h
theorem ne_nil {a b : Addr} {xs : List Value} (hu : A.units < cLine) (ha : s.heap.IsList a xs.toArray) (hb : s.heap.IsList b #[]) (h : Q (.bool !xs.isEmpty) s) : wpAny (model PySem.Challenge.rw_pe0251_01.row.prog w) A (compareOp .NotEq (.ref a) (.ref b)) Q E s := by
  cases xs with
  | nil => exact SeqAt.RcNeAt.lists (e := fun _ => true) ha hb rfl hu (fun j h1 => absurd h1 (Nat.not_lt_zero _)) _ _ _ _ h
  | cons x xs => exact SeqAt.RcNeAt.lists_lengths ha hb (by simp) hu _ _ _ _ h

theorem tup_item {B : Heap} {C t : Addr} {m : Str → Option Value} {value slice : Expr} {l : List Value} {k : Int} {u : Tok} {j : Nat} {x : Value} (F : Fr B C s.heap m) (ht : B.IsTuple t l.toArray)
    (hlo : -(2 ^ 63) ≤ k) (hhi : k < 2 ^ 63) (hj : seqIndex? k l.length = some j) (hx : l[j]? = some x) (h : Q x s)
    (hs : subscripted slice false (.ref t) (.int k u) = operate [.ref t, .int k u] (getItem (.ref t) (.int k u)) := by with_unfolding_all rfl) :
    wpAny (model PySem.Challenge.rw_pe0251_01.row.prog w) A (subscriptTail value slice (.ref t) (.int k u)) Q E s := item_tupleT (isTuple_le F.keep ht) hlo hhi hj hx h hs
theorem any_strs {x : Str} : ∀ {vs : List Value} {l : List Str}, All2 StrVal vs l → (vs.any fun v => match v with | .str y _ => y == x | _ => false) = l.contains x
  | _, _, .nil => rfl
  | _, _, .cons ⟨t, e⟩ r => by subst e; rw [List.any_cons, any_strs r, List.contains_cons]; congr 1; exact Bool.beq_comm ..
theorem mem_strs {v : Value} {vs : List Value} {l : List Str} (a : All2 StrVal vs l) (m : v ∈ vs) : ∃ x t, v = .str x t := by
  obtain ⟨i, e⟩ := List.mem_iff_getElem?.mp m
  obtain ⟨b, _, t, rfl⟩ := a.get e
  exact ⟨b, t, rfl⟩
theorem in_strs {a : Addr} {x : Str} {t : Tok} {l : List Str} (hl : StrsAt s.heap a l) (h : Q (.bool (l.contains x)) s) : wpAny (model PySem.Challenge.rw_pe0251_01.row.prog w) A (compareOp .In (.str x t) (.ref a)) Q E s := by
  obtain ⟨vs, hv, hs, _⟩ := hl
  refine SeqAt.in_listAt (fun v => match v with | .str y _ => y == x | _ => false) hv (fun y hy => ?_) ?_
  · obtain ⟨z, u, rfl⟩ := mem_strs hs (by simpa using hy)
    exact SeqAt.EqAt.str_str z u x t
  · rw [List.any_toArray, any_strs hs]; exact h
theorem notIn_strs {a : Addr} {x : Str} {t : Tok} {l : List Str} (hl : StrsAt s.heap a l) (h : Q (.bool !l.contains x) s) : wpAny (model PySem.Challenge.rw_pe0251_01.row.prog w) A (compareOp .NotIn (.str x t) (.ref a)) Q E s := by
  obtain ⟨vs, hv, hs, _⟩ := hl
  refine SeqAt.notIn_listAt (fun v => match v with | .str y _ => y == x | _ => false) hv (fun y hy => ?_) ?_
  · obtain ⟨z, u, rfl⟩ := mem_strs hs (by simpa using hy)
    exact SeqAt.EqAt.str_str z u x t
  · rw [List.any_toArray, any_strs hs]; exact h
end

section
variable {M : Model} {A : Around} {s : Shared} {E : Value → Shared → Prop} {Q : Value → Shared → Prop} {B : Heap} {C : Addr} {m mg mb : Str → Option Value} {scope : Scope} {cl : List (Str × Addr)} {env : Env} {x : Str} {pos : Pos} {v : Value} {c : Addr} {p : Program} {loose : List Str} {K : Frag}
theorem cn_local (F : Fr B C s.heap m) (hv : m x = some v) (h : Q v s) (hk : scope.kind = .function) (hl : (compEnvC scope cl C env).kindOf x = some .local) (hd : (x == ("__debug__" : Str)) = false := by decide) :
    wpAny M A (eval (.Name x pos) (compEnvC scope cl C env)) Q E s := wpAny_Name (wpAny_loadName_local hk hl F.ns hv h) hd
theorem cn_cell (F : Fr B C s.heap m) (hc : B.IsCell c (some v)) (hcl : cl.lookup x = some c) (h : Q v s) (hk : scope.kind = .function) (hl : (compEnvC scope cl C env).kindOf x = some .cell) (hd : (x == ("__debug__" : Str)) = false := by decide) :
    wpAny M A (eval (.Name x pos) (compEnvC scope cl C env)) Q E s := wpAny_Name (wpAny_loadName_cell hk hl hcl (let ⟨o, e, r⟩ := hc; ⟨o, F.keep _ _ e, r⟩) h) hd
theorem cn_global (F : Fr B C s.heap m) (X : K.In B) (T : TopRead p loose mg mb B) (e : nsIn K mainGlobals x = some (some v)) (h : Q v s) (hg : env.globals = mainGlobals) (hk : scope.kind = .function) (hl : (compEnvC scope cl C env).kindOf x = some .globalImplicit) (hd : (x == ("__debug__" : Str)) = false := by decide) :
    wpAny M A (eval (.Name x pos) (compEnvC scope cl C env)) Q E s := Name_function_global hk hl (loadGlobal_global (env := compEnvC scope cl C env) (by show s.heap.Ns env.globals _; rw [hg]; exact T.g.keeps F.keep) (mg_of X T.g e) h) hd
end

section
variable {w : World} {A : Around} {s : Shared} {E : Value → Shared → Prop} {Q : Unit → Shared → Prop} {B : Heap} {C : Addr} {m : Str → Option Value} {scope : Scope} {cl : List (Str × Addr)} {env : Env} {nx : List (Addr × Obj)}
theorem ca_name {x : Str} {px : Pos} {v : Value} (F : Fr B C s.heap m) (N : News B C s.heap nx) (hk : scope.kind = .function) (hx : scope.names.lookup x = some .local)
    (h : ∀ h' tk, Fr B C h' (fun y => if y = x then some v else m y) → News B C h' nx → Q () { s with heap := h', toks := tk }) :
    wpAny (model PySem.Challenge.rw_pe0251_01.row.prog w) A (assign (.Name x px) (compEnvC scope cl C env) v) Q E s :=
  wpAny_assign_Name (wpAny_storeName_local (lookup_relabel_local hx) F.ns (fun h' hn hs => h h' _ (F.set hn hs) (N.set hs)) (by simp [compEnvC, relabel, hk]))
end
end Mine
namespace Mine
/-- The block's frame and ledger stand. -/
def At (B : Heap) (C : Addr) (nx : List (Addr × Obj)) (s s' : Shared) : Prop := ∃ h tk m, s' = { s with heap := h, toks := tk } ∧ Fr B C h m ∧ News B C h nx

def PureTurn {α β : Type} (w : World) (A : Around) (env : Env) (target elt : Expr) (ifs : List Expr) (scope : Scope) (cl : List (Str × Addr)) (s : Shared) (R : Value → α → Prop) (p : α → Bool) (g : α → β) (R' : Value → β → Prop) (ds : List α) : Prop :=
  ∀ v d C m nx h tk (E' : Value → Shared → Prop), d ∈ ds → R v d → Fr s.heap C h m → News s.heap C h nx →
    wpAny (model PySem.Challenge.rw_pe0251_01.row.prog w) A (assign target (compEnvC scope cl C env) v) (fun _ s₂ =>
      wpAny (model PySem.Challenge.rw_pe0251_01.row.prog w) A (forIn ifs true fun c r => if r = true then do let ok ← isTrue c (compEnvC scope cl C env) (eval c (compEnvC scope cl C env)); pure (ForInStep.yield ok) else pure (ForInStep.yield r)) (fun ok s₃ =>
        ok = p d ∧ At s.heap C nx s s₃ ∧ (p d = true → wpAny (model PySem.Challenge.rw_pe0251_01.row.prog w) A (eval elt (compEnvC scope cl C env)) (fun y s₄ => R' y (g d) ∧ At s.heap C nx s s₄) E' s₃)) E' s₂) E' { s with heap := h, toks := tk }

section
variable {w : World} {A : Around} {s : Shared} {E : Value → Shared → Prop} {env : Env} {target elt iter : Expr} {ifs : List Expr} {scope : Scope} {cl : List (Str × Addr)} {pos : Pos}
theorem take_step {α : Type} {ds : List α} {i : Nat} {d : α} (e : ds[i]? = some d) : ds.take (i + 1) = ds.take i ++ [d] := by rw [List.take_add_one, e]; rfl

theorem pure_turn {α β : Type} {R : Value → α → Prop} {p : α → Bool} {g : α → β} {R' : Value → β → Prop} {its : List Value} {ds : List α} {P : Nat → Value → Prop} (hP : ∀ i v, P i v → ∃ d, ds[i]? = some d ∧ R v d)
    (t : PureTurn w A env target elt ifs scope cl s R p g R' ds) : ∀ g', CompTurn w A env target elt ifs scope cl { s with heap := g' } s.heap P (fun i ys nx => nx = [] ∧ All2 R' ys (((ds.take i).filter p).map g)) := by
  intro g' i v ys C I D m nx h tk oI E' hv hJ hyl F N hID off _
  obtain ⟨rfl, hJ⟩ := hJ
  obtain ⟨d, hd, hR⟩ := hP i v hv
  refine wpAny_mono (t v d C m _ h tk E' (List.mem_of_getElem? hd) hR F N) (fun _ s₂ h₂ => wpAny_mono h₂ (fun ok s₃ h₃ => ?_) fun _ _ e => e) fun _ _ e => e
  obtain ⟨rfl, at₃, he⟩ := h₃
  cases hp : p d with
  | true =>
    simp only [if_true]
    refine wpAny_mono (he hp) (fun y s₄ h₄ => ?_) fun _ _ e => e
    obtain ⟨hy, h₅, tk₅, m₅, rfl, F₅, N₅⟩ := h₄
    refine ⟨h₅, tk₅, m₅, [], rfl, F₅, N₅, fun p hp => (nomatch hp), rfl, ?_⟩
    rw [take_step hd, List.filter_append, List.map_append]
    simp only [List.filter_cons, hp, if_true, List.filter_nil, List.map_cons, List.map_nil]
    exact hJ.snoc hy
  | false =>
    simp only [Bool.false_eq_true, if_false]
    obtain ⟨h₅, tk₅, m₅, rfl, F₅, N₅⟩ := at₃
    refine ⟨h₅, tk₅, m₅, [], rfl, F₅, N₅, fun p hp => (nomatch hp), rfl, ?_⟩
    rw [take_step hd, List.filter_append, List.map_append]
    simp only [List.filter_cons, hp, Bool.false_eq_true, if_false, List.filter_nil, List.map_nil, List.append_nil]
    exact hJ

/-- A comprehension over a list that stands: it keeps and turns its items. -/
theorem comp_pure {α β : Type} {Q : Value → Shared → Prop} {R : Value → α → Prop} {p : α → Bool} {g : α → β} {R' : Value → β → Prop} {its : List Value} {ds : List α} {ax : Addr}
    (hclos : closureFor scope env = pure cl) (hcell : ∀ y ∈ scope.names, y.2 ≠ .cell) (hkind : scope.kind = .function)
    (hnames : ∀ y ∈ scope.names, y.2 = .local → scope.names.lookup y.1 = some .local)
    (hA : A.handled = none) (he : ∀ Q' : Value → Shared → Prop, (∀ tk, Q' (.ref ax) { s with toks := tk }) → wpAny (model PySem.Challenge.rw_pe0251_01.row.prog w) A (eval iter env) Q' E s) (hl : s.heap.IsList ax its.toArray) (hsz : ds.length ≤ 4096) (hR : All2 R its ds)
    (t : PureTurn w A env target elt ifs scope cl s R p g R' ds)
    (ret : ∀ D ys h tk, Le s.heap h → h.get? D = some (LCg.lst ys) → s.heap.objs.size ≤ D → All2 R' ys ((ds.filter p).map g) → Q (.ref D) { s with heap := h, toks := tk })
    (hs : ∀ x, foldedSetIterable iter env x = pure x := by intro _; rfl) :
    wpAny (model PySem.Challenge.rw_pe0251_01.row.prog w) A (eval (.ListComp elt [⟨target, iter, ifs, 0⟩] scope pos) env) Q E s := by
  have hlen : its.toArray.size = ds.length := by rw [List.size_toArray]; exact hR.length
  refine comp_eval hclos hcell hkind hnames (he _ fun tk₀ => ?_) hs
  refine ⟨_, _, _, fun i ys nx => nx = [] ∧ All2 R' ys (((ds.take i).filter p).map g), [], iter_list hA hl, by rw [hlen, sizeLine_eq]; omega, fun p hp => (nomatch hp), ⟨rfl, .nil⟩, fun i ys nx C m h _ F _ => isList_le F.keep hl, pure_turn (its := its) (fun i v hv => hR.get (by simpa using hv)) t, ?_⟩
  rintro D ys nx h tk hk hD hle hyl _ ⟨_, hJ⟩
  rw [hlen, List.take_length] at hJ
  exact ret D ys h tk hk hD hle hJ
/-- The same, stored in a local name. -/
theorem comp_pureA {α β : Type} {Q : Flow → Shared → Prop} {R : Value → α → Prop} {p : α → Bool} {g : α → β} {R' : Value → β → Prop} {its : List Value} {ds : List α} {ax : Addr} {y : Str} {py spos : Pos} {h₀ : Heap} {m : Str → Option Value} {news : List (Addr × Obj)}
    (F : Fr h₀ env.locals s.heap m) (N : News h₀ env.locals s.heap news)
    (hsw : swapsWith (.ListComp elt [⟨target, iter, ifs, 0⟩] scope pos) (some (.Name y py)) spos.line env = pure true)
    (hclos : closureFor scope env = pure cl) (hcell : ∀ y ∈ scope.names, y.2 ≠ .cell) (hkind : scope.kind = .function)
    (hnames : ∀ y ∈ scope.names, y.2 = .local → scope.names.lookup y.1 = some .local)
    (hy : env.kindOf y = some .local) (hp : (env.scope.kind == .class || (env.scope.kind == .module && env.locals != env.globals)) = false)
    (hA : A.handled = none) (he : ∀ Q' : Value → Shared → Prop, (∀ tk, Q' (.ref ax) { s with toks := tk }) → wpAny (model PySem.Challenge.rw_pe0251_01.row.prog w) A (eval iter env) Q' E s) (hl : s.heap.IsList ax its.toArray) (hsz : ds.length ≤ 4096) (hR : All2 R its ds)
    (t : PureTurn w A env target elt ifs scope cl s R p g R' ds)
    (ret : ∀ D ys h tk, Fr h₀ env.locals h (fun z => if z = y then some (.ref D) else m z) → News h₀ env.locals h ((D, LCg.lst ys) :: news) → (∀ p ∈ news, p.1 < D) → (∀ b o, b ≠ env.locals → s.heap.get? b = some o → h.get? b = some o) → All2 R' ys ((ds.filter p).map g) → Q .next { s with heap := h, toks := tk })
    (hs : ∀ x, foldedSetIterable iter env x = pure x := by intro _; rfl) :
    wpAny (model PySem.Challenge.rw_pe0251_01.row.prog w) A (exec (.Assign [.Name y py] (.ListComp elt [⟨target, iter, ifs, 0⟩] scope pos) spos) env) Q E s := by
  have hlen : its.toArray.size = ds.length := by rw [List.size_toArray]; exact hR.length
  refine comp_assign hsw hclos hcell hkind hnames hy hp (he _ fun tk₀ => ?_) hs
  refine ⟨_, _, _, fun i ys nx => nx = [] ∧ All2 R' ys (((ds.take i).filter p).map g), [], m, F.ns, (fun h => nomatch h), iter_list hA hl, by rw [hlen, sizeLine_eq]; omega, fun p hp => (nomatch hp), ⟨rfl, .nil⟩, fun i ys nx C m h _ F _ => isList_le F.keep hl, pure_turn (its := its) (fun i v hv => hR.get (by simpa using hv)) t, ?_⟩
  rintro D ys nx h tk ns hk hD hle hyl _ ⟨_, hJ⟩
  rw [hlen, List.take_length] at hJ
  have hL₀ : h₀.get? env.locals = none := Heap.get?_none_of_le F.above
  have hLD : env.locals < s.heap.objs.size := F.ns.lt
  refine ret D ys h tk ⟨ns, fun b o e => hk b o (fun q => by rw [q, hL₀] at e; cases e) (F.keep b o e), F.above⟩ (fun p hp => ?_) (fun p hp => Nat.lt_of_lt_of_le (Heap.lt_size (N p hp).1) hle) hk hJ
  rcases List.mem_cons.mp hp with rfl | hp
  · refine ⟨hD, Ne.symm (Nat.ne_of_lt (Nat.lt_of_lt_of_le hLD hle)), ?_⟩
    cases q : h₀.get? D with
    | none => rfl
    | some o => exact absurd (Heap.lt_size (F.keep _ _ q)) (Nat.not_lt.mpr hle)
  · exact ⟨hk _ _ (N p hp).2.1 (N p hp).1, (N p hp).2⟩
end
end Mine
namespace Mine
theorem lookRe_in {w : World} {h : Heap} (X : (headK w.params).In h) : ∀ a o, lookRe a = some o → h.get? a = some o := by
  intro a o e
  unfold lookRe at e
  split at e
  · rename_i q; subst q; cases e; exact X _ _ (by rfl)
  · split at e
    · rename_i q; subst q; cases e; exact X _ _ (by rfl)
    · split at e
      · rename_i q; subst q; cases e; exact X _ _ (by rfl)
      · split at e
        · rename_i q; subst q; cases e; exact X _ _ (by rfl)
        · cases e
theorem map_at {α β : Type} {f g : α → β} : ∀ {l : List α}, l.map f = l.map g → ∀ x ∈ l, f x = g x
  | [], _, _, h => nomatch h
  | a :: l, e, x, h => by
    rw [List.map_cons, List.map_cons] at e
    injection e with e1 e2
    rcases List.mem_cons.mp h with rfl | h
    · exact e1
    · exact map_at e2 x h
section
variable {w : World} {A : Around} {s : Shared} {Q E : Value → Shared → Prop}
theorem pat_type {h : Heap} (X : (headK w.params).In h) {a : Addr} (ha : a = 41 ∨ a = 46) : ∃ o, h.get? a = some o ∧ o.cls = .type "re.Pattern" ∧ o.dict = none := by
  rcases ha with rfl | rfl
  · exact ⟨_, lookRe_in X 41 _ rfl, rfl, rfl⟩
  · exact ⟨_, lookRe_in X 46 _ rfl, rfl, rfl⟩
theorem search_meth {pl : Sem Bool} {a : Addr} {Q : Value × List Value → Shared → Prop} (X : (headK w.params).In s.heap) (ha : a = 41 ∨ a = 46) (h : Q (.builtin "re.Pattern.search", [.ref a]) s) :
    wpAny (model PySem.Challenge.rw_pe0251_01.row.prog w) A (getMethod (.ref a) (Str.ofString "search") pl) Q E s := by
  obtain ⟨o, e, hc, hd⟩ := pat_type X ha
  exact getMethod_builtin ⟨o, e, hc⟩ plainAttrs_pat slot_search type_search (fun b q => by cases q; exact ⟨o, e, hd⟩) h
theorem search_call {a : Addr} {x : Str} {t : Tok} (X : (headK w.params).In s.heap) (ha : a = 41 ∧ x ∈ heads ∨ a = 46 ∧ x ∈ texts) (h : Q .none s) : wpAny (model PySem.Challenge.rw_pe0251_01.row.prog w) A (call (.builtin "re.Pattern.search") [.ref a, .str x t]) Q E s := by
  obtain ⟨o, e, hc, hd⟩ := pat_type X (ha.imp And.left And.left)
  refine wpAny_call_entry slot_search ⟨o, e, hc⟩ entry_search ?_ (args_search _ _)
  refine runL_ok (lookRe_in X) 400 ?_
  rcases ha with ⟨rfl, hx⟩ | ⟨rfl, hx⟩
  · rw [map_at (searchName _ t) x hx]
    exact wpAny_pure ⟨_, rfl, h⟩
  · rw [map_at (searchVal _ t) x hx]
    exact wpAny_pure ⟨_, rfl, h⟩
end
local macro_rules | `(tactic| walk_at "getMethod ref") => `(tactic| ((with_reducible show wpAny _ _ (getMethod _ (PySem.Str.ofString "search") _) _ _ _); refine search_meth (Frag.In.keeps (by assumption) (Fr.keep (by k_asm))) (by first | exact .inl rfl | exact .inr rfl) ?_))
local macro_rules | `(tactic| walk_at "call builtin:re.Pattern.search") => `(tactic| (refine search_call (Frag.In.keeps (by assumption) (Fr.keep (by k_asm))) (by first | exact .inl ⟨rfl, by assumption⟩ | exact .inr ⟨rfl, by assumption⟩) ?_))
local macro_rules | `(tactic| walk_at "eval ListComp") => `(tactic| refine halt ?_)
local macro_rules | `(tactic| walk_at "exec Assign cons ListComp") => `(tactic| refine halt ?_)
local macro_rules | `(tactic| walk_at "exec For") => `(tactic| refine halt ?_)
local macro_rules | `(tactic| walk_at "exec For Name Call cons nil") => `(tactic| refine halt ?_)
local macro_rules | `(tactic| walk_at "pyIter ref") => `(tactic| refine halt ?_)
local macro_rules | `(tactic| walk_at "pyIter str") => `(tactic| refine halt ?_)
local macro_rules | `(tactic| walk_at "compareOp Eq ref ref") => `(tactic| refine halt ?_)
local macro_rules | `(tactic| walk_at "compareOp NotEq ref ref") => `(tactic| refine halt ?_)
local macro_rules | `(tactic| walk_at "compareOp In str ref") => `(tactic| refine halt ?_)
local macro_rules | `(tactic| walk_at "compareOp NotIn str ref") => `(tactic| refine halt ?_)
local macro_rules | `(tactic| walk_at "call ref") => `(tactic| refine halt ?_)
local macro_rules | `(tactic| walk_at "call ref") => `(tactic| ((with_unfolding_all (refine conv_call (Stat.le (by assumption) (Fr.keep (by k_asm))) (Room.mono (by assumption) (by decide)) (by first | exact .inl ⟨rfl, by assumption⟩ | exact .inr ⟨rfl, by assumption⟩) ?_)); intro h' tk' hle'; walk_at "grown"))
local macro_rules | `(tactic| walk_at "grown") => `(tactic| ((rename Fr _ _ _ _ => kF); (rename News _ _ _ _ => kN); (rename Le _ _ => hle); k_dflt (replace kF := Fr.keeps kF hle; replace kN := News.grown kN hle; clear hle)))
local macro_rules | `(tactic| walk_at "call builtin:str.lower") => `(tactic| k_dflt (refine lower_call (by assumption) ?_))
local macro_rules | `(tactic| walk_at "call builtin:str.upper") => `(tactic| k_dflt (refine upper_call (by assumption) ?_))
local macro_rules | `(tactic| walk_at "setItem ref ref") => `(tactic| refine halt ?_)
local macro_rules | `(tactic| walk_at "eval Slice") => `(tactic| refine halt ?_)
local macro_rules | `(tactic| walk_at "delItem ref") => `(tactic| (k_dflt (refine' del_item ?F ?X ?I ?hQ ?hS ?hF ?_; (case F => k_asm); (case X => k_asm); (case I => k_inst); (case hS => k_is); (case hF => k_is); (case hQ => k_is))))
local macro_rules | `(tactic| walk_at "At") => `(tactic| exact ⟨_, _, _, rfl, by assumption, by assumption⟩)
local macro_rules | `(tactic| walk_at "StrVal") => `(tactic| exact ⟨_, rfl⟩)
local macro_rules | `(tactic| walk_at "eval Name") => `(tactic| ((with_reducible show wpAny _ _ (eval (Expr.Name _ _) (compEnvC _ _ _ _)) _ _ _); k_dflt (first
  | (refine' cn_local ?F ?v ?_ ?a ?b; (case F => k_asm); (case a => rfl); (case b => rfl); (case v => rfl); k_whole)
  | (refine' cn_cell ?F ?c ?v ?_ ?a ?b; (case a => rfl); (case b => rfl); (case F => k_asm); (case v => rfl); (case c => assumption); k_whole)
  | (refine' cn_global ?F ?X ?T ?e ?_ ?g ?a ?b; (case a => rfl); (case b => rfl); (case g => rfl); (case F => k_asm); (case X => k_asm); (case T => k_asm); (case e => k_is); k_whole))))
local macro_rules | `(tactic| walk_at "fn sides") => `(tactic| (
  (case o => k_dflt k_is)
  (case c => k_dflt k_is)
  (case b => first | exact BindsTo.of_eq rfl | exact binds_K (by assumption) rfl (by k_is) rfl rfl rfl)
  (case k => rfl)
  (case n => decide)
  (case hm => exact fun _ => rfl)
  (case c1 => rfl)
  (case c2 => rfl)
  (case c3 => rfl)))
local macro_rules | `(tactic| k_inst) => `(tactic| exact TableAt.inst (by k_asm) (by assumption))
local macro_rules | `(tactic| walk_at "subscriptTail Name Constant ref int") => `(tactic| (refine' tup_item ?F ?t ?a ?b ?c ?d ?_ ?e; (case F => k_asm); (case t => assumption); (case a => decide); (case b => decide); (case c => rfl); (case d => rfl); (case e => with_unfolding_all rfl)))
set_option maxHeartbeats 4000000 in
theorem conv_call {w : World} {A : Around} {s : Shared} {Q E : Value → Shared → Prop} {mean : ExcName → Option Value} {mg mb : Str → Option Value}
    (S : Stat w mean mg mb s.heap) (R : Room A 2) {self : Value} {x : Str} {t : Tok} {nm : Bool} (hx : nm = true ∧ x ∈ heads ∨ nm = false ∧ x ∈ texts)
    (ret : ∀ h' tk, Le s.heap h' → Q (.str x t) { s with heap := h', toks := tk }) :
    wpAny (model PySem.Challenge.rw_pe0251_01.row.prog w) A (call (.ref 76) [self, .str x t] [(Str.ofString "name", .bool nm)]) Q E s := by
  have X : (headK w.params).In s.heap := S.k
  revert X
  k_fill
  intro X
  have T := topRead_of S.t
  refine' enter0 (args := ⟨[self, .str x t], [(Str.ofString "name", .bool nm)]⟩) (binds := [(Str.ofString "self", self), (Str.ofString "value", .str x t), (Str.ofString "name", .bool nm)]) (fun y => if y = Str.ofString "name" then some (.bool nm) else if y = Str.ofString "value" then some (.str x t) else if y = Str.ofString "self" then some self else none) S R ?o ?c ?b ?k ?n ?hm ?_ ?c1 ?c2 ?c3
  walk_at "fn sides"
  intro L h₁ tk cells A R F N Y
  cases Y
  have hA := R.hh
  have hU := R.un
  rcases hx with ⟨rfl, hx⟩ | ⟨rfl, hx⟩
  all_goals k_steps
  all_goals exact ret _ _ (Fr.keep (by assumption))
end Mine
namespace Mine
def low (x : Str) : Str := ⟨x.cps.map fun c => if c < 97 then c + 32 else c⟩
def up (x : Str) : Str := ⟨x.cps.map fun c => if c < 97 then c else c - 32⟩
def abcd : List Str := [st [97], st [98], st [99], st [100]]
theorem lower_heads : heads.map (fun x => (Txt.lower x, Builtin.Str.tooLong (Txt.lower x).length)) = heads.map fun x => (low x, false) := by kernel_rfl
theorem upper_heads : heads.map (fun x => (Txt.upper x, Builtin.Str.tooLong (Txt.upper x).length)) = heads.map fun x => (up x, false) := by kernel_rfl
theorem low_heads : heads.all (fun x => abcd.contains (low x)) = true := by decide +kernel
theorem up_heads : heads.all (fun x => heads.contains (up x)) = true := by decide +kernel
theorem abcd_heads : abcd.all (fun x => heads.contains x) = true := by decide +kernel
theorem low_abcd {x : Str} (h : x ∈ heads) : low x ∈ abcd := by simpa using List.all_eq_true.mp low_heads x h
theorem up_mem {x : Str} (h : x ∈ heads) : up x ∈ heads := by simpa using List.all_eq_true.mp up_heads x h
theorem abcd_mem {x : Str} (h : x ∈ abcd) : x ∈ heads := by simpa using List.all_eq_true.mp abcd_heads x h
section
variable {w : World} {A : Around} {s : Shared} {Q E : Value → Shared → Prop}
theorem lower_call {x : Str} {t : Tok} (hx : x ∈ heads) (h : Q (.str (low x) s.toks) { s with toks := s.toks + 1 }) : wpAny (model PySem.Challenge.rw_pe0251_01.row.prog w) A (call (.builtin "str.lower") [.str x t]) Q E s := by
  have e := map_at lower_heads x hx
  refine SC.lower (congrArg Prod.snd e) ?_
  rw [show Txt.lower x = low x from congrArg Prod.fst e]; exact h
theorem upper_call {x : Str} {t : Tok} (hx : x ∈ heads) (h : Q (.str (up x) s.toks) { s with toks := s.toks + 1 }) : wpAny (model PySem.Challenge.rw_pe0251_01.row.prog w) A (call (.builtin "str.upper") [.str x t]) Q E s := by
  have e := map_at upper_heads x hx
  refine SC.upper (congrArg Prod.snd e) ?_
  rw [show Txt.upper x = up x from congrArg Prod.fst e]; exact h
end
end Mine
namespace Mine
def setAll : List Str → List Value → (Str → Option Value) → Str → Option Value
  | n :: ns, v :: vs, m => setAll ns vs (fun z => if z = n then some v else m z)
  | _, _, m => m
def over : List Str → (Str → Option Value) → (Str → Option Value) → Str → Option Value
  | [], _, m₀ => m₀
  | n :: r, m, m₀ => fun z => if z = n then m z else over r m m₀ z
theorem setAll_ne {z : Str} : ∀ {ns : List Str} {vs : List Value} {m : Str → Option Value}, z ∉ ns → setAll ns vs m z = m z
  | [], _, _, _ => rfl
  | _ :: _, [], _, _ => rfl
  | n :: ns, v :: vs, m, h => by
    show setAll ns vs _ z = _
    have hz : ¬ z = n := fun q => h (q ▸ List.mem_cons_self)
    rw [setAll_ne (fun q => h (.tail _ q)), if_neg hz]
theorem over_ne {z : Str} : ∀ {ns : List Str} {m m₀ : Str → Option Value}, z ∉ ns → over ns m m₀ z = m₀ z
  | [], _, _, _ => rfl
  | n :: ns, m, m₀, h => by
    show (if z = n then m z else over ns m m₀ z) = _
    have hz : ¬ z = n := fun q => h (q ▸ List.mem_cons_self)
    rw [if_neg hz, over_ne (fun q => h (.tail _ q))]
theorem over_eq {m m₀ : Str → Option Value} : ∀ {ns : List Str}, (∀ z, z ∉ ns → m z = m₀ z) → m = over ns m m₀
  | [], h => funext fun z => h z (fun q => nomatch q)
  | n :: ns, h => by
    funext z
    show _ = (if z = n then m z else over ns m m₀ z)
    by_cases q : z = n
    · rw [if_pos q]
    · rw [if_neg q]
      by_cases hz : z ∈ ns
      · have aux : ∀ {ns : List Str}, z ∈ ns → over ns m m₀ z = m z := by
          intro ns
          induction ns with
          | nil => intro h; cases h
          | cons a r ih =>
            intro h
            show (if z = a then m z else over r m m₀ z) = _
            by_cases e : z = a
            · rw [if_pos e]
            · rw [if_neg e]
              rcases List.mem_cons.mp h with h | h
              · exact absurd h e
              · exact ih h
        exact (aux hz).symm
      · rw [over_ne hz]; exact h z (fun h => (List.mem_cons.mp h).elim q hz)
theorem set_ne {z n : Str} {ns : List Str} {o : Option Value} {m : Str → Option Value} (hn : n ∈ ns) (hz : z ∉ ns) : (if z = n then o else m z) = m z := by
  have hne : ¬ z = n := fun q => hz (by rw [q]; exact hn)
  rw [if_neg hne]
theorem two_ne {z n₁ n₂ : Str} {ns : List Str} {o₁ o₂ : Option Value} {m m₀ : Str → Option Value} (h₁ : n₁ ∈ ns) (h₂ : n₂ ∈ ns) (hz : z ∉ ns) : (if z = n₁ then o₁ else if z = n₂ then o₂ else over ns m m₀ z) = m₀ z := by
  have e1 : ¬ z = n₁ := fun q => hz (by rw [q]; exact h₁)
  have e2 : ¬ z = n₂ := fun q => hz (by rw [q]; exact h₂)
  rw [if_neg e1, if_neg e2, over_ne hz]
theorem fr_over {h₀ h : Heap} {L : Addr} {m m₀ : Str → Option Value} {ns : List Str} (F : Fr h₀ L h m) (hm : ∀ z, z ∉ ns → m z = m₀ z) : Fr h₀ L h (over ns m m₀) := over_eq hm ▸ F
section
variable {w : World} {A : Around} {E : Value → Shared → Prop} {Q : Unit → Shared → Prop} {env : Env} {h₀ : Heap} {news : List (Addr × Obj)}
theorem in_order (hp : (env.scope.kind == .class || (env.scope.kind == .module && env.locals != env.globals)) = false) (ns : List (Str × Pos)) : ∀ (vs : List Value) (m : Str → Option Value) (s : Shared), Fr h₀ env.locals s.heap m → News h₀ env.locals s.heap news → (∀ p ∈ ns, env.kindOf p.1 = some .local) → ns.length = vs.length →
    (∀ h' tk, Fr h₀ env.locals h' (setAll (ns.map (·.1)) vs m) → News h₀ env.locals h' news → Q () { s with heap := h', toks := tk }) →
    wpAny (model PySem.Challenge.rw_pe0251_01.row.prog w) A (assignInOrder (ns.map fun p => assign (.Name p.1 p.2) env) vs) Q E s := by
  induction ns with
  | nil =>
    intro vs m s F N _ hl h
    cases vs with
    | nil => exact assignInOrder_nil (h s.heap s.toks F N)
    | cons v vs => cases hl
  | cons p ns ih =>
    intro vs m s F N hk hl h
    cases vs with
    | nil => cases hl
    | cons v vs =>
      refine assignInOrder_cons (wpAny_assign_Name (wpAny_storeName_local (hk p (.head _)) F.ns (fun h₂ hn₂ hs₂ => ?_) hp))
      exact ih vs _ { s with heap := h₂, toks := s.toks + 1 } (F.set hn₂ hs₂) (N.set hs₂) (fun q hq => hk q (.tail _ hq)) (Nat.succ.inj hl) fun h' tk F' N' => h h' tk F' N'
theorem assign_tup (ns : List (Str × Pos)) {s : Shared} {L : Addr} {elts : List Expr} {kk : Nat} {tp : Pos} {T : Addr} {vs : List Value} {m : Str → Option Value} (hh : A.handled = none) (F : Fr h₀ L s.heap m) (N : News h₀ L s.heap news) (ht : s.heap.IsTuple T vs.toArray)
    (he : (assignEach elts env).map (·.2) = ns.map fun p => assign (.Name p.1 p.2) env) (hstar : (assignEach elts env).findIdx? (·.1) = none) (hlen : ns.length = vs.length)
    (hk : (ns.all fun p => env.kindOf p.1 == some .local) = true) (hp : (env.scope.kind == .class || (env.scope.kind == .module && env.locals != env.globals)) = false) (hL : env.locals = L)
    (h : ∀ h' tk, Fr h₀ L h' (setAll (ns.map (·.1)) vs m) → News h₀ L h' news → Q () { s with heap := h', toks := tk }) :
    wpAny (model PySem.Challenge.rw_pe0251_01.row.prog w) A (assign (.Tuple elts kk tp) env (.ref T)) Q E s := by
  subst hL
  have hl : (assignEach elts env).length = vs.toArray.size := by
    have := congrArg List.length he
    rw [List.length_map, List.length_map] at this
    rw [this, hlen, List.size_toArray]
  refine wpAny_assign_Tuple hh ht hl hstar fun h₁ he₁ => ?_
  rw [he]
  have up : ∀ b o, s.heap.get? b = some o → h₁.get? b = some o := fun b o e => he₁ b o (Nat.ne_of_lt (Heap.lt_size e)) e
  exact in_order hp ns vs m { s with heap := h₁ } (F.keeps up) (N.grown up) (fun p hp => by simpa using List.all_eq_true.mp hk p hp) hlen fun h' tk F' N' => h h' tk F' N'
end
end Mine
namespace Mine
def LeB (l : Addr) (h h' : Heap) : Prop := ∀ b o, b ≠ l → h.get? b = some o → h'.get? b = some o
theorem LeB.trans {l : Addr} {a b c : Heap} (x : LeB l a b) (y : LeB l b c) : LeB l a c := fun i o n e => y i o n (x i o n e)
theorem Le.but {a b : Heap} (x : Le a b) (l : Addr) : LeB l a b := fun i o _ e => x i o e
theorem PairVal.leB {l : Addr} {h h' : Heap} {vs : Array Value} {n : Nat} (hl : h.get? l = some (W.listOf vs n)) (x : LeB l h h') {v : Value} {p : Str × Str} (y : PairVal h v p) : PairVal h' v p := by
  obtain ⟨a, t, u, e, o, ho, hc, r⟩ := y
  refine ⟨a, t, u, e, o, x a o (fun q => ?_) ho, hc, r⟩
  rw [q, hl] at ho
  cases ho
  exact absurd hc (by simp)
theorem TableAt.leB {l k : Addr} {h h' : Heap} {vs : Array Value} {n : Nat} (hl : h.get? k = some (W.listOf vs n)) (x : LeB k h h') {t dx : Addr} {hh : Int} {tk : Tok} (y : TableAt h t dx l hh tk) : TableAt h' t dx l hh tk := by
  refine ⟨x _ _ (fun q => ?_) y.1, x _ _ (fun q => ?_) y.2⟩
  · have := y.1; rw [q, hl] at this; exact absurd (congrArg (Option.map Obj.cls) this) (by simp)
  · have := y.2; rw [q, hl] at this; exact absurd (congrArg (Option.map Obj.cls) this) (by simp)
theorem isTuple_leB {l : Addr} {h h' : Heap} {vs : Array Value} {n : Nat} (hl : h.get? l = some (W.listOf vs n)) (x : LeB l h h') {a : Addr} {its : Array Value} (y : h.IsTuple a its) : h'.IsTuple a its := by
  obtain ⟨o, ho, hc, r⟩ := y
  refine ⟨o, x a o (fun q => ?_) ho, hc, r⟩
  rw [q, hl] at ho
  cases ho
  exact absurd hc (by simp)
theorem All2.and {α β : Type} {R R' : α → β → Prop} : ∀ {as : List α} {bs : List β}, All2 R as bs → All2 R' as bs → All2 (fun a b => R a b ∧ R' a b) as bs
  | _, _, .nil, .nil => .nil
  | _, _, .cons h r, .cons h' r' => .cons ⟨h, h'⟩ (r.and r')
theorem push_list (vs : List Value) (v : Value) : vs.toArray.push v = (vs ++ [v]).toArray := by simp
theorem leB_end {l L : Addr} {h B h' : Heap} {m : Str → Option Value} (x : LeB l h B) (F : Fr B L h' m) : LeB l h h' := fun b o n e => F.keep b o (x b o n e)
section
variable {w : World} {A : Around} {s : Shared} {Q E : Value → Shared → Prop}
/-- Into a def that may change one list that stood. -/
theorem enterW {name qual : Str} {params : Arguments} {body : List Stmt} {scope : Scope} {dV kV doc pm cdv ct oc : Value} {an od : Option Addr} {osl : Array (Option Value)} {f : Addr} {args : Args} {binds : List (Str × Value)}
    {mean : ExcName → Option Value} {mg mb : Str → Option Value} (m : Str → Option Value)
    {k : Nat} {g : Heap} {l : Addr} {ol : Obj} (S : Stat w mean mg mb g) (hg : Le g s.heap) (hl : g.get? l = none) (hol : s.heap.get? l = some ol) (R : Room A (k + 1))
    (ho : (headK w.params).lookup f = some ⟨oc, od, .func (fnOf name qual params body scope dV kV doc pm an cdv ct), osl⟩) (hcd : codeIn (headK w.params) cdv qual = true)
    (hbind : BindsTo s (fnOf name qual params body scope dV kV doc pm an cdv ct) args binds) (hkind : (binds.all fun y => scope.names.lookup y.1 == some .local || scope.names.lookup y.1 == some .cell) = true)
    (hnd : ((cellsFrom 0 scope.names []).map (·.1)).Nodup)
    (hm : ∀ L, bindL (envOfC qual scope L f cdv).kindOf binds (fun _ => none) = m)
    (h : ∀ L h₁ tk cells A' B, Room A' k → Le g B → LeB l s.heap B → Le B s.heap → B.get? l = none → Fr B L h₁ m → News B L h₁ (cells ++ [(l, ol)]) → @LT.lt Nat _ l L →
      CellsAre (bindC (envOfC qual scope L f cdv).kindOf binds fun _ => none) (cellsFrom (L + 1) scope.names []) cells →
      wpAny (model PySem.Challenge.rw_pe0251_01.row.prog w) A' (execs body (envOfC qual scope L f cdv))
        (fun fl s' => Q (match fl with | .ret v => v | _ => .none) s') (fun _ _ => False) { s with heap := h₁, toks := tk })
    (hco : scope.isCoroutine = false) (hgen : scope.isGenerator = false) (hk : scope.kind = .function) :
    wpAny (model PySem.Challenge.rw_pe0251_01.row.prog w) A (call (.ref f) args.pos args.kw) Q E s :=
  wpAny_call (enter [(l, ol)] (S.le hg) (Nat.lt_of_le_of_lt (Nat.le_add_right _ _) R.dep) ho hcd hbind hkind hnd (fun p hp => by cases List.mem_singleton.mp hp; exact hol) (fun L h₁ tk cells F N Y hlt => by
    rw [hm] at F
    refine h L h₁ tk cells _ _ R.deeper (fun b o e => hideAll_get _ (hg b o e) fun q => ?_) (fun b o n e => hideAll_get _ e fun q => n (List.mem_singleton.mp q)) (fun b o e => of_hideAll _ e) (hideAll_none _ (List.mem_singleton.mpr rfl)) F N (hlt _ (.head _)) Y
    have : b = l := List.mem_singleton.mp q
    rw [this, hl] at e; cases e) hco hgen hk)
end
end Mine
namespace Mine
theorem drop_step {α : Type} {l : List α} {i : Nat} {a : α} (h : l[i]? = some a) : l.drop i = a :: l.drop (i + 1) := by
  obtain ⟨hi, rfl⟩ := List.getElem?_eq_some_iff.mp h
  exact List.drop_eq_getElem_cons hi
abbrev RuleD := Str × Str × List (List Str)
def RuleVal (h : Heap) (v : Value) (r : RuleD) : Prop := ∃ a t u b, v = .ref a ∧ h.IsTuple a #[.str r.1 t, .str r.2.1 u, .ref b] ∧ SidesAt h b r.2.2
theorem RuleVal.le {h h' : Heap} (l : Le h h') {v : Value} {r : RuleD} (y : RuleVal h v r) : RuleVal h' v r := let ⟨a, t, u, b, e, q, z⟩ := y; ⟨a, t, u, b, e, isTuple_le l q, z.le l⟩
def RulesAt (h : Heap) (a : Addr) (rs : List RuleD) : Prop := ∃ vs : List Value, h.IsList a vs.toArray ∧ All2 (RuleVal h) vs rs ∧ rs.length ≤ 4096
theorem RulesAt.le {h h' : Heap} (l : Le h h') {a : Addr} {x : List RuleD} (y : RulesAt h a x) : RulesAt h' a x := let ⟨vs, e, r⟩ := y; ⟨vs, isList_le l e, r.1.mono fun _ _ q => q.le l, r.2⟩
def textsOf (rs : List RuleD) (x : Str) : List Str := (rs.filter fun r => r.1 == x).map fun r => r.2.1
section
variable {w : World} {A : Around} {E : Value → Shared → Prop} {Q : Unit → Shared → Prop}
/-- A tuple target in a comprehension. -/
theorem ca_tup {scope : Scope} {cl : List (Str × Addr)} {env : Env} (ns : List (Str × Pos)) {s : Shared} {B : Heap} {C : Addr} {elts : List Expr} {kk : Nat} {tp : Pos} {T : Addr} {vs : List Value} {m : Str → Option Value} {nx : List (Addr × Obj)} (hh : A.handled = none) (F : Fr B C s.heap m) (N : News B C s.heap nx) (ht : s.heap.IsTuple T vs.toArray)
    (he : (assignEach elts (compEnvC scope cl C env)).map (·.2) = ns.map fun p => assign (.Name p.1 p.2) (compEnvC scope cl C env)) (hstar : (assignEach elts (compEnvC scope cl C env)).findIdx? (·.1) = none) (hlen : ns.length = vs.length)
    (hk : (ns.all fun p => scope.names.lookup p.1 == some .local) = true) (hkd : scope.kind = .function)
    (h : ∀ h' tk, Fr B C h' (setAll (ns.map (·.1)) vs m) → News B C h' nx → Q () { s with heap := h', toks := tk }) :
    wpAny (model PySem.Challenge.rw_pe0251_01.row.prog w) A (assign (.Tuple elts kk tp) (compEnvC scope cl C env) (.ref T)) Q E s :=
  assign_tup ns hh F N ht he hstar hlen (List.all_eq_true.mpr fun p hp => by
    have : scope.names.lookup p.1 = some .local := by simpa using List.all_eq_true.mp hk p hp
    have := lookup_relabel_local (env := env) this
    exact beq_iff_eq.mpr this) (by simp [compEnvC, relabel, hkd]) rfl h
end
end Mine
namespace Mine
theorem Src.lt {w : World} {A : Around} {B : Heap → Prop} {I : Addr} {n : Nat} {P : Nat → Value → Prop} {St : Nat → Heap → Prop} (W : Src w A B I n P St) : Src w A B I n (fun i v => i < n ∧ P i v) St :=
  { item := fun i s Q E hi st hQ => W.item i s Q E hi st fun v h' tk p => hQ v h' tk ⟨hi, p⟩
    done := W.done
    self := W.self
    obj := W.obj
    stable := W.stable }
theorem IterOf.lt {w : World} {A : Around} {xv : Value} {s : Shared} {S : Heap → Prop} {n : Nat} {P : Nat → Value → Prop} (it : IterOf w A xv s S n P) : IterOf w A xv s S n (fun i v => i < n ∧ P i v) :=
  fun Q E k => it Q E fun o St W h => k o St W.lt h
section
variable {w : World} {A : Around} {s : Shared} {E : Value → Shared → Prop} {env : Env} {target elt iter : Expr} {ifs : List Expr} {scope : Scope} {cl : List (Str × Addr)} {pos : Pos}
/-- A comprehension over any iterator: it keeps and turns its items. -/
theorem comp_pureI {α β : Type} {Q : Value → Shared → Prop} {R : Value → α → Prop} {p : α → Bool} {g : α → β} {R' : Value → β → Prop} {ds : List α}
    (hclos : closureFor scope env = pure cl) (hcell : ∀ y ∈ scope.names, y.2 ≠ .cell) (hkind : scope.kind = .function)
    (hnames : ∀ y ∈ scope.names, y.2 = .local → scope.names.lookup y.1 = some .local)
    (h : wpAny (model PySem.Challenge.rw_pe0251_01.row.prog w) A (eval iter env) (fun xv s₁ => Halt (∃ S n P, IterOf w A xv s₁ S n P ∧ (∀ h', Le s₁.heap h' → S h') ∧ n = ds.length ∧ n ≤ 4096 ∧ (∀ i v, P i v → ∃ d, ds[i]? = some d ∧ R v d) ∧ PureTurn w A env target elt ifs scope cl s₁ R p g R' ds ∧
      ∀ D ys h tk, Le s₁.heap h → h.get? D = some (LCg.lst ys) → s₁.heap.objs.size ≤ D → All2 R' ys ((ds.filter p).map g) → Q (.ref D) { s₁ with heap := h, toks := tk })) E s)
    (hs : ∀ x, foldedSetIterable iter env x = pure x := by intro _; rfl) :
    wpAny (model PySem.Challenge.rw_pe0251_01.row.prog w) A (eval (.ListComp elt [⟨target, iter, ifs, 0⟩] scope pos) env) Q E s := by
  refine comp_eval hclos hcell hkind hnames (wpAny_mono h (fun xv s₁ h₁ => ?_) fun _ _ e => e) hs
  obtain ⟨S, n, P, it, hS, hn, hsz, hP, t, ret⟩ := h₁
  refine ⟨S, n, P, fun i ys nx => nx = [] ∧ All2 R' ys (((ds.take i).filter p).map g), [], it, by rw [sizeLine_eq]; omega, fun p hp => (nomatch hp), ⟨rfl, .nil⟩, fun i ys nx C m h _ F _ => hS h F.keep, pure_turn (its := []) hP t, ?_⟩
  rintro D ys nx h tk hk hD hle hyl _ ⟨_, hJ⟩
  rw [hn, List.take_length] at hJ
  exact ret D ys h tk hk hD hle hJ
end
theorem ofs_a : Str.ofString "a" = st [97] := by decide +kernel
theorem ofs_b : Str.ofString "b" = st [98] := by decide +kernel
theorem ofs_c : Str.ofString "c" = st [99] := by decide +kernel
theorem ofs_d : Str.ofString "d" = st [100] := by decide +kernel
theorem strv_a (t : Tok) : StrVal (.str (Str.ofString "a") t) (st [97]) := ⟨t, by rw [ofs_a]⟩
theorem strv_b (t : Tok) : StrVal (.str (Str.ofString "b") t) (st [98]) := ⟨t, by rw [ofs_b]⟩
theorem strv_c (t : Tok) : StrVal (.str (Str.ofString "c") t) (st [99]) := ⟨t, by rw [ofs_c]⟩
theorem strv_d (t : Tok) : StrVal (.str (Str.ofString "d") t) (st [100]) := ⟨t, by rw [ofs_d]⟩
def heldOf (i : Nat) : List Str := ((List.range 4).filter fun k => i / 2 ^ k % 2 == 1).map fun k => st [97 + k]
def holdsF (ss : List (List Str)) (hs : List Str) : Bool := ss.any fun side => side.all fun l => hs.contains l
def stepD (rs : List RuleD) (due : List Str) (i : Nat) : List Str := if (rs.filter fun r => !(heldOf i).contains r.1 && holdsF r.2.2 (heldOf i)).isEmpty then due.filter fun c => (heldOf i).contains c else due
def dueF (rs : List RuleD) : List Str := (List.range 16).foldl (stepD rs) abcd
theorem heldOf_len (i : Nat) : (heldOf i).length ≤ 4 := by
  unfold heldOf
  rw [List.length_map]
  exact Nat.le_trans (List.length_filter_le _ _) (by simp)
theorem fold_len (rs : List RuleD) : ∀ (l : List Nat) (d : List Str), (l.foldl (stepD rs) d).length ≤ d.length
  | [], _ => Nat.le_refl _
  | i :: l, d => by
    rw [List.foldl_cons]
    refine Nat.le_trans (fold_len rs l _) ?_
    unfold stepD
    split
    · exact List.length_filter_le _ _
    · exact Nat.le_refl _
theorem All2.isEmpty {α β : Type} {R : α → β → Prop} : ∀ {as : List α} {bs : List β}, All2 R as bs → as.isEmpty = bs.isEmpty
  | _, _, .nil => rfl
  | _, _, .cons _ _ => rfl
theorem due_keep {rs : List RuleD} {i : Nat} {ys : List Value} (h : All2 StrVal ys ((rs.filter fun r => !(heldOf i).contains r.1 && holdsF r.2.2 (heldOf i)).map fun r => r.1)) (e : ys.isEmpty = false) : (List.range (i + 1)).foldl (stepD rs) abcd = (List.range i).foldl (stepD rs) abcd := by
  have e' := h.isEmpty
  rw [e, List.isEmpty_map] at e'
  rw [List.range_succ, List.foldl_append]
  show stepD rs _ i = _
  unfold stepD
  rw [← e', if_neg Bool.false_ne_true]
theorem due_cut {rs : List RuleD} {i : Nat} {ys : List Value} (h : All2 StrVal ys ((rs.filter fun r => !(heldOf i).contains r.1 && holdsF r.2.2 (heldOf i)).map fun r => r.1)) (e : ys.isEmpty = true) : (List.range (i + 1)).foldl (stepD rs) abcd = ((List.range i).foldl (stepD rs) abcd).filter fun c => (heldOf i).contains c := by
  have e' := h.isEmpty
  rw [e, List.isEmpty_map] at e'
  rw [List.range_succ, List.foldl_append]
  show stepD rs _ i = _
  unfold stepD
  rw [← e', if_pos rfl]
theorem set_twice {n : Str} {a b : Option Value} {m : Str → Option Value} : (fun z => if z = n then a else if z = n then b else m z) = fun z => if z = n then a else m z := funext fun z => by split <;> rfl
theorem news_pick {h₀ h : Heap} {L : Addr} {x0 x1 x2 x3 x4 x5 x6 x7 : Addr × Obj} (N : News h₀ L h [x0, x1, x2, x3, x4, x5, x6, x7]) : News h₀ L h [x4, x0, x6, x7] := fun p hp => by
  refine N p ?_
  simp only [List.mem_cons, List.not_mem_nil, or_false] at hp ⊢
  rcases hp with h | h | h | h <;> simp [h]
theorem bit_eq (i k : Nat) : (((0 + (i : Int)).fdiv (2 ^ ((k : Nat) : Int).toNat)).fmod 2 == 1) = (i / 2 ^ k % 2 == 1) := by
  have e : ((0 + (i : Int)).fdiv (2 ^ ((k : Nat) : Int).toNat)).fmod 2 = ((i / 2 ^ k % 2 : Nat) : Int) := by
    rw [Int.zero_add, Int.toNat_natCast, Int.fdiv_eq_ediv_of_nonneg _ (Int.pow_nonneg (by decide)), Int.fmod_eq_emod_of_nonneg _ (by decide)]
    push_cast
    rfl
  rw [e, Bool.eq_iff_iff]
  simp only [beq_iff_eq]
  omega
end Mine
namespace Mine
abbrev Ps := List (Str × Str)
def isFound (ps : Ps) (x : Str) : Bool := (ps.find? fun p => low p.1 == low x).isSome
def getAll (T : Ps) (x : Str) : List Str := (T.filter fun p => low p.1 == low x).map (·.2)
def bothF (ask : Str → Ps → Bool × Ps) : List Str → Ps → Bool × Ps
  | [], ps => (true, ps)
  | l :: ls, ps => match ask l ps with
    | (true, ps') => bothF ask ls ps'
    | (false, ps') => (false, ps')
def sidesF (b : List Str → Ps → Bool × Ps) : List (List Str) → Ps → Bool × Ps
  | [], ps => (false, ps)
  | s :: ss, ps => match b s ps with
    | (true, ps') => (true, ps')
    | (false, ps') => sidesF b ss ps'
def putF (ps : Ps) (x y : Str) : Ps := if isFound ps x then ps else ps ++ [(x, y)]
def textsF (sd : Str → List (List Str)) (b : List Str → Ps → Bool × Ps) (x : Str) : List Str → Ps → Bool × Ps
  | [], ps => (false, ps)
  | t :: ts, ps => match sidesF b (sd t) ps with
    | (true, ps') => (true, putF ps' x t)
    | (false, ps') => textsF sd b x ts ps'
def askF (sd : Str → List (List Str)) (T : Ps) : Nat → Str → List Str → Ps → Bool × Ps
  | 0, x, _, ps => (isFound ps x, ps)
  | n + 1, x, above, ps => if isFound ps x then (true, ps) else if above.contains (low x) then (false, ps) else
      textsF sd (bothF fun l ps => askF sd T n l (above ++ [low x]) ps) x (getAll T x) ps
def miss (l : List Str) : Nat := (abcd.filter fun c => !l.contains c).length
theorem miss_add {l : List Str} {c : Str} (hc : c ∈ abcd) (hl : l.contains c = false) : miss (l ++ [c]) + 1 ≤ miss l := by
  have ab : st [97] ≠ st [98] ∧ st [97] ≠ st [99] ∧ st [97] ≠ st [100] ∧ st [98] ≠ st [99] ∧ st [98] ≠ st [100] ∧ st [99] ≠ st [100] := by decide +kernel
  have hx : ∀ d : Str, (l ++ [c]).contains d = (l.contains d || d == c) := by
    intro d; rw [Bool.eq_iff_iff]; simp
  obtain ⟨h1, h2, h3, h4, h5, h6⟩ := ab
  unfold miss abcd
  simp only [List.filter_cons, List.filter_nil, hx]
  have hc' : c = st [97] ∨ c = st [98] ∨ c = st [99] ∨ c = st [100] := by simpa [abcd] using hc
  rcases hc' with rfl | rfl | rfl | rfl
  all_goals simp only [hl, beq_self_eq_true, Bool.or_true, Bool.not_true, Bool.false_eq_true, if_false, Bool.or_false, Bool.not_false, if_true,
    beq_eq_false_iff_ne.mpr h1, beq_eq_false_iff_ne.mpr h2, beq_eq_false_iff_ne.mpr h3, beq_eq_false_iff_ne.mpr h4, beq_eq_false_iff_ne.mpr h5, beq_eq_false_iff_ne.mpr h6,
    beq_eq_false_iff_ne.mpr h1.symm, beq_eq_false_iff_ne.mpr h2.symm, beq_eq_false_iff_ne.mpr h3.symm, beq_eq_false_iff_ne.mpr h4.symm, beq_eq_false_iff_ne.mpr h5.symm, beq_eq_false_iff_ne.mpr h6.symm]
  all_goals (repeat' split) <;> simp
theorem miss_zero {l : List Str} (h : miss l = 0) {c : Str} (hc : c ∈ abcd) : l.contains c = true := by
  have := List.length_eq_zero_iff.mp h
  have h2 := List.filter_eq_nil_iff.mp this c hc
  simpa using h2
end Mine
namespace Mine
def TupObj (o : Obj) (its : Array Value) : Prop := o.cls = .type "tuple" ∧ ∃ n, o.data = .seq its n
/-- A pair that lies in the base or in the ledger. -/
def PairIn (B : Heap) (pls : List (Addr × Obj)) (v : Value) (p : Str × Str) : Prop := ∃ a t u, v = .ref a ∧ (B.IsTuple a #[.str p.1 t, .str p.2 u] ∨ ∃ o, (a, o) ∈ pls ∧ TupObj o #[.str p.1 t, .str p.2 u])
theorem PairIn.mono {B : Heap} {pls pls' : List (Addr × Obj)} (h : ∀ p ∈ pls, p ∈ pls') {v : Value} {p : Str × Str} (x : PairIn B pls v p) : PairIn B pls' v p := by
  obtain ⟨a, t, u, e, x⟩ := x
  refine ⟨a, t, u, e, x.imp id fun ⟨o, m, q⟩ => ⟨o, h _ m, q⟩⟩
theorem PairIn.val {B h : Heap} {L : Addr} {m : Str → Option Value} {pls news : List (Addr × Obj)} (F : Fr B L h m) (N : News B L h news) (hs : ∀ p ∈ pls, p ∈ news) {v : Value} {p : Str × Str} (x : PairIn B pls v p) : PairVal h v p := by
  obtain ⟨a, t, u, e, x⟩ := x
  refine ⟨a, t, u, e, ?_⟩
  rcases x with x | ⟨o, hm, q⟩
  · exact isTuple_le F.keep x
  · exact ⟨o, (N _ (hs _ hm)).1, q⟩
theorem PairVal.inB {B : Heap} {v : Value} {p : Str × Str} (x : PairVal B v p) : PairIn B [] v p := let ⟨a, t, u, e, x⟩ := x; ⟨a, t, u, e, .inl x⟩
theorem pairs_split {B h : Heap} {L : Addr} {m : Str → Option Value} (F : Fr B L h m) : ∀ {vs : List Value} {ps : Ps}, All2 (PairVal h) vs ps → ∃ pls, News B L h pls ∧ (∀ p ∈ pls, ∃ its, TupObj p.2 its) ∧ All2 (PairIn B pls) vs ps
  | _, _, .nil => ⟨[], News.nil, (fun _ h => nomatch h), .nil⟩
  | _, _, .cons h r => by
    obtain ⟨pls, N, ht, hr⟩ := pairs_split F r
    obtain ⟨a, t, u, e, o, ho, hc, hd⟩ := h
    cases q : B.get? a with
    | some o' =>
      have : o' = o := Option.some.inj ((F.keep _ _ q).symm.trans ho)
      subst this
      exact ⟨pls, N, ht, .cons ⟨a, t, u, e, .inl ⟨_, q, hc, hd⟩⟩ hr⟩
    | none =>
      refine ⟨(a, o) :: pls, fun p hp => ?_, fun p hp => ?_, .cons ⟨a, t, u, e, .inr ⟨o, .head _, hc, hd⟩⟩ (hr.mono fun _ _ x => x.mono fun _ m => .tail _ m)⟩
      · rcases List.mem_cons.mp hp with rfl | hp
        · refine ⟨ho, fun qL => ?_, q⟩
          obtain ⟨oL, es, ep, eL, hdL, _⟩ := F.ns
          have qL' : a = L := qL
          rw [qL', eL] at ho
          cases ho
          obtain ⟨n, hd⟩ := hd
          rw [hdL] at hd
          cases hd
        · exact N p hp
      · rcases List.mem_cons.mp hp with rfl | hp
        · exact ⟨_, hc, hd⟩
        · exact ht p hp
theorem tup_ne {h : Heap} {l : Addr} {vs : Array Value} {n : Nat} (hl : h.get? l = some (W.listOf vs n)) {p : Addr × Obj} (e : h.get? p.1 = some p.2) (t : ∃ its, TupObj p.2 its) : p.1 ≠ l := fun q => by
  obtain ⟨its, hc, _⟩ := t
  rw [q, hl] at e
  have := Option.some.inj e
  rw [← this] at hc
  exact absurd hc (by simp)
theorem news_more {h₀ h h' : Heap} {L : Addr} {m : Str → Option Value} {news olds : List (Addr × Obj)} (F : Fr h₀ L h m) (N : News h₀ L h news) (hle : Le h h') (ho : ∀ p ∈ olds, h'.get? p.1 = some p.2 ∧ h.get? p.1 = none) : News h₀ L h' (news ++ olds) := fun p hp => by
  rcases List.mem_append.mp hp with hp | hp
  · exact ⟨hle _ _ (N p hp).1, (N p hp).2⟩
  · refine ⟨(ho p hp).1, fun q => ?_, ?_⟩
    · obtain ⟨oL, es, ep, eL, _⟩ := F.ns
      have := (ho p hp).2
      rw [q, eL] at this; cases this
    · cases q : h₀.get? p.1 with
      | none => rfl
      | some o => have := (ho p hp).2; rw [F.keep _ _ q] at this; cases this
theorem fr_leB {B h h' : Heap} {L l : Addr} {m : Str → Option Value} (F : Fr B L h m) (x : LeB l h h') (hl : B.get? l = none) (hL : L ≠ l) : Fr B L h' m :=
  ⟨F.ns.at' fun o e => x _ o hL e, fun b o e => x b o (fun q => by rw [q, hl] at e; cases e) (F.keep b o e), F.above⟩
theorem news_leB {B h h' : Heap} {L l : Addr} {news : List (Addr × Obj)} (N : News B L h news) (x : LeB l h h') (hne : ∀ p ∈ news, p.1 ≠ l) : News B L h' news := fun p hp => ⟨x _ _ (hne p hp) (N p hp).1, (N p hp).2⟩
end Mine
namespace Mine
abbrev CallD := Int × Str × Str × List (List Str)
def CallVal (h : Heap) (v : Value) (c : CallD) : Prop := ∃ a t u x b, v = .ref a ∧ h.IsTuple a #[.int c.1 t, .str c.2.1 u, .str c.2.2.1 x, .ref b] ∧ SidesAt h b c.2.2.2
theorem CallVal.le {h h' : Heap} (l : Le h h') {v : Value} {r : CallD} (y : CallVal h v r) : CallVal h' v r := let ⟨a, t, u, x, b, e, q, z⟩ := y; ⟨a, t, u, x, b, e, isTuple_le l q, z.le l⟩
def CallsAt (h : Heap) (a : Addr) (cs : List CallD) : Prop := ∃ vs : List Value, h.IsList a vs.toArray ∧ All2 (CallVal h) vs cs ∧ cs.length ≤ 64
theorem CallsAt.le {h h' : Heap} (l : Le h h') {a : Addr} {x : List CallD} (y : CallsAt h a x) : CallsAt h' a x := let ⟨vs, e, r⟩ := y; ⟨vs, isList_le l e, r.1.mono fun _ _ q => q.le l, r.2⟩
def CallOk (c : CallD) : Prop := (c.1 = 0 ∨ c.1 = 1 ∨ c.1 = 2 ∨ c.1 = 3) ∧ c.2.1 ∈ heads ∧ c.2.2.1 ∈ texts
def stepR (rs : List RuleD) (c : CallD) : List RuleD :=
  if c.1 = 0 ∨ c.1 = 2 ∨ (c.1 = 1 ∧ (rs.filter fun r => r.1 == low c.2.1).isEmpty = true) then (if 1 < c.1 then rs.filter fun r => r.1 != low c.2.1 else rs) ++ [(low c.2.1, c.2.2.1, c.2.2.2)]
  else if 1 < c.1 then rs.filter fun r => r.1 != low c.2.1 else rs
def rulesF (cs : List CallD) : List RuleD := cs.foldl stepR []
theorem stepR0 (rs : List RuleD) (h t : Str) (sd : List (List Str)) : stepR rs (0, h, t, sd) = rs ++ [(low h, t, sd)] := by simp [stepR]
theorem stepR1a (rs : List RuleD) (h t : Str) (sd : List (List Str)) (e : (rs.filter fun r => r.1 == low h).isEmpty = true) : stepR rs (1, h, t, sd) = rs ++ [(low h, t, sd)] := by
  unfold stepR
  rw [if_pos (.inr (.inr ⟨rfl, e⟩))]
  rfl
theorem stepR1b (rs : List RuleD) (h t : Str) (sd : List (List Str)) (e : (rs.filter fun r => r.1 == low h).isEmpty = false) : stepR rs (1, h, t, sd) = rs := by
  unfold stepR
  rw [if_neg (fun q => by
    rcases q with q | q | q
    · exact absurd (show (1 : Int) = 0 from q) (by decide)
    · exact absurd (show (1 : Int) = 2 from q) (by decide)
    · have := q.2; rw [e] at this; cases this)]
  rfl
theorem stepR2 (rs : List RuleD) (h t : Str) (sd : List (List Str)) : stepR rs (2, h, t, sd) = (rs.filter fun r => r.1 != low h) ++ [(low h, t, sd)] := by simp [stepR]
theorem stepR3 (rs : List RuleD) (h t : Str) (sd : List (List Str)) : stepR rs (3, h, t, sd) = rs.filter fun r => r.1 != low h := by simp [stepR]
theorem stepR_len (rs : List RuleD) (c : CallD) : (stepR rs c).length ≤ rs.length + 1 := by
  have := List.length_filter_le (fun r : RuleD => r.1 != low c.2.1) rs
  unfold stepR
  split
  · rw [List.length_append, List.length_singleton]
    split <;> omega
  · split <;> omega
theorem foldR_len : ∀ (cs : List CallD) (rs : List RuleD), (cs.foldl stepR rs).length ≤ rs.length + cs.length
  | [], rs => Nat.le_refl _
  | c :: cs, rs => by
    rw [List.foldl_cons, List.length_cons]
    have := foldR_len cs (stepR rs c)
    have := stepR_len rs c
    omega
theorem fold_at {α β : Type} {f : α → β → α} {a : α} {cs : List β} {i : Nat} {c : β} (h : cs[i]? = some c) : (cs.take (i + 1)).foldl f a = f ((cs.take i).foldl f a) c := by
  rw [take_step h, List.foldl_append]; rfl
def RuleIn (B : Heap) (olds : List (Addr × Obj)) (v : Value) (r : RuleD) : Prop := ∃ a t u b o, v = .ref a ∧ (a, o) ∈ olds ∧ TupObj o #[.str r.1 t, .str r.2.1 u, .ref b] ∧ SidesAt B b r.2.2
theorem RuleIn.mono {B : Heap} {olds olds' : List (Addr × Obj)} (h : ∀ p ∈ olds, p ∈ olds') {v : Value} {r : RuleD} (x : RuleIn B olds v r) : RuleIn B olds' v r := let ⟨a, t, u, b, o, e, m, q⟩ := x; ⟨a, t, u, b, o, e, h _ m, q⟩
theorem RuleIn.val {B h : Heap} {L : Addr} {m : Str → Option Value} {olds news : List (Addr × Obj)} (F : Fr B L h m) (N : News B L h news) (hs : ∀ p ∈ olds, p ∈ news) {v : Value} {r : RuleD} (x : RuleIn B olds v r) : RuleVal h v r := by
  obtain ⟨a, t, u, b, o, e, m, q, z⟩ := x
  exact ⟨a, t, u, b, e, ⟨o, (N _ (hs _ m)).1, q⟩, z.le F.keep⟩
theorem allLt_memC {d : Nat} {l : List (Addr × Obj)} : AllLt d l → ∀ p ∈ l, @LT.lt Nat _ p.1 d := by
  induction l with
  | nil => intro _ p hp; cases hp
  | cons q r ih =>
    intro h p hp
    rcases List.mem_cons.mp hp with rfl | hp
    · exact h.1
    · exact ih h.2 p hp
theorem news_pickR {h₀ h : Heap} {L : Addr} {x0 x1 x2 x3 x4 x5 : Addr × Obj} {olds : List (Addr × Obj)} (N : News h₀ L h (x0 :: x1 :: x2 :: x3 :: x4 :: x5 :: olds)) : News h₀ L h (x3 :: x4 :: x5 :: x0 :: olds) := fun p hp => by
  refine N p ?_
  simp only [List.mem_cons] at hp ⊢
  rcases hp with h | h | h | h | h <;> simp [h]
theorem news_pickS {h₀ h : Heap} {L : Addr} {x0 x1 x2 x3 x4 x5 x6 : Addr × Obj} {olds : List (Addr × Obj)} (N : News h₀ L h (x0 :: x1 :: x2 :: x3 :: x4 :: x5 :: x6 :: olds)) : News h₀ L h (x4 :: x1 :: x6 :: x0 :: olds) := fun p hp => by
  refine N p ?_
  simp only [List.mem_cons] at hp ⊢
  rcases hp with h | h | h | h | h <;> simp [h]
theorem news_pickT {h₀ h : Heap} {L : Addr} {x0 x1 x2 x3 x4 x5 : Addr × Obj} {olds : List (Addr × Obj)} (N : News h₀ L h (x0 :: x1 :: x2 :: x3 :: x4 :: x5 :: olds)) : News h₀ L h (x3 :: x0 :: x5 :: olds) := fun p hp => by
  refine N p ?_
  simp only [List.mem_cons] at hp ⊢
  rcases hp with h | h | h | h <;> simp [h]
theorem rules_end {z n : Str} {d d' base e : Option Value} (h : e = if z = n then d else base) : (if z = n then d' else e) = if z = n then d' else base := by
  split
  · rfl
  · rename_i q
    rw [h, if_neg q]
theorem off3 {I D C T : Addr} {olds : List (Addr × Obj)} (h1 : @Ne Nat D I) (h2 : @Ne Nat C I) (h3 : @Ne Nat T I) (ho : ∀ p ∈ olds, p.1 ≠ I) {o1 o2 o3 : Obj} : ∀ p ∈ (D, o1) :: (C, o2) :: (T, o3) :: olds, p.1 ≠ I := fun p hp => by
  simp only [List.mem_cons] at hp
  rcases hp with rfl | rfl | rfl | hp
  · exact h1
  · exact h2
  · exact h3
  · exact ho p hp
theorem off2 {I D C : Addr} {olds : List (Addr × Obj)} (h1 : @Ne Nat D I) (h2 : @Ne Nat C I) (ho : ∀ p ∈ olds, p.1 ≠ I) {o1 o2 : Obj} : ∀ p ∈ (D, o1) :: (C, o2) :: olds, p.1 ≠ I := fun p hp => by
  simp only [List.mem_cons] at hp
  rcases hp with rfl | rfl | hp
  · exact h1
  · exact h2
  · exact ho p hp
theorem off1 {I T : Addr} {olds : List (Addr × Obj)} (h1 : @Ne Nat T I) (ho : ∀ p ∈ olds, p.1 ≠ I) {o1 : Obj} : ∀ p ∈ (T, o1) :: olds, p.1 ≠ I := fun p hp => by
  simp only [List.mem_cons] at hp
  rcases hp with rfl | hp
  · exact h1
  · exact ho p hp
end Mine
namespace Mine
local macro_rules | `(tactic| walk_at "eval ListComp") => `(tactic| refine halt ?_)
local macro_rules | `(tactic| walk_at "exec Assign cons ListComp") => `(tactic| refine halt ?_)
local macro_rules | `(tactic| walk_at "exec For") => `(tactic| refine halt ?_)
local macro_rules | `(tactic| walk_at "exec For Name Call cons nil") => `(tactic| refine halt ?_)
local macro_rules | `(tactic| walk_at "pyIter ref") => `(tactic| refine halt ?_)
local macro_rules | `(tactic| walk_at "pyIter str") => `(tactic| refine halt ?_)
local macro_rules | `(tactic| walk_at "compareOp Eq ref ref") => `(tactic| refine halt ?_)
local macro_rules | `(tactic| walk_at "compareOp NotEq ref ref") => `(tactic| refine halt ?_)
local macro_rules | `(tactic| walk_at "compareOp In str ref") => `(tactic| refine halt ?_)
local macro_rules | `(tactic| walk_at "compareOp NotIn str ref") => `(tactic| refine halt ?_)
local macro_rules | `(tactic| walk_at "call ref") => `(tactic| refine halt ?_)
local macro_rules | `(tactic| walk_at "call ref") => `(tactic| ((with_unfolding_all (refine conv_call (Stat.le (by assumption) (Fr.keep (by k_asm))) (Room.mono (by assumption) (by decide)) (by first | exact .inl ⟨rfl, by assumption⟩ | exact .inr ⟨rfl, by assumption⟩) ?_)); intro h' tk' hle'; walk_at "grown"))
local macro_rules | `(tactic| walk_at "grown") => `(tactic| ((rename Fr _ _ _ _ => kF); (rename News _ _ _ _ => kN); (rename Le _ _ => hle); k_dflt (replace kF := Fr.keeps kF hle; replace kN := News.grown kN hle; clear hle)))
local macro_rules | `(tactic| walk_at "call builtin:str.lower") => `(tactic| k_dflt (refine lower_call (by assumption) ?_))
local macro_rules | `(tactic| walk_at "call builtin:str.upper") => `(tactic| k_dflt (refine upper_call (by assumption) ?_))
local macro_rules | `(tactic| walk_at "setItem ref ref") => `(tactic| refine halt ?_)
local macro_rules | `(tactic| walk_at "eval Slice") => `(tactic| refine halt ?_)
local macro_rules | `(tactic| walk_at "delItem ref") => `(tactic| (k_dflt (refine' del_item ?F ?X ?I ?hQ ?hS ?hF ?_; (case F => k_asm); (case X => k_asm); (case I => k_inst); (case hS => k_is); (case hF => k_is); (case hQ => k_is))))
local macro_rules | `(tactic| walk_at "At") => `(tactic| exact ⟨_, _, _, rfl, by assumption, by assumption⟩)
local macro_rules | `(tactic| walk_at "StrVal") => `(tactic| exact ⟨_, rfl⟩)
local macro_rules | `(tactic| walk_at "eval Name") => `(tactic| ((with_reducible show wpAny _ _ (eval (Expr.Name _ _) (compEnvC _ _ _ _)) _ _ _); k_dflt (first
  | (refine' cn_local ?F ?v ?_ ?a ?b; (case F => k_asm); (case a => rfl); (case b => rfl); (case v => rfl); k_whole)
  | (refine' cn_cell ?F ?c ?v ?_ ?a ?b; (case a => rfl); (case b => rfl); (case F => k_asm); (case v => rfl); (case c => assumption); k_whole)
  | (refine' cn_global ?F ?X ?T ?e ?_ ?g ?a ?b; (case a => rfl); (case b => rfl); (case g => rfl); (case F => k_asm); (case X => k_asm); (case T => k_asm); (case e => k_is); k_whole))))
local macro_rules | `(tactic| walk_at "fn sides") => `(tactic| (
  (case o => k_dflt k_is)
  (case c => k_dflt k_is)
  (case b => first | exact BindsTo.of_eq rfl | exact binds_K (by assumption) rfl (by k_is) rfl rfl rfl)
  (case k => rfl)
  (case n => decide)
  (case hm => exact fun _ => rfl)
  (case c1 => rfl)
  (case c2 => rfl)
  (case c3 => rfl)))
local macro_rules | `(tactic| k_inst) => `(tactic| exact TableAt.inst (by k_asm) (by assumption))
local macro_rules | `(tactic| walk_at "subscriptTail Name Constant ref int") => `(tactic| (refine' tup_item ?F ?t ?a ?b ?c ?d ?_ ?e; (case F => k_asm); (case t => assumption); (case a => decide); (case b => decide); (case c => rfl); (case d => rfl); (case e => with_unfolding_all rfl)))
def GotVal (ps : List (Str × Str)) (x : Str) (v : Value) : Prop := match ps.find? fun p => low p.1 == low x with
  | some p => StrVal v p.2
  | none => v = .none
theorem find_at {α : Type} {q : α → Bool} {l : List α} {i : Nat} {a : α} (hn : (l.take i).find? q = none) (ha : l[i]? = some a) (hq : q a = true) : l.find? q = some a := by
  have e : l = l.take i ++ a :: l.drop (i + 1) := by
    have h9 := List.take_append_drop (i + 1) l
    rw [take_step ha, List.append_assoc] at h9
    exact h9.symm
  rw [e, List.find?_append, hn, Option.none_or, List.find?_cons, hq]
theorem find_step {α : Type} {q : α → Bool} {l : List α} {i : Nat} {a : α} (hn : (l.take i).find? q = none) (ha : l[i]? = some a) (hq : q a = false) : (l.take (i + 1)).find? q = none := by
  rw [take_step ha, List.find?_append, hn, Option.none_or, List.find?_cons, hq]; rfl
set_option maxHeartbeats 4000000 in
theorem get_call {w : World} {A : Around} {s : Shared} {Q E : Value → Shared → Prop} {mean : ExcName → Option Value} {mg mb : Str → Option Value}
    (S : Stat w mean mg mb s.heap) (R : Room A 4) {t dx l : Addr} {hh : Int} {tk' : Tok} {ps : List (Str × Str)} (hT : TableAt s.heap t dx l hh tk') (hH : HdrsAt s.heap l ps) (hN : ∀ p ∈ ps, p.1 ∈ heads) {x : Str} {u : Tok} (hx : x ∈ heads)
    (ret : ∀ v h' tk, Le s.heap h' → GotVal ps x v → Q v { s with heap := h', toks := tk }) :
    wpAny (model PySem.Challenge.rw_pe0251_01.row.prog w) A (call (.ref 122) [.ref t, .str x u]) Q E s := by
  have X : (headK w.params).In s.heap := S.k
  revert X
  k_fill
  intro X
  have T := topRead_of S.t
  refine' enter0 (args := ⟨[.ref t, .str x u], []⟩) (binds := [(Str.ofString "self", .ref t), (Str.ofString "name", .str x u), (Str.ofString "default", .none)]) (setAll [Str.ofString "self", Str.ofString "name", Str.ofString "default"] [.ref t, .str x u, .none] fun _ => none) S R ?o ?c ?b ?k ?n ?hm ?_ ?c1 ?c2 ?c3
  walk_at "fn sides"
  intro L h₁ tk cells A R F N Y
  cases Y
  have hA := R.hh
  have hU := R.un
  have hlx := abcd_mem (low_abcd hx)
  k_steps
  refine wpAny_For ?_
  k_steps
  rename Fr _ _ _ _ => F₂
  rename News _ _ _ _ => N₂
  obtain ⟨vs, hvs, hall, hlen⟩ := hH.list
  generalize hm₀ : (fun y => if y = Str.ofString "name" then some (Value.str (low x) _) else _) = m₀ at F₂
  refine for_iter (iter_list hA (isList_le F₂.keep hvs)) (fun i m nx => nx = [] ∧ (∀ z, z ∉ [Str.ofString "k", Str.ofString "v"] → m z = m₀ z) ∧ (ps.take i).find? (fun p => low p.1 == low x) = none) F₂ N₂ ⟨rfl, fun _ _ => rfl, rfl⟩ ?_ ?_ ?_
  · rintro i m nx h ⟨rfl, _⟩ F' _
    exact isList_le F'.keep hvs
  · rintro i v m nx h tk I oI E' hv ⟨rfl, hm, hno⟩ F' N' hoff
    subst hm₀
    obtain ⟨p, hp, a, t1, t2, rfl, htup⟩ := hall.get (by simpa using hv)
    have hpx := hN p (List.mem_of_getElem? hp)
    refine assign_tup [(Str.ofString "k", _), (Str.ofString "v", _)] hA (fr_over F' hm) N' (isTuple_le F'.keep htup) rfl rfl rfl rfl rfl rfl fun h₂ tk₂ F₃ N₃ => ?_
    clear F' N' F₂ N₂
    k_steps
    · refine ret _ _ _ (Fr.keep (by assumption)) ?_
      unfold GotVal
      rw [find_at hno hp (by assumption)]
      exact ⟨_, rfl⟩
    · exact ⟨_, _, _, [], rfl, F₃, N₃, fun _ hp => (nomatch hp), rfl, fun z hz => (setAll_ne hz).trans (over_ne hz), find_step hno hp (by assumption)⟩
  · rintro m nx h tk ⟨rfl, hm, hno⟩ F' N'
    subst hm₀
    replace F' := fr_over F' hm
    clear F₂ N₂
    k_steps
    refine ret _ _ _ (Fr.keep (by assumption)) ?_
    rw [List.size_toArray, hall.length, List.take_length] at hno
    unfold GotVal
    rw [hno]
end Mine
namespace Mine
local macro_rules | `(tactic| walk_at "eval ListComp") => `(tactic| refine halt ?_)
local macro_rules | `(tactic| walk_at "exec Assign cons ListComp") => `(tactic| refine halt ?_)
local macro_rules | `(tactic| walk_at "exec For") => `(tactic| refine halt ?_)
local macro_rules | `(tactic| walk_at "exec For Name Call cons nil") => `(tactic| refine halt ?_)
local macro_rules | `(tactic| walk_at "pyIter ref") => `(tactic| refine halt ?_)
local macro_rules | `(tactic| walk_at "pyIter str") => `(tactic| refine halt ?_)
local macro_rules | `(tactic| walk_at "compareOp Eq ref ref") => `(tactic| refine halt ?_)
local macro_rules | `(tactic| walk_at "compareOp NotEq ref ref") => `(tactic| refine halt ?_)
local macro_rules | `(tactic| walk_at "compareOp In str ref") => `(tactic| refine halt ?_)
local macro_rules | `(tactic| walk_at "compareOp NotIn str ref") => `(tactic| refine halt ?_)
local macro_rules | `(tactic| walk_at "call ref") => `(tactic| refine halt ?_)
local macro_rules | `(tactic| walk_at "call ref") => `(tactic| ((with_unfolding_all (refine conv_call (Stat.le (by assumption) (Fr.keep (by k_asm))) (Room.mono (by assumption) (by decide)) (by first | exact .inl ⟨rfl, by assumption⟩ | exact .inr ⟨rfl, by assumption⟩) ?_)); intro h' tk' hle'; walk_at "grown"))
local macro_rules | `(tactic| walk_at "grown") => `(tactic| ((rename Fr _ _ _ _ => kF); (rename News _ _ _ _ => kN); (rename Le _ _ => hle); k_dflt (replace kF := Fr.keeps kF hle; replace kN := News.grown kN hle; clear hle)))
local macro_rules | `(tactic| walk_at "call builtin:str.lower") => `(tactic| k_dflt (refine lower_call (by assumption) ?_))
local macro_rules | `(tactic| walk_at "call builtin:str.upper") => `(tactic| k_dflt (refine upper_call (by assumption) ?_))
local macro_rules | `(tactic| walk_at "setItem ref ref") => `(tactic| refine halt ?_)
local macro_rules | `(tactic| walk_at "eval Slice") => `(tactic| refine halt ?_)
local macro_rules | `(tactic| walk_at "delItem ref") => `(tactic| (k_dflt (refine' del_item ?F ?X ?I ?hQ ?hS ?hF ?_; (case F => k_asm); (case X => k_asm); (case I => k_inst); (case hS => k_is); (case hF => k_is); (case hQ => k_is))))
local macro_rules | `(tactic| walk_at "At") => `(tactic| exact ⟨_, _, _, rfl, by assumption, by assumption⟩)
local macro_rules | `(tactic| walk_at "StrVal") => `(tactic| exact ⟨_, rfl⟩)
local macro_rules | `(tactic| walk_at "eval Name") => `(tactic| ((with_reducible show wpAny _ _ (eval (Expr.Name _ _) (compEnvC _ _ _ _)) _ _ _); k_dflt (first
  | (refine' cn_local ?F ?v ?_ ?a ?b; (case F => k_asm); (case a => rfl); (case b => rfl); (case v => rfl); k_whole)
  | (refine' cn_cell ?F ?c ?v ?_ ?a ?b; (case a => rfl); (case b => rfl); (case F => k_asm); (case v => rfl); (case c => assumption); k_whole)
  | (refine' cn_global ?F ?X ?T ?e ?_ ?g ?a ?b; (case a => rfl); (case b => rfl); (case g => rfl); (case F => k_asm); (case X => k_asm); (case T => k_asm); (case e => k_is); k_whole))))
local macro_rules | `(tactic| walk_at "fn sides") => `(tactic| (
  (case o => k_dflt k_is)
  (case c => k_dflt k_is)
  (case b => first | exact BindsTo.of_eq rfl | exact binds_K (by assumption) rfl (by k_is) rfl rfl rfl)
  (case k => rfl)
  (case n => decide)
  (case hm => exact fun _ => rfl)
  (case c1 => rfl)
  (case c2 => rfl)
  (case c3 => rfl)))
local macro_rules | `(tactic| k_inst) => `(tactic| exact TableAt.inst (by k_asm) (by assumption))
local macro_rules | `(tactic| walk_at "subscriptTail Name Constant ref int") => `(tactic| (refine' tup_item ?F ?t ?a ?b ?c ?d ?_ ?e; (case F => k_asm); (case t => assumption); (case a => decide); (case b => decide); (case c => rfl); (case d => rfl); (case e => with_unfolding_all rfl)))
def isHead (x : Str) (p : Str × Str) : Bool := low p.1 == low x
def setDef (ps : List (Str × Str)) (x y : Str) : List (Str × Str) := if (ps.find? fun p => low p.1 == low x).isSome then ps else ps ++ [(x, y)]
set_option maxHeartbeats 4000000 in
theorem setdef_call {w : World} {A : Around} {s : Shared} {Q E : Value → Shared → Prop} {mean : ExcName → Option Value} {mg mb : Str → Option Value} {g : Heap}
    {t dx l : Addr} {hh : Int} {tk' : Tok} {ps : List (Str × Str)} (S : Stat w mean mg mb g) (hg : Le g s.heap) (hl : g.get? l = none) (R : Room A 6) (hT : TableAt s.heap t dx l hh tk') (hH : HdrsAt s.heap l ps) (hN : ∀ p ∈ ps, p.1 ∈ heads) (hps : ps.length < 4096) {x y : Str} {u z : Tok} (hx : x ∈ heads) (hy : y ∈ texts)
    (ret : ∀ v h' tk, LeB l s.heap h' → HdrsAt h' l (setDef ps x y) → Q v { s with heap := h', toks := tk }) :
    wpAny (model PySem.Challenge.rw_pe0251_01.row.prog w) A (call (.ref 165) [.ref t, .str x u, .str y z]) Q E s := by
  have X : (headK w.params).In g := S.k
  revert X
  k_fill
  intro X
  obtain ⟨vs, n, hol, hall, hlen⟩ := hH
  refine' enterW (args := ⟨[.ref t, .str x u, .str y z], []⟩) (binds := [(Str.ofString "self", .ref t), (Str.ofString "name", .str x u), (Str.ofString "value", .str y z)]) (setAll [Str.ofString "self", Str.ofString "name", Str.ofString "value"] [.ref t, .str x u, .str y z] fun _ => none) S hg hl hol R ?o ?c ?b ?k ?n ?hm ?_ ?c1 ?c2 ?c3
  walk_at "fn sides"
  intro L h₁ tk cells A B R hgB hsB hBs hBl F N hlL Y
  cases Y
  replace S := S.le hgB
  replace X := S.k
  have T := topRead_of S.t
  replace hT := hT.leB hol hsB
  replace hall := hall.mono fun _ _ q => PairVal.leB hol hsB q
  have hA := R.hh
  have hU := R.un
  simp only [List.nil_append] at N
  k_steps
  refine unhalt ?_
  refine get_call (by exact S.le F.keep) (R.mono (by decide)) (by exact hT.le F.keep) (by exact ⟨vs, n, (N _ (.head _)).1, hall.mono fun _ _ q => q.le F.keep, hlen⟩) hN hx fun v h₂ tk₂ hle hgot => ?_
  replace F := F.keeps hle
  replace N := N.grown hle
  have hvl : vs.length < 4096 := by rw [hall.length]; exact hps
  clear hle
  unfold GotVal at hgot
  unfold setDef at ret
  cases hf : ps.find? fun p => low p.1 == low x with
  | some p =>
    rw [hf] at hgot ret
    obtain ⟨t3, rfl⟩ := hgot
    k_steps
    rename Fr _ _ _ _ => F₂
    rename News _ _ _ _ => N₂
    exact ret _ _ _ (leB_end hsB F₂) ⟨vs, n, (N₂ _ (.head _)).1, hall.mono fun _ _ q => q.le F₂.keep, hlen⟩
  | none =>
    rw [hf] at hgot ret
    subst hgot
    k_steps
    rename Fr _ _ _ _ => F₂
    rename News _ _ _ _ => N₂
    have hT2 := (N₂ _ (.head _)).1
    have hL2 := (N₂ _ (.tail _ (.head _))).1
    rw [push_list] at hL2
    exact ret _ _ _ (leB_end hsB F₂) ⟨_, _, hL2, (hall.mono fun _ _ q => q.le F₂.keep).snoc (b := (x, y)) ⟨_, _, _, rfl, _, hT2, rfl, _, rfl⟩, by simp; omega⟩
end Mine
namespace Mine
def stepT (T : Ps) (c : CallD) : Ps :=
  if c.1 = 0 then T ++ [(c.2.1, c.2.2.1)] else if c.1 = 1 then setDef T c.2.1 c.2.2.1 else if c.1 = 2 then (T.filter fun p => low p.1 != low c.2.1) ++ [(c.2.1, c.2.2.1)] else T.filter fun p => low p.1 != low c.2.1
def tableF (cs : List CallD) : Ps := cs.foldl stepT []
theorem stepT_len (T : Ps) (c : CallD) : (stepT T c).length ≤ T.length + 1 := by
  have := List.length_filter_le (fun p : Str × Str => low p.1 != low c.2.1) T
  unfold stepT setDef
  repeat' split
  all_goals (try simp only [List.length_append, List.length_singleton])
  all_goals omega
theorem foldT_len : ∀ (cs : List CallD) (T : Ps), (cs.foldl stepT T).length ≤ T.length + cs.length
  | [], T => Nat.le_refl _
  | c :: cs, T => by
    rw [List.foldl_cons, List.length_cons]
    have := foldT_len cs (stepT T c)
    have := stepT_len T c
    omega
def PsOk (T : Ps) : Prop := ∀ p ∈ T, p.1 ∈ heads ∧ p.2 ∈ texts
theorem stepT_ok {T : Ps} {c : CallD} (h : PsOk T) (hc : CallOk c) : PsOk (stepT T c) := by
  have ha : ∀ T' : Ps, PsOk T' → PsOk (T' ++ [(c.2.1, c.2.2.1)]) := fun T' h' p hp => by
    rcases List.mem_append.mp hp with hp | hp
    · exact h' p hp
    · cases List.mem_singleton.mp hp; exact hc.2
  have hf : PsOk (T.filter fun p => low p.1 != low c.2.1) := fun p hp => h p (List.mem_filter.mp hp).1
  unfold stepT setDef
  repeat' split
  · exact ha _ h
  · exact h
  · exact ha _ h
  · exact ha _ hf
  · exact hf
theorem foldT_ok : ∀ (cs : List CallD) {T : Ps}, PsOk T → (∀ c ∈ cs, CallOk c) → PsOk (cs.foldl stepT T)
  | [], _, h, _ => h
  | c :: cs, _, h, hc => by
    rw [List.foldl_cons]
    exact foldT_ok cs (stepT_ok h (hc c (.head _))) fun d hd => hc d (.tail _ hd)
def PairsT (B : Heap) (l : Addr) (ps : Ps) (nx : List (Addr × Obj)) : Prop := ∃ vs n pls, nx = (l, W.listOf vs.toArray n) :: pls ∧ (∀ p ∈ pls, ∃ its, TupObj p.2 its) ∧ All2 (PairIn B pls) vs ps
theorem PairsT.hdrs {B h : Heap} {L l : Addr} {m : Str → Option Value} {ps : Ps} {nx news : List (Addr × Obj)} (hP : PairsT B l ps nx) (hl : ps.length ≤ 4096) (F : Fr B L h m) (N : News B L h news) (hs : ∀ p ∈ nx, p ∈ news) : HdrsAt h l ps := by
  obtain ⟨vs, n, pls, rfl, ht, ha⟩ := hP
  exact ⟨vs, n, (N _ (hs _ (.head _))).1, ha.mono fun _ _ q => q.val F N fun p hp => hs p (.tail _ hp), hl⟩
theorem PairsT.mem {B : Heap} {l : Addr} {ps : Ps} {nx : List (Addr × Obj)} (hP : PairsT B l ps nx) : ∃ o, (l, o) ∈ nx := by obtain ⟨_, _, _, rfl, _⟩ := hP; exact ⟨_, .head _⟩
theorem calm_not_tupT {o : Obj} {its : Array Value} (h : CalmObj o) (t : TupObj o its) : False := by
  obtain ⟨T, vs, _, e, _⟩ := h
  obtain ⟨_, n, e'⟩ := t
  rw [e] at e'; cases e'
theorem hdrs_splitT {B h : Heap} {L l : Addr} {m : Str → Option Value} {ps : Ps} (F : Fr B L h m) (hP : HdrsAt h l ps) (hBl : B.get? l = none) (hlL : @Ne Nat l L) : ∃ nx, PairsT B l ps nx ∧ News B L h nx ∧ ∀ I oI, h.get? I = some oI → CalmObj oI → ∀ p ∈ nx, p.1 ≠ I := by
  obtain ⟨vs, n, hl, hall, _⟩ := hP
  obtain ⟨pls, N, ht, hin⟩ := pairs_split F hall
  refine ⟨_, ⟨vs, n, pls, rfl, ht, hin⟩, fun p hp => ?_, fun I oI hI hc p hp q => ?_⟩
  · rcases List.mem_cons.mp hp with rfl | hp
    · exact ⟨hl, hlL, hBl⟩
    · exact N p hp
  · rcases List.mem_cons.mp hp with rfl | hp
    · have q' : l = I := q
      rw [q', hI] at hl
      cases hl
      obtain ⟨T, vs, _, e, _⟩ := hc
      cases e
    · have := (N p hp).1
      rw [q, hI] at this
      obtain ⟨its, t⟩ := ht p hp
      have e := Option.some.inj this
      rw [e] at hc
      exact calm_not_tupT hc t
theorem turn_leB {B h h' : Heap} {L l I x dx : Addr} {oI ox od : Obj} {m : Str → Option Value} {ps' : Ps} {nx' : List (Addr × Obj)} (F : Fr B L h m) (N : News B L h ((I, oI) :: (x, ox) :: (dx, od) :: nx')) (hle : LeB l h h') (hP : HdrsAt h' l ps') (hBl : B.get? l = none) (hLl : @Ne Nat L l) (hIl : @Ne Nat I l) (hxl : @Ne Nat x l) (hdl : @Ne Nat dx l) (hc : CalmObj oI) :
    Fr B L h' m ∧ ∃ nx'', News B L h' ((I, oI) :: (x, ox) :: (dx, od) :: nx'') ∧ PairsT B l ps' nx'' ∧ ∀ p ∈ nx'', p.1 ≠ I := by
  have F' := fr_leB F hle hBl hLl
  refine ⟨F', ?_⟩
  obtain ⟨nx'', hp, N'', hoff⟩ := hdrs_splitT F' hP hBl (Ne.symm hLl)
  have hI := hle _ _ hIl (N _ (.head _)).1
  refine ⟨nx'', fun p hp => ?_, hp, hoff I oI hI hc⟩
  rcases List.mem_cons.mp hp with rfl | hp
  · exact ⟨hI, (N _ (.head _)).2⟩
  · rcases List.mem_cons.mp hp with rfl | hp
    · exact ⟨hle _ _ hxl (N _ (.tail _ (.head _))).1, (N _ (.tail _ (.head _))).2⟩
    · rcases List.mem_cons.mp hp with rfl | hp
      · exact ⟨hle _ _ hdl (N _ (.tail _ (.tail _ (.head _)))).1, (N _ (.tail _ (.tail _ (.head _)))).2⟩
      · exact N'' p hp
theorem del_hdrs {h h' : Heap} {l : Addr} {vs vs' : List Value} {n n' : Nat} {ps' : Ps} (hl : h.get? l = some (W.listOf vs.toArray n)) (hle : LeB l h h') (hl' : h'.get? l = some (W.listOf vs'.toArray n')) (ha : All2 (PairVal h) vs' ps') (hs : ps'.length ≤ 4096) : HdrsAt h' l ps' :=
  ⟨vs', n', hl', ha.mono fun _ _ q => PairVal.leB hl hle q, hs⟩
theorem stepT0 (T : Ps) (h t : Str) (sd : List (List Str)) : stepT T (0, h, t, sd) = T ++ [(h, t)] := rfl
theorem stepT1 (T : Ps) (h t : Str) (sd : List (List Str)) : stepT T (1, h, t, sd) = setDef T h t := rfl
theorem stepT2 (T : Ps) (h t : Str) (sd : List (List Str)) : stepT T (2, h, t, sd) = (T.filter fun p => low p.1 != low h) ++ [(h, t)] := rfl
theorem stepT3 (T : Ps) (h t : Str) (sd : List (List Str)) : stepT T (3, h, t, sd) = T.filter fun p => low p.1 != low h := rfl
end Mine
namespace Mine
theorem slice_noIndex : typeLookup (.type "slice") "__index__" = pure none := by rw [typeLookup_type, builtinLookup_eq_fast]; kernel_rfl
theorem cut_all (xs ys : Array Value) : xs.extract 0 (0 : Int).toNat ++ ys ++ xs.extract (max (0 : Int) (xs.size : Int)).toNat xs.size = ys := by
  have : (max (0 : Int) (xs.size : Int)).toNat = xs.size := by omega
  rw [this]; simp
set_option maxHeartbeats 1000000 in
theorem set_all {w : World} {A : Around} {s : Shared} {E : Value → Shared → Prop} {l sl D : Addr} {xs ys : Array Value} {n k : Nat} {Q : Unit → Shared → Prop}
    (hl : s.heap.get? l = some (W.listOf xs n)) (hsl : s.heap.get? sl = some { cls := .type "slice", data := .fields #[.none, .none, .none] }) (hD : s.heap.get? D = some (W.listOf ys k)) (hne : l ≠ D) (hxs : xs.size ≤ 4096) (hys : ys.size ≤ 4096)
    (hQ : ∀ h' n', h'.get? l = some (W.listOf ys n') → Heap.SameBut l s.heap h' → Q () { s with heap := h' }) :
    wpAny (model PySem.Challenge.rw_pe0251_01.row.prog w) A (setItem (.ref l) (.ref sl) (.ref D)) Q E s := by
  have hT : s.TypeIs (.ref l) "list" := ⟨_, hl, rfl⟩
  have hTs : s.TypeIs (.ref sl) "slice" := ⟨_, hsl, rfl⟩
  have hTD : s.TypeIs (.ref D) "list" := ⟨_, hD, rfl⟩
  unfold setItem
  try with_reducible refine wpAny_holding ?_
  first | refine wpAny_bind (wpAny_pure ?_) | skip
  refine wpAny_bind (wpAny_sequenceKey hT (by decide) ?_)
  refine wpAny_bind (wpAny_callSpecial?_slot (name := Str.ofString "__setitem__") hT slot_list_setitem
    (wpAny_call_entry slot_list_setitem hT entry_list_setitem ?_ (args_list_setitem _ _ _)))
  show wpAny _ _ (Builtin.List.listSubscript? (.ref sl) >>= _) _ _ s
  refine wpAny_bind ?_
  unfold Builtin.List.listSubscript?
  refine wpAny_bind (wpAny_specialOf hTs slice_noIndex ?_)
  refine wpAny_pure ?_
  dsimp only
  refine wpAny_bind (wpAny_typeOf hTs ?_)
  rw [if_neg (by simp)]
  refine wpAny_bind ?_
  have parts : ∀ {Q' : Value × Value × Value → Shared → Prop}, Q' (.none, .none, .none) s → wpAny (model PySem.Challenge.rw_pe0251_01.row.prog w) A.in1 (Builtin.List.listSliceParts (.ref sl)) Q' E s := by
    intro Q' hq
    unfold Builtin.List.listSliceParts
    refine wpAny_bind (wpAny_field hsl rfl (x := .none) rfl ?_)
    refine wpAny_bind (wpAny_pure ?_)
    rw [if_neg (by simp [rawInt])]
    refine wpAny_bind (wpAny_field hsl rfl (x := .none) rfl ?_)
    refine wpAny_bind (wpAny_pure ?_)
    refine wpAny_bind (wpAny_field hsl rfl (x := .none) rfl ?_)
    refine wpAny_bind (wpAny_pure ?_)
    exact wpAny_pure hq
  refine parts ?_
  have hsame : Builtin.List.listSameRef (.ref l) (.ref D) = false := by simpa [Builtin.List.listSameRef] using hne
  rw [if_neg (by rw [hsame]; exact Bool.false_ne_true)]
  have items : ∀ {a : Addr} {zs : Array Value} {j : Nat} {Q' : Array Value → Shared → Prop}, s.heap.get? a = some (W.listOf zs j) → Q' zs s → wpAny (model PySem.Challenge.rw_pe0251_01.row.prog w) A.in1 (Builtin.List.listItems (.ref a)) Q' E s := by
    intro a zs j Q' ha hq
    unfold Builtin.List.listItems
    refine wpAny_bind (wpAny_seqItems ha rfl ?_)
    exact wpAny_pure hq
  refine wpAny_bind ?_
  unfold Builtin.List.listAllItems
  refine wpAny_bind (wpAny_typeOf hTD ?_)
  rw [if_pos (by decide)]
  refine items hD ?_
  refine wpAny_bind (items hl ?_)
  refine wpAny_bind ?_
  refine wpAny_of_eq (show sliceIndices Value.none Value.none Value.none xs.size = pure (0, (xs.size : Int), 1) from rfl) ?_
  dsimp only
  rw [if_pos (by decide)]
  refine wpAny_bind (wpAny_rule ?_)
  rw [if_neg (by simp [Builtin.List.listTooLong, sizeLine_eq]; omega)]
  refine wpAny_bind ?_
  unfold Builtin.List.listUpdate
  dsimp only
  refine wpAny_updateSeq (f := fun zs => zs.extract 0 (0 : Int).toNat ++ ys ++ zs.extract (max (0 : Int) (xs.size : Int)).toNat zs.size) hl rfl ?_ (by rw [sizeLine_eq]; omega) (by rw [cut_all, sizeLine_eq]; omega)
  refine wpAny_bind (wpAny_letGo ?_)
  refine wpAny_pure ⟨_, rfl, wpAny_pure ?_⟩
  have hg := Heap.get?_update_self (f := Obj.mapSeq (fun zs => zs.extract 0 (0 : Int).toNat ++ ys ++ zs.extract (max (0 : Int) (xs.size : Int)).toNat zs.size)) hl (by rfl)
  have e : Obj.mapSeq (fun zs => zs.extract 0 (0 : Int).toNat ++ ys ++ zs.extract (max (0 : Int) (xs.size : Int)).toNat zs.size) (W.listOf xs n) = W.listOf ys (if ys.size == xs.size then n else n + 1) := by
    simp only [W.listOf, Obj.mapSeq, cut_all]
  exact hQ _ _ (hg.trans (congrArg some e)) (Heap.SameBut.update ..)
end Mine
namespace Mine
section
variable {w : World} {A : Around} {s : Shared} {Q E : Value → Shared → Prop}
/-- Into a def whose binding makes an object: s₂ is the state behind the binding. -/
theorem enterG {s₂ : Shared} {name qual : Str} {params : Arguments} {body : List Stmt} {scope : Scope} {dV kV doc pm cdv ct oc : Value} {an od : Option Addr} {osl : Array (Option Value)} {f : Addr} {args : Args} {binds : List (Str × Value)}
    {mean : ExcName → Option Value} {mg mb : Str → Option Value} (W : List (Addr × Obj))
    (S : Stat w mean mg mb s.heap) (hroom : A.depth < recursionLimit)
    (ho : (headK w.params).lookup f = some ⟨oc, od, .func (fnOf name qual params body scope dV kV doc pm an cdv ct), osl⟩) (hcd : codeIn (headK w.params) cdv qual = true)
    (hle : Le s.heap s₂.heap) (hbind : ∀ (M : Model) (A : Around) (E : Value → Shared → Prop) (Q : List (Str × Value) → Shared → Prop), Q binds s₂ → wpAny M A (bindArgs (fnOf name qual params body scope dV kV doc pm an cdv ct) args) Q E s) (hkind : (binds.all fun y => scope.names.lookup y.1 == some .local || scope.names.lookup y.1 == some .cell) = true)
    (hnd : ((cellsFrom 0 scope.names []).map (·.1)).Nodup)
    (hW : ∀ p ∈ W, s₂.heap.get? p.1 = some p.2)
    (h : ∀ L h₁ tk cells, Fr (hideAll s₂.heap (W.map (·.1))) L h₁ (bindL (envOfC qual scope L f cdv).kindOf binds fun _ => none) → News (hideAll s₂.heap (W.map (·.1))) L h₁ (cells ++ W) →
      CellsAre (bindC (envOfC qual scope L f cdv).kindOf binds fun _ => none) (cellsFrom (L + 1) scope.names []) cells → (∀ p ∈ W, p.1 < L) →
      wpAny (model PySem.Challenge.rw_pe0251_01.row.prog w) (A.deeper (envOfC qual scope L f cdv)) (execs body (envOfC qual scope L f cdv))
        (fun fl s' => Q (match fl with | .ret v => v | _ => .none) s') (fun _ _ => False) { s₂ with heap := h₁, toks := tk })
    (hco : scope.isCoroutine = false) (hgen : scope.isGenerator = false) (hk : scope.kind = .function) :
    codeAny (model PySem.Challenge.rw_pe0251_01.row.prog w) A (.call (.ref f) args) (fun r s' => match r with | .ok (.ret v) => Q v s' | .ok _ => False | .error e => E e s') s := by
  refine codeAny_call_function hroom (S.k _ _ ho) rfl hco hgen rfl (codeRec_of S.k hcd) (hbind _ _ _ _ ?_)
  refine wpAny_newFunctionEnv_cells hk (kindsX hkind _) fun env' he s' x => ?_
  subst he
  refine ⟨(S.t.nolimit.keeps hle).keeps x.toInCall.keep, codeAny_func ?_⟩
  obtain ⟨h₁, tk, rfl, _⟩ := x.done
  have hk₁ := x.toInCall.keep
  obtain ⟨cells, NC, Y⟩ := Cl.news (h₀ := s₂.heap) (Nat.le_refl _) fun n c hm => ⟨x.cell n c (lookup_of_mem_nodup (cellsFrom_names scope.names 0 (s₂.heap.objs.size + 1) [] [] rfl ▸ hnd) hm), x.above n c hm⟩
  refine wpAny_mono (h s₂.heap.objs.size h₁ tk cells ⟨x.toInCall.ns, fun b o e => hk₁ b o (of_hideAll _ e), Nat.le_of_eq (hideAll_size _ _)⟩ (fun p hp => ?_) Y (fun p hp => Heap.lt_size (hW p hp))) (fun fl s' hl => hl) fun _ _ y => y.elim
  rcases List.mem_append.mp hp with hp | hp
  · refine ⟨(NC p hp).1, (NC p hp).2.1, ?_⟩
    cases q : (hideAll s₂.heap (W.map (·.1))).get? p.1 with
    | none => rfl
    | some o => have := of_hideAll _ q; rw [(NC p hp).2.2] at this; cases this
  · exact ⟨hk₁ _ _ (hW p hp), Nat.ne_of_lt (Heap.lt_size (hW p hp)), hideAll_none _ (List.mem_map_of_mem hp)⟩
theorem empty_dictAt {h : Heap} {d : Addr} (e : h.get? d = some (dictOf [] 0)) : h.DictAt (strKind PySem.Challenge.rw_pe0251_01.row.prog w) d ([] : List (Str × Value)) 0 :=
  ⟨_, _, e, ⟨rfl, rfl, rfl⟩, rfl, (fun _ he => absurd he (by simp)), .nil, List.nodup_nil⟩
/-- Into a def with ** that may change one list that stood. -/
theorem enterKW {name qual : Str} {params : Arguments} {body : List Stmt} {scope : Scope} {dV kV doc pm cdv ct oc : Value} {an od : Option Addr} {osl : Array (Option Value)} {f : Addr} {args : Args} {binds : Addr → List (Str × Value)}
    {mean : ExcName → Option Value} {mg mb : Str → Option Value} (m : Addr → Str → Option Value)
    {k : Nat} {g : Heap} {l : Addr} {ol : Obj} (S : Stat w mean mg mb g) (hg : Le g s.heap) (hl : g.get? l = none) (hol : s.heap.get? l = some ol) (R : Room A (k + 1))
    (ho : (headK w.params).lookup f = some ⟨oc, od, .func (fnOf name qual params body scope dV kV doc pm an cdv ct), osl⟩) (hcd : codeIn (headK w.params) cdv qual = true)
    (hbind : bindArgs (fnOf name qual params body scope dV kV doc pm an cdv ct) args = (alloc (dictOf [] 0) >>= fun d => pure (binds d))) (hkind : ∀ d, ((binds d).all fun y => scope.names.lookup y.1 == some .local || scope.names.lookup y.1 == some .cell) = true)
    (hnd : ((cellsFrom 0 scope.names []).map (·.1)).Nodup)
    (hm : ∀ L d, bindL (envOfC qual scope L f cdv).kindOf (binds d) (fun _ => none) = m d)
    (h : ∀ L h₁ tk cells A' B d, Room A' k → Le g B → LeB l s.heap B → B.get? l = none → Fr B L h₁ (m d) → News B L h₁ (cells ++ [(d, dictOf [] 0), (l, ol)]) → @LT.lt Nat _ l d → @LT.lt Nat _ d L → (∀ b o, s.heap.get? b = some o → @LT.lt Nat _ b d) →
      CellsAre (bindC (envOfC qual scope L f cdv).kindOf (binds d) fun _ => none) (cellsFrom (L + 1) scope.names []) cells →
      wpAny (model PySem.Challenge.rw_pe0251_01.row.prog w) A' (execs body (envOfC qual scope L f cdv))
        (fun fl s' => Q (match fl with | .ret v => v | _ => .none) s') (fun _ _ => False) { s with heap := h₁, toks := tk })
    (hco : scope.isCoroutine = false) (hgen : scope.isGenerator = false) (hk : scope.kind = .function) :
    wpAny (model PySem.Challenge.rw_pe0251_01.row.prog w) A (call (.ref f) args.pos args.kw) Q E s := by
  have up : Le s.heap (s.heap.push (dictOf [] 0)) := fun b o e => Heap.get?_push_of_some _ e
  have hln : @LT.lt Nat _ l s.heap.objs.size := Heap.lt_size hol
  refine wpAny_call (enterG (s₂ := { s with heap := s.heap.push (dictOf [] 0) }) (binds := binds s.heap.objs.size) [(s.heap.objs.size, dictOf [] 0), (l, ol)] (S.le hg) (Nat.lt_of_le_of_lt (Nat.le_add_right _ _) R.dep) ho hcd up ?_ (hkind _) hnd ?_ ?_ hco hgen hk)
  · intro M A' E' Q' hq
    rw [hbind]
    exact wpAny_bind (wpAny_alloc (wpAny_pure hq))
  · intro p hp
    rcases List.mem_cons.mp hp with rfl | hp
    · exact Heap.get?_push_size _ rfl
    · cases List.mem_singleton.mp hp; exact Heap.get?_push_of_some _ hol
  · intro L h₁ tk cells F N Y hlt
    rw [hm] at F
    refine h L h₁ tk cells _ _ _ R.deeper (fun b o e => hideAll_get _ (up _ _ (hg b o e)) fun q => ?_) (fun b o n e => hideAll_get _ (up _ _ e) fun q => ?_) (hideAll_none _ (.tail _ (.head _))) F N hln (hlt _ (.head _)) (fun b o e => Heap.lt_size e) Y
    · rcases List.mem_cons.mp q with q | q
      · have := Heap.lt_size (hg b o e); rw [q] at this; exact Nat.lt_irrefl _ this
      · have : b = l := List.mem_singleton.mp q
        rw [this, hl] at e; cases e
    · rcases List.mem_cons.mp q with q | q
      · have := Heap.lt_size e; rw [q] at this; exact Nat.lt_irrefl _ this
      · exact n (List.mem_singleton.mp q)
/-- xs[:] -/
theorem slice_copy {value slice : Expr} {h₀ : Heap} {L l : Addr} {m : Str → Option Value} {news : List (Addr × Obj)} {its : List Value} (F : Fr h₀ L s.heap m) (N : News h₀ L s.heap news) (hl : s.heap.IsList l its.toArray) (hz : its.length ≤ 4096)
    (h : ∀ D h', Le s.heap h' → @LT.lt Nat _ L D → Fr h₀ L h' m → News h₀ L h' ((D, W.listOf its.toArray 0) :: news) → Q (.ref D) { s with heap := h' })
    (hs : subscripted slice false (.ref l) (.ref s.heap.objs.size) = operate [.ref s.heap.objs.size, .ref l] (getItem (.ref l) (.ref s.heap.objs.size)) := by with_unfolding_all rfl) :
    wpAny (model PySem.Challenge.rw_pe0251_01.row.prog w) A (subscriptTail value slice (.ref l) (.ref s.heap.objs.size)) Q E { s with heap := s.heap.push { cls := .type "slice", data := .fields #[.none, .none, .none] } } := by
  have hT : Shared.TypeIs { s with heap := s.heap.push { cls := .type "slice", data := .fields #[.none, .none, .none] } } (.ref l) "list" := Heap.IsList.typeIs (s := { s with heap := s.heap.push { cls := .type "slice", data := .fields #[.none, .none, .none] } }) (hl.push _)
  refine tail_any hT list_getitem_lookup (wpAny_getItem_list_slice (hl.push _) (Heap.IsSliceOf.new ..) .none .none .none (by simp) ?_ (by rw [List.size_toArray, sizeLine_eq]; omega)) hs
  rw [slicePick_all]
  have F₁ := (F.push { cls := .type "slice", data := .fields #[.none, .none, .none] })
  have hsz : L < s.heap.objs.size := F.ns.lt
  have N₁ : News h₀ L (s.heap.push { cls := .type "slice", data := .fields #[.none, .none, .none] }) news := N.grown fun b o e => Heap.get?_push_of_some _ e
  refine h _ _ (fun b o e => Heap.get?_push_of_some _ (Heap.get?_push_of_some _ e)) (Nat.lt_of_lt_of_le hsz (by show _ ≤ (s.heap.push _).objs.size; rw [Heap.size_push]; exact Nat.le_succ _)) (F₁.push _) (N₁.push F₁ _)
theorem del_item {K : Frag} {x C L f : Addr} {h₀ : Heap} {m : Str → Option Value} {ox : Obj} {od : Option Obj} {i : Value} {Q : Unit → Shared → Prop} (F : Fr h₀ L s.heap m) (X₀ : K.In h₀) (I : InstAt s.heap x ox C od) (hq : noSeq K C = true) (hs : findIn K (.ref C) "__delitem__" = some (some (.ref f))) (hf : isFn K (.ref f) = true)
    (h : wpAny (model PySem.Challenge.rw_pe0251_01.row.prog w) A (call (.ref f) [.ref x, i]) (fun _ s' => Q () s') E s) : wpAny (model PySem.Challenge.rw_pe0251_01.row.prog w) A (delItem (.ref x) i) Q E s := by
  have X := X₀.keeps F.keep
  unfold delItem sequenceKey
  refine wpAny_holding (wpAny_bind (wpAny_bind (I.type.here ?_)))
  refine wpAny_bind ((anyM_none X hq).here ?_)
  rw [if_pos (show (!false) = true from rfl)]
  exact wpAny_pure (wpAny_bind (special_fn X I hs (beq_iff_eq.mp hf) (wpAny_mono h (fun _ _ z => wpAny_pure z) fun _ _ z => z)))
end
end Mine
namespace Mine
local macro_rules | `(tactic| walk_at "eval ListComp") => `(tactic| refine halt ?_)
local macro_rules | `(tactic| walk_at "exec Assign cons ListComp") => `(tactic| refine halt ?_)
local macro_rules | `(tactic| walk_at "exec For") => `(tactic| refine halt ?_)
local macro_rules | `(tactic| walk_at "exec For Name Call cons nil") => `(tactic| refine halt ?_)
local macro_rules | `(tactic| walk_at "pyIter ref") => `(tactic| refine halt ?_)
local macro_rules | `(tactic| walk_at "pyIter str") => `(tactic| refine halt ?_)
local macro_rules | `(tactic| walk_at "compareOp Eq ref ref") => `(tactic| refine halt ?_)
local macro_rules | `(tactic| walk_at "compareOp NotEq ref ref") => `(tactic| refine halt ?_)
local macro_rules | `(tactic| walk_at "compareOp In str ref") => `(tactic| refine halt ?_)
local macro_rules | `(tactic| walk_at "compareOp NotIn str ref") => `(tactic| refine halt ?_)
local macro_rules | `(tactic| walk_at "call ref") => `(tactic| refine halt ?_)
local macro_rules | `(tactic| walk_at "call ref") => `(tactic| ((with_unfolding_all (refine conv_call (Stat.le (by assumption) (Fr.keep (by k_asm))) (Room.mono (by assumption) (by decide)) (by first | exact .inl ⟨rfl, by assumption⟩ | exact .inr ⟨rfl, by assumption⟩) ?_)); intro h' tk' hle'; walk_at "grown"))
local macro_rules | `(tactic| walk_at "grown") => `(tactic| ((rename Fr _ _ _ _ => kF); (rename News _ _ _ _ => kN); (rename Le _ _ => hle); k_dflt (replace kF := Fr.keeps kF hle; replace kN := News.grown kN hle; clear hle)))
local macro_rules | `(tactic| walk_at "call builtin:str.lower") => `(tactic| k_dflt (refine lower_call (by assumption) ?_))
local macro_rules | `(tactic| walk_at "call builtin:str.upper") => `(tactic| k_dflt (refine upper_call (by assumption) ?_))
local macro_rules | `(tactic| walk_at "setItem ref ref") => `(tactic| refine halt ?_)
local macro_rules | `(tactic| walk_at "eval Slice") => `(tactic| refine halt ?_)
local macro_rules | `(tactic| walk_at "delItem ref") => `(tactic| (k_dflt (refine' del_item ?F ?X ?I ?hQ ?hS ?hF ?_; (case F => k_asm); (case X => k_asm); (case I => k_inst); (case hS => k_is); (case hF => k_is); (case hQ => k_is))))
local macro_rules | `(tactic| walk_at "At") => `(tactic| exact ⟨_, _, _, rfl, by assumption, by assumption⟩)
local macro_rules | `(tactic| walk_at "StrVal") => `(tactic| exact ⟨_, rfl⟩)
local macro_rules | `(tactic| walk_at "eval Name") => `(tactic| ((with_reducible show wpAny _ _ (eval (Expr.Name _ _) (compEnvC _ _ _ _)) _ _ _); k_dflt (first
  | (refine' cn_local ?F ?v ?_ ?a ?b; (case F => k_asm); (case a => rfl); (case b => rfl); (case v => rfl); k_whole)
  | (refine' cn_cell ?F ?c ?v ?_ ?a ?b; (case a => rfl); (case b => rfl); (case F => k_asm); (case v => rfl); (case c => assumption); k_whole)
  | (refine' cn_global ?F ?X ?T ?e ?_ ?g ?a ?b; (case a => rfl); (case b => rfl); (case g => rfl); (case F => k_asm); (case X => k_asm); (case T => k_asm); (case e => k_is); k_whole))))
local macro_rules | `(tactic| walk_at "fn sides") => `(tactic| (
  (case o => k_dflt k_is)
  (case c => k_dflt k_is)
  (case b => first | exact BindsTo.of_eq rfl | exact binds_K (by assumption) rfl (by k_is) rfl rfl rfl)
  (case k => rfl)
  (case n => decide)
  (case hm => exact fun _ => rfl)
  (case c1 => rfl)
  (case c2 => rfl)
  (case c3 => rfl)))
local macro_rules | `(tactic| k_inst) => `(tactic| exact TableAt.inst (by k_asm) (by assumption))
local macro_rules | `(tactic| walk_at "subscriptTail Name Constant ref int") => `(tactic| (refine' tup_item ?F ?t ?a ?b ?c ?d ?_ ?e; (case F => k_asm); (case t => assumption); (case a => decide); (case b => decide); (case c => rfl); (case d => rfl); (case e => with_unfolding_all rfl)))
set_option maxHeartbeats 4000000 in
theorem init_code {w : World} {A : Around} {s : Shared} {Q E : Value → Shared → Prop} {mean : ExcName → Option Value} {mg mb : Str → Option Value} {g : Heap}
    {x dx l : Addr} {n : Nat} (S : Stat w mean mg mb g) (hg : Le g s.heap) (R : Room A 5) (hgx : g.get? x = none) (hgd : g.get? dx = none) (hx : s.heap.get? x = some (instObj 175 dx)) (hdx : s.heap.get? dx = some (dictOf [] 0)) (hxd : @LT.lt Nat _ dx x) (hl : s.heap.get? l = some (W.listOf #[] n))
    (ret : ∀ v h' tk hh tk', v = .none → (∀ b o, b ≠ dx → s.heap.get? b = some o → h'.get? b = some o) → h'.get? dx = some (dictOf [⟨hh, .str (Str.ofString "_headers") tk', .ref l⟩] 1) → Q v { s with heap := h', toks := tk }) :
    codeAny (model PySem.Challenge.rw_pe0251_01.row.prog w) A (.call (.ref 69) ⟨[.ref x, .ref l], []⟩) (fun r s' => match r with | .ok (.ret v) => Q v s' | .ok _ => False | .error e => E e s') s := by
  have X : (headK w.params).In g := S.k
  revert X
  k_fill
  intro X
  refine' enter (args := ⟨[.ref x, .ref l], []⟩) (binds := [(Str.ofString "self", .ref x), (Str.ofString "headers", .ref l)]) [(x, instObj 175 dx), (dx, dictOf [] 0)] (S.le hg) ?r ?o ?c ?b ?k ?n ?w ?_ ?c1 ?c2 ?c3
  case r => exact Nat.lt_of_le_of_lt (Nat.le_add_right _ _) R.dep
  case o => k_dflt k_is
  case c => k_dflt k_is
  case b => first | exact BindsTo.of_eq rfl | exact binds_K (X.keeps hg) rfl (by k_is) rfl rfl rfl
  case k => rfl
  case n => decide
  case w =>
    intro p hp
    rcases List.mem_cons.mp hp with rfl | hp
    · exact hx
    · cases List.mem_singleton.mp hp; exact hdx
  case c1 => rfl
  case c2 => rfl
  case c3 => rfl
  intro L h₁ tk cells F N Y hlt
  cases Y
  rw [List.nil_append] at N
  have hnx : l ≠ x := fun q => by rw [q, hx] at hl; exact absurd (congrArg (Option.map Obj.cls) hl) (by simp)
  have hnd : l ≠ dx := fun q => by rw [q, hdx] at hl; exact absurd (congrArg (Option.map Obj.cls) hl) (by simp)
  have hB1 : Le g (hideAll s.heap (List.map (fun x => x.fst) [(x, instObj 175 dx), (dx, dictOf [] 0)])) := fun b o e => hideAll_get _ (hg b o e) fun q => by
    rcases List.mem_cons.mp q with q | q
    · rw [show b = x from q, hgx] at e; cases e
    · rw [show b = dx from List.mem_singleton.mp q, hgd] at e; cases e
  have hB2 : ∀ b o, b ≠ x → b ≠ dx → s.heap.get? b = some o → (hideAll s.heap (List.map (fun x => x.fst) [(x, instObj 175 dx), (dx, dictOf [] 0)])).get? b = some o := fun b o n1 n2 e => hideAll_get _ e fun q => by
    rcases List.mem_cons.mp q with q | q
    · exact n1 q
    · exact n2 (List.mem_singleton.mp q)
  generalize hideAll s.heap (List.map (fun x => x.fst) [(x, instObj 175 dx), (dx, dictOf [] 0)]) = B at *
  refine (?_ : ∀ A', Room A' 4 → wpAny (model PySem.Challenge.rw_pe0251_01.row.prog w) A' _ _ _ _) _ R.deeper
  intro A R
  replace S := S.le hB1
  replace X := S.k
  have T := topRead_of S.t
  have hA := R.hh
  have hU := R.un
  have hlB : B.get? l = some (W.listOf #[] n) := hB2 l _ hnx hnd hl
  have hisl : B.IsList l #[] := ⟨_, hlB, rfl, n, rfl⟩
  k_steps
  rename Fr _ _ _ _ => F₂
  refine call_type_of (Tx := "list") (by exact ⟨_, F₂.keep _ _ hlB, rfl⟩) (by decide) ?_
  k_steps
  refine unhalt ?_
  rename Fr _ _ _ _ => F₃
  rename News _ _ _ _ => N₃
  refine wpAny_For ?_
  k_steps
  refine unhalt ?_
  refine for_iter (iter_list hA (isList_le F₃.keep hisl)) (fun i m nx => nx = _) F₃ N₃ rfl ?_ ?_ ?_
  · intro i m nx h _ F' _; exact isList_le F'.keep hisl
  · intro i v m nx h tk I oI E' hv; simp at hv
  · intro m nx h tk hnx' F' N'
    have hnx'' := hnx'
    subst hnx'
    clear F₃ N₃
    k_steps
    refine ret _ _ _ _ _ rfl (fun b o hb e => ?_) (N' _ (.tail _ (.head _))).1
    by_cases q : b = x
    · subst q
      rw [hx] at e
      cases e
      exact (N' _ (.head _)).1
    · exact F'.keep b o (hB2 b o q hb e)
theorem make_weight (l : Addr) : (Code.builtin "type.__call__" ⟨[.ref 175, .ref l], []⟩).weight = 1 ∧ (Code.builtin "type.__call__" ⟨[.ref 175, .ref l], []⟩).cUnits = 1 := ⟨rfl, rfl⟩
set_option maxHeartbeats 4000000 in
theorem headers_call {w : World} {A : Around} {s : Shared} {Q E : Value → Shared → Prop} {mean : ExcName → Option Value} {mg mb : Str → Option Value} {h₀ : Heap} {L l : Addr} {m : Str → Option Value} {news : List (Addr × Obj)} {n : Nat}
    (S : Stat w mean mg mb h₀) (R : Room A 8) (F : Fr h₀ L s.heap m) (N : News h₀ L s.heap news) (hl : (l, W.listOf #[] n) ∈ news)
    (ret : ∀ x dx h' tk hh tk', Fr h₀ L h' m → News h₀ L h' ((x, instObj 175 dx) :: (dx, dictOf [⟨hh, .str (Str.ofString "_headers") tk', .ref l⟩] 1) :: news) → (∀ p ∈ news, @LT.lt Nat _ p.1 dx) → @LT.lt Nat _ dx x → Q (.ref x) { s with heap := h', toks := tk }) :
    wpAny (model PySem.Challenge.rw_pe0251_01.row.prog w) A (call (.ref 175) [.ref l]) Q E s := by
  have X : (headK w.params).In h₀ := S.k
  revert X
  k_fill
  intro X
  k_dflt (refine' call_cls ?k1 ?k2 ?k3 ?k4 ?k5 ?k6 ?_; (case k1 => exact F); (case k2 => exact X); (case k3 => exact N); (case k4 => k_is); (case k5 => k_is); (case k6 => k_is))
  intro x dx h₁ F₁ N₁ l1 l2
  have Ru : Room (A.under (.builtin "type.__call__" ⟨[.ref 175, .ref l], []⟩)) 5 := by
    obtain ⟨e1, e2⟩ := make_weight l
    refine ⟨R.hh, ?_, ?_⟩
    · show A.depth + (Code.builtin "type.__call__" ⟨[.ref 175, .ref l], []⟩).weight + 5 < _
      rw [e1]; have := R.dep; omega
    · show A.units + (Code.builtin "type.__call__" ⟨[.ref 175, .ref l], []⟩).cUnits + 8 * 5 < _
      rw [e2]; have := R.un; omega
  refine codeAny_mono (init_code (Q := fun v s' => v = .none ∧ Q (.ref x) s') (E := E) S (by exact F₁.keep) Ru (N₁ _ (.head _)).2.2 (N₁ _ (.tail _ (.head _))).2.2 (by exact (N₁ _ (.head _)).1) (by exact (N₁ _ (.tail _ (.head _))).1) l2 (by exact (N₁ _ (.tail _ (.tail _ hl))).1) ?_) ?_
  · intro v h₂ tk hh tk' hv hk hd
    refine ⟨hv, ret x dx h₂ tk hh tk' ⟨F₁.ns.at' fun o e => hk _ _ (Ne.symm (N₁ _ (.tail _ (.head _))).2.1) e, fun b o e => hk b o (fun q => by have := (N₁ _ (.tail _ (.head _))).2.2; rw [q, this] at e; cases e) (F₁.keep b o e), F₁.above⟩ (fun p hp => ?_) l1 l2⟩
    rcases List.mem_cons.mp hp with rfl | hp
    · exact ⟨hk _ _ (Ne.symm (Nat.ne_of_lt l2)) (N₁ _ (.head _)).1, (N₁ _ (.head _)).2⟩
    · rcases List.mem_cons.mp hp with rfl | hp
      · exact ⟨hd, (N₁ _ (.tail _ (.head _))).2⟩
      · have z := N₁ p (.tail _ (.tail _ hp))
        exact ⟨hk _ _ (Nat.ne_of_lt (l1 p hp)) z.1, z.2⟩
  · intro r s' hr
    unfold InitBack
    cases r with
    | ok f => cases f <;> exact hr
    | error e => exact hr
end Mine
namespace Mine
local macro_rules | `(tactic| walk_at "eval ListComp") => `(tactic| refine halt ?_)
local macro_rules | `(tactic| walk_at "exec Assign cons ListComp") => `(tactic| refine halt ?_)
local macro_rules | `(tactic| walk_at "exec For") => `(tactic| refine halt ?_)
local macro_rules | `(tactic| walk_at "exec For Name Call cons nil") => `(tactic| refine halt ?_)
local macro_rules | `(tactic| walk_at "pyIter ref") => `(tactic| refine halt ?_)
local macro_rules | `(tactic| walk_at "pyIter str") => `(tactic| refine halt ?_)
local macro_rules | `(tactic| walk_at "compareOp Eq ref ref") => `(tactic| refine halt ?_)
local macro_rules | `(tactic| walk_at "compareOp NotEq ref ref") => `(tactic| refine halt ?_)
local macro_rules | `(tactic| walk_at "compareOp In str ref") => `(tactic| refine halt ?_)
local macro_rules | `(tactic| walk_at "compareOp NotIn str ref") => `(tactic| refine halt ?_)
local macro_rules | `(tactic| walk_at "call ref") => `(tactic| refine halt ?_)
local macro_rules | `(tactic| walk_at "call ref") => `(tactic| ((with_unfolding_all (refine conv_call (Stat.le (by assumption) (Fr.keep (by k_asm))) (Room.mono (by assumption) (by decide)) (by first | exact .inl ⟨rfl, by assumption⟩ | exact .inr ⟨rfl, by assumption⟩) ?_)); intro h' tk' hle'; walk_at "grown"))
local macro_rules | `(tactic| walk_at "grown") => `(tactic| ((rename Fr _ _ _ _ => kF); (rename News _ _ _ _ => kN); (rename Le _ _ => hle); k_dflt (replace kF := Fr.keeps kF hle; replace kN := News.grown kN hle; clear hle)))
local macro_rules | `(tactic| walk_at "call builtin:str.lower") => `(tactic| k_dflt (refine lower_call (by assumption) ?_))
local macro_rules | `(tactic| walk_at "call builtin:str.upper") => `(tactic| k_dflt (refine upper_call (by assumption) ?_))
local macro_rules | `(tactic| walk_at "setItem ref ref") => `(tactic| refine halt ?_)
local macro_rules | `(tactic| walk_at "eval Slice") => `(tactic| refine halt ?_)
local macro_rules | `(tactic| walk_at "delItem ref") => `(tactic| (k_dflt (refine' del_item ?F ?X ?I ?hQ ?hS ?hF ?_; (case F => k_asm); (case X => k_asm); (case I => k_inst); (case hS => k_is); (case hF => k_is); (case hQ => k_is))))
local macro_rules | `(tactic| walk_at "At") => `(tactic| exact ⟨_, _, _, rfl, by assumption, by assumption⟩)
local macro_rules | `(tactic| walk_at "StrVal") => `(tactic| exact ⟨_, rfl⟩)
local macro_rules | `(tactic| walk_at "eval Name") => `(tactic| ((with_reducible show wpAny _ _ (eval (Expr.Name _ _) (compEnvC _ _ _ _)) _ _ _); k_dflt (first
  | (refine' cn_local ?F ?v ?_ ?a ?b; (case F => k_asm); (case a => rfl); (case b => rfl); (case v => rfl); k_whole)
  | (refine' cn_cell ?F ?c ?v ?_ ?a ?b; (case a => rfl); (case b => rfl); (case F => k_asm); (case v => rfl); (case c => assumption); k_whole)
  | (refine' cn_global ?F ?X ?T ?e ?_ ?g ?a ?b; (case a => rfl); (case b => rfl); (case g => rfl); (case F => k_asm); (case X => k_asm); (case T => k_asm); (case e => k_is); k_whole))))
local macro_rules | `(tactic| walk_at "fn sides") => `(tactic| (
  (case o => k_dflt k_is)
  (case c => k_dflt k_is)
  (case b => first | exact BindsTo.of_eq rfl | exact binds_K (by assumption) rfl (by k_is) rfl rfl rfl)
  (case k => rfl)
  (case n => decide)
  (case hm => exact fun _ => rfl)
  (case c1 => rfl)
  (case c2 => rfl)
  (case c3 => rfl)))
local macro_rules | `(tactic| k_inst) => `(tactic| exact TableAt.inst (by k_asm) (by assumption))
local macro_rules | `(tactic| walk_at "subscriptTail Name Constant ref int") => `(tactic| (refine' tup_item ?F ?t ?a ?b ?c ?d ?_ ?e; (case F => k_asm); (case t => assumption); (case a => decide); (case b => decide); (case c => rfl); (case d => rfl); (case e => with_unfolding_all rfl)))
set_option maxHeartbeats 4000000 in
theorem del_call {w : World} {A : Around} {s : Shared} {Q E : Value → Shared → Prop} {mean : ExcName → Option Value} {mg mb : Str → Option Value} {g : Heap}
    {t dx l : Addr} {hh : Int} {tk' : Tok} {ps : List (Str × Str)} (S : Stat w mean mg mb g) (hg : Le g s.heap) (hl : g.get? l = none) (R : Room A 5) (hT : TableAt s.heap t dx l hh tk') {vs : List Value} {n : Nat} (hol : s.heap.get? l = some (W.listOf vs.toArray n)) (hall : All2 (PairVal s.heap) vs ps) (hlen : ps.length ≤ 4096) {RR : Value → Str × Str → Prop} (hRR : All2 RR vs ps) (hN : ∀ p ∈ ps, p.1 ∈ heads) {x : Str} {u : Tok} (hx : x ∈ heads)
    (ret : ∀ v h' tk vs' n', LeB l s.heap h' → h'.get? l = some (W.listOf vs'.toArray n') → All2 RR vs' (ps.filter fun p => low p.1 != low x) → Q v { s with heap := h', toks := tk }) :
    wpAny (model PySem.Challenge.rw_pe0251_01.row.prog w) A (call (.ref 95) [.ref t, .str x u]) Q E s := by
  have X : (headK w.params).In g := S.k
  revert X
  k_fill
  intro X
  refine' enterW (args := ⟨[.ref t, .str x u], []⟩) (binds := [(Str.ofString "self", .ref t), (Str.ofString "name", .str x u)]) (setAll [Str.ofString "self"] [.ref t] fun _ => none) S hg hl hol R ?o ?c ?b ?k ?n ?hm ?_ ?c1 ?c2 ?c3
  walk_at "fn sides"
  intro L h₁ tk cells A B R hgB hsB hBs hBl F N hlL Y
  obtain ⟨oc, rfl, hoc⟩ := Y.one
  replace hoc : oc.data = .cell (some (.str x u)) := hoc
  clear Y
  replace S := S.le hgB
  replace X := S.k
  have T := topRead_of S.t
  replace hT := hT.leB hol hsB
  replace hall := hall.mono fun _ _ q => PairVal.leB hol hsB q
  have hA := R.hh
  have hU := R.un
  have hlx := abcd_mem (low_abcd hx)
  simp only [List.cons_append, List.nil_append] at N
  k_steps
  refine unhalt ?_
  rename Fr _ _ _ _ => F₂
  rename News _ _ _ _ => N₂
  rename _ = Data.cell _ => hoc₂
  refine wpAny_Assign_Subscript ?_
  have bcell : Heap.IsCell _ (L + 1) (some (.str (low x) _)) := ⟨_, (N₂ _ (.head _)).1, hoc₂⟩
  have X₂ := X.keeps F₂.keep
  have T₂ := T.keeps F₂.keep
  refine comp_pure (ax := l) (its := vs) (ds := ps) (R := fun v p => PairVal B v p ∧ RR v p) (R' := RR) (p := fun p => low p.1 != low x) (g := id) rfl (by decide) rfl (by decide) hA ?_ (by exact ⟨_, (N₂ _ (.tail _ (.head _))).1, rfl, _, rfl⟩) hlen (hall.and hRR) ?_ ?_
  · intro Q' hq; k_steps; exact hq _
  · rintro v p C m₃ nx h₃ tk₃ E₃ hp ⟨⟨a, t1, t2, rfl, htup⟩, hPV⟩ F₃ N₃
    refine ca_name F₃ N₃ rfl rfl fun h₄ tk₄ F₄ N₄ => ?_
    clear F₃ N₃
    replace htup := isTuple_le F₂.keep htup
    have hpx := hN p hp
    clear F₂ N₂
    refine wpAny_tests_one ?_
    k_steps
    all_goals exact hPV
  · intro D ys h₃ tk₃ hle hD hsz hys
    have N₃ := news_add F₂ N₂ hle hD hsz
    have F₃ := F₂.keeps hle
    rw [List.map_id] at hys
    have hlD : l ≠ D := Nat.ne_of_lt (Nat.lt_of_lt_of_le (Heap.lt_size (N₂ _ (.tail _ (.head _))).1) hsz)
    clear F₂ N₂ hle hD hsz
    have hvl : vs.length ≤ 4096 := by rw [hall.length]; exact hlen
    have hyl : ys.length ≤ 4096 := by rw [hys.length]; exact Nat.le_trans (List.length_filter_le _ _) hlen
    k_steps
    refine unhalt ?_
    refine wpAny_Slice (wpAny_pure (wpAny_pure (wpAny_pure ?_)))
    refine set_all (Heap.get?_push_of_some _ (N₃ _ (.tail _ (.tail _ (.head _)))).1) (Heap.get?_push_size _ rfl) (Heap.get?_push_of_some _ (N₃ _ (.head _)).1) hlD (by simpa using hvl) (by simpa using hyl) fun h₅ n' hl₅ hs₅ => ?_
    have F₅ := (F₃.push _).change hs₅ (Nat.ne_of_lt hlL) hBl
    clear F₃ N₃
    k_steps
    exact ret _ _ _ ys n' (leB_end hsB F₅) hl₅ hys
end Mine
namespace Mine
section
local macro_rules | `(tactic| walk_at "exec For") => `(tactic| refine halt ?_)
local macro_rules | `(tactic| walk_at "eval ListComp") => `(tactic| refine halt ?_)
local macro_rules | `(tactic| walk_at "exec Assign cons ListComp") => `(tactic| refine halt ?_)
local macro_rules | `(tactic| walk_at "compareOp Eq ref ref") => `(tactic| refine halt ?_)
local macro_rules | `(tactic| walk_at "compareOp NotEq ref ref") => `(tactic| refine halt ?_)
local macro_rules | `(tactic| walk_at "compareOp In str ref") => `(tactic| refine halt ?_)
local macro_rules | `(tactic| walk_at "compareOp NotIn str ref") => `(tactic| refine halt ?_)
local macro_rules | `(tactic| walk_at "call ref") => `(tactic| refine halt ?_)
local macro_rules | `(tactic| walk_at "call ref") => `(tactic| (with_unfolding_all (refine conv_call (Stat.le (by assumption) (Fr.keep (by k_asm))) (Room.mono (by assumption) (by decide)) (by first | exact .inl ⟨rfl, by assumption⟩ | exact .inr ⟨rfl, by assumption⟩) ?_); intro h' tk' hle'; walk_at "grown"))
local macro_rules | `(tactic| walk_at "grown") => `(tactic| ((rename Fr _ _ _ _ => kF); (rename News _ _ _ _ => kN); (rename Le _ _ => hle); replace kF := Fr.keeps kF hle; replace kN := News.grown kN hle; clear hle))
local macro_rules | `(tactic| walk_at "call builtin:str.lower") => `(tactic| k_dflt (refine lower_call (by assumption) ?_))
local macro_rules | `(tactic| walk_at "call builtin:str.upper") => `(tactic| k_dflt (refine upper_call (by assumption) ?_))
local macro_rules | `(tactic| walk_at "setItem ref ref") => `(tactic| refine halt ?_)
local macro_rules | `(tactic| walk_at "eval Slice") => `(tactic| refine halt ?_)
local macro_rules | `(tactic| walk_at "At") => `(tactic| exact ⟨_, _, _, rfl, by assumption, by assumption⟩)
local macro_rules | `(tactic| walk_at "StrVal") => `(tactic| exact ⟨_, rfl⟩)
local macro_rules | `(tactic| walk_at "eval Name") => `(tactic| ((with_reducible show wpAny _ _ (eval (Expr.Name _ _) (compEnvC _ _ _ _)) _ _ _); k_dflt (first
  | (refine' cn_local ?F ?v ?_ ?a ?b; (case F => k_asm); (case a => rfl); (case b => rfl); (case v => rfl); k_whole)
  | (refine' cn_cell ?F ?c ?v ?_ ?a ?b; (case a => rfl); (case b => rfl); (case F => k_asm); (case v => rfl); (case c => assumption); k_whole)
  | (refine' cn_global ?F ?X ?T ?e ?_ ?g ?a ?b; (case a => rfl); (case b => rfl); (case g => rfl); (case F => k_asm); (case X => k_asm); (case T => k_asm); (case e => k_is); k_whole))))
local macro_rules | `(tactic| walk_at "fn sides") => `(tactic| (
  (case o => k_dflt k_is)
  (case c => k_dflt k_is)
  (case b => first | exact BindsTo.of_eq rfl | exact binds_K (by assumption) rfl (by k_is) rfl rfl rfl)
  (case k => rfl)
  (case n => decide)
  (case hm => exact fun _ => rfl)
  (case c1 => rfl)
  (case c2 => rfl)
  (case c3 => rfl)))
local macro_rules | `(tactic| k_inst) => `(tactic| exact TableAt.inst (by k_asm) (by assumption))
local macro_rules | `(tactic| walk_at "subscriptTail Name Constant ref int") => `(tactic| (refine' tup_item ?F ?t ?a ?b ?c ?d ?_ ?e; (case F => k_asm); (case t => assumption); (case a => decide); (case b => decide); (case c => rfl); (case d => rfl); (case e => with_unfolding_all rfl)))

theorem join_texts : texts.map (fun y => (Txt.join (Str.ofString "; ") [y], JoinOk (Str.ofString "; ") [y])) = texts.map fun y => (y, true) := by kernel_rfl
theorem join_one {w : World} {A : Around} {s : Shared} {Q E : Value → Shared → Prop} {D : Addr} {t z : Tok} {y : Str} {n : Nat} (hl : s.heap.get? D = some (W.listOf #[.str y z] n)) (hy : y ∈ texts)
    (hq : ∀ t' k, Q (.str y t') { s with toks := k }) : wpAny (model PySem.Challenge.rw_pe0251_01.row.prog w) A (call (.builtin "str.join") [.str (Str.ofString "; ") t, .ref D]) Q E s := by
  have e := map_at join_texts y hy
  refine SC.join (l := [(y, z)]) (texts := [y]) ⟨_, hl, rfl, n, rfl⟩ rfl (congrArg Prod.snd e) ?_
  rw [show Txt.join (Str.ofString "; ") [y] = y from congrArg Prod.fst e]
  exact hq
set_option maxHeartbeats 4000000 in
theorem add_call {w : World} {A : Around} {s : Shared} {Q E : Value → Shared → Prop} {mean : ExcName → Option Value} {mg mb : Str → Option Value} {g : Heap}
    {t dx l : Addr} {hh : Int} {tk' : Tok} {ps : List (Str × Str)} (S : Stat w mean mg mb g) (hg : Le g s.heap) (hl : g.get? l = none) (R : Room A 6) (hT : TableAt s.heap t dx l hh tk') (hH : HdrsAt s.heap l ps) (hps : ps.length < 4096) {x y : Str} {u z : Tok} (hx : x ∈ heads) (hy : y ∈ texts)
    (ret : ∀ v h' tk, LeB l s.heap h' → HdrsAt h' l (ps ++ [(x, y)]) → Q v { s with heap := h', toks := tk }) :
    wpAny (model PySem.Challenge.rw_pe0251_01.row.prog w) A (call (.ref 172) [.ref t, .str x u, .str y z]) Q E s := by
  have X : (headK w.params).In g := S.k
  revert X
  k_fill
  intro X
  obtain ⟨vs, n, hol, hall, hlen⟩ := hH
  refine' enterKW (args := ⟨[.ref t, .str x u, .str y z], []⟩) (binds := fun d => [(Str.ofString "self", .ref t), (Str.ofString "_name", .str x u), (Str.ofString "_value", .str y z), (Str.ofString "_params", .ref d)]) (fun d => setAll [Str.ofString "self", Str.ofString "_name", Str.ofString "_value", Str.ofString "_params"] [.ref t, .str x u, .str y z, .ref d] fun _ => none) S hg hl hol R ?o ?c ?b ?k ?n ?hm ?_ ?c1 ?c2 ?c3
  case o => k_dflt k_is
  case c => k_dflt k_is
  case b => rfl
  case k => exact fun _ => rfl
  case n => decide
  case hm => exact fun _ _ => rfl
  case c1 => rfl
  case c2 => rfl
  case c3 => rfl
  intro L h₁ tk cells A B d R hgB hsB hBl F N hld hdL hsd Y
  cases Y
  have S₀ := S
  replace S := S.le hgB
  replace X := S.k
  have T := topRead_of S.t
  replace hT := hT.leB hol hsB
  replace hall := hall.mono fun _ _ q => PairVal.leB hol hsB q
  have hA := R.hh
  have hU := R.un
  have hvl : vs.length < 4096 := by rw [hall.length]; exact hps
  simp only [List.nil_append] at N
  k_steps
  refine unhalt ?_
  rename Fr _ _ _ _ => F₂
  rename News _ _ _ _ => N₂
  have h252 : (1 : Nat) < d := Nat.lt_trans (by decide : 1 < 3) (hsd 3 _ (hg _ _ (S₀.k 3 _ rfl)))
  generalize hm₀ : (fun y_1 => if y_1 = Str.ofString "_value" then some (Value.str y z) else _) = m₀ at F₂
  refine wpAny_For_items_locals (knd := strKind PySem.Challenge.rw_pe0251_01.row.prog w) (d := d) (kvs := []) (ep := 0) (m := m₀) hA rfl rfl rfl (Nat.ne_of_lt hdL) (by simpa [sysModules] using Nat.ne_of_gt h252) (empty_dictAt (N₂ _ (.tail _ (.head _))).1) F₂.ns rfl rfl ?_ (fun _ m => m = m₀) rfl ?_ ?_
  · intro Q' hq; subst hm₀; k_steps; exact hq
  · intro i k v key m₁ s₁ hi; simp at hi
  · rintro h₃ tk₃ m₃ hn₃ rfl hk₃
    have F₃ : Fr B L h₃ _ := ⟨hn₃, fun b o e => hk₃ b o (fun q => by have := Heap.lt_size e; rw [q] at this; exact Nat.lt_irrefl _ (Nat.lt_of_lt_of_le this F₂.above)) (F₂.keep b o e), F₂.above⟩
    have N₃ : News B L h₃ _ := fun p hp => ⟨hk₃ _ _ (N₂ p hp).2.1 (N₂ p hp).1, (N₂ p hp).2⟩
    clear F₂ N₂
    subst hm₀
    k_steps
    rename Fr _ _ _ _ => F₄
    rename News _ _ _ _ => N₄
    refine join_one (z := z) (n := 1) (by exact (N₄ _ (.head _)).1) hy fun t' k' => ?_
    k_steps
    rename Fr _ _ _ _ => F₅
    rename News _ _ _ _ => N₅
    have hT2 := (N₅ _ (.head _)).1
    have hL2 := (N₅ _ (.tail _ (.tail _ (.tail _ (.head _))))).1
    rw [push_list] at hL2
    exact ret _ _ _ (leB_end hsB F₅) ⟨_, _, hL2, (hall.mono fun _ _ q => q.le F₅.keep).snoc (b := (x, y)) ⟨_, _, _, rfl, _, hT2, rfl, _, rfl⟩, by simp; omega⟩
end
end Mine
namespace Mine
local macro_rules | `(tactic| walk_at "eval ListComp") => `(tactic| refine halt ?_)
local macro_rules | `(tactic| walk_at "exec Assign cons ListComp") => `(tactic| refine halt ?_)
local macro_rules | `(tactic| walk_at "exec For") => `(tactic| refine halt ?_)
local macro_rules | `(tactic| walk_at "exec For Name Call cons nil") => `(tactic| refine halt ?_)
local macro_rules | `(tactic| walk_at "pyIter ref") => `(tactic| refine halt ?_)
local macro_rules | `(tactic| walk_at "pyIter str") => `(tactic| refine halt ?_)
local macro_rules | `(tactic| walk_at "compareOp Eq ref ref") => `(tactic| refine halt ?_)
local macro_rules | `(tactic| walk_at "compareOp NotEq ref ref") => `(tactic| refine halt ?_)
local macro_rules | `(tactic| walk_at "compareOp In str ref") => `(tactic| refine halt ?_)
local macro_rules | `(tactic| walk_at "compareOp NotIn str ref") => `(tactic| refine halt ?_)
local macro_rules | `(tactic| walk_at "call ref") => `(tactic| refine halt ?_)
local macro_rules | `(tactic| walk_at "call ref") => `(tactic| ((with_unfolding_all (refine conv_call (Stat.le (by assumption) (Fr.keep (by k_asm))) (Room.mono (by assumption) (by decide)) (by first | exact .inl ⟨rfl, by assumption⟩ | exact .inr ⟨rfl, by assumption⟩) ?_)); intro h' tk' hle'; walk_at "grown"))
local macro_rules | `(tactic| walk_at "grown") => `(tactic| ((rename Fr _ _ _ _ => kF); (rename News _ _ _ _ => kN); (rename Le _ _ => hle); k_dflt (replace kF := Fr.keeps kF hle; replace kN := News.grown kN hle; clear hle)))
local macro_rules | `(tactic| walk_at "call builtin:str.lower") => `(tactic| k_dflt (refine lower_call (by assumption) ?_))
local macro_rules | `(tactic| walk_at "call builtin:str.upper") => `(tactic| k_dflt (refine upper_call (by assumption) ?_))
local macro_rules | `(tactic| walk_at "setItem ref ref") => `(tactic| refine halt ?_)
local macro_rules | `(tactic| walk_at "eval Slice") => `(tactic| refine halt ?_)
local macro_rules | `(tactic| walk_at "delItem ref") => `(tactic| (k_dflt (refine' del_item ?F ?X ?I ?hQ ?hS ?hF ?_; (case F => k_asm); (case X => k_asm); (case I => k_inst); (case hS => k_is); (case hF => k_is); (case hQ => k_is))))
local macro_rules | `(tactic| walk_at "At") => `(tactic| exact ⟨_, _, _, rfl, by assumption, by assumption⟩)
local macro_rules | `(tactic| walk_at "StrVal") => `(tactic| exact ⟨_, rfl⟩)
local macro_rules | `(tactic| walk_at "eval Name") => `(tactic| ((with_reducible show wpAny _ _ (eval (Expr.Name _ _) (compEnvC _ _ _ _)) _ _ _); k_dflt (first
  | (refine' cn_local ?F ?v ?_ ?a ?b; (case F => k_asm); (case a => rfl); (case b => rfl); (case v => rfl); k_whole)
  | (refine' cn_cell ?F ?c ?v ?_ ?a ?b; (case a => rfl); (case b => rfl); (case F => k_asm); (case v => rfl); (case c => assumption); k_whole)
  | (refine' cn_global ?F ?X ?T ?e ?_ ?g ?a ?b; (case a => rfl); (case b => rfl); (case g => rfl); (case F => k_asm); (case X => k_asm); (case T => k_asm); (case e => k_is); k_whole))))
local macro_rules | `(tactic| walk_at "fn sides") => `(tactic| (
  (case o => k_dflt k_is)
  (case c => k_dflt k_is)
  (case b => first | exact BindsTo.of_eq rfl | exact binds_K (by assumption) rfl (by k_is) rfl rfl rfl)
  (case k => rfl)
  (case n => decide)
  (case hm => exact fun _ => rfl)
  (case c1 => rfl)
  (case c2 => rfl)
  (case c3 => rfl)))
local macro_rules | `(tactic| k_inst) => `(tactic| exact TableAt.inst (by k_asm) (by assumption))
local macro_rules | `(tactic| walk_at "subscriptTail Name Constant ref int") => `(tactic| (refine' tup_item ?F ?t ?a ?b ?c ?d ?_ ?e; (case F => k_asm); (case t => assumption); (case a => decide); (case b => decide); (case c => rfl); (case d => rfl); (case e => with_unfolding_all rfl)))
set_option maxHeartbeats 4000000 in
theorem set_call {w : World} {A : Around} {s : Shared} {Q E : Value → Shared → Prop} {mean : ExcName → Option Value} {mg mb : Str → Option Value} {g : Heap}
    {t dx l : Addr} {hh : Int} {tk' : Tok} {ps : List (Str × Str)} (S : Stat w mean mg mb g) (hg : Le g s.heap) (hl : g.get? l = none) (R : Room A 7) (hT : TableAt s.heap t dx l hh tk') (hH : HdrsAt s.heap l ps) (hN : ∀ p ∈ ps, p.1 ∈ heads) (hps : ps.length < 4096) {x y : Str} {u z : Tok} (hx : x ∈ heads) (hy : y ∈ texts)
    (ret : ∀ v h' tk, LeB l s.heap h' → HdrsAt h' l ((ps.filter fun p => low p.1 != low x) ++ [(x, y)]) → Q v { s with heap := h', toks := tk }) :
    wpAny (model PySem.Challenge.rw_pe0251_01.row.prog w) A (call (.ref 90) [.ref t, .str x u, .str y z]) Q E s := by
  have X : (headK w.params).In g := S.k
  revert X
  k_fill
  intro X
  obtain ⟨vs, n, hol, hall, hlen⟩ := hH
  refine' enterW (args := ⟨[.ref t, .str x u, .str y z], []⟩) (binds := [(Str.ofString "self", .ref t), (Str.ofString "name", .str x u), (Str.ofString "val", .str y z)]) (setAll [Str.ofString "self", Str.ofString "name", Str.ofString "val"] [.ref t, .str x u, .str y z] fun _ => none) S hg hl hol R ?o ?c ?b ?k ?n ?hm ?_ ?c1 ?c2 ?c3
  walk_at "fn sides"
  intro L h₁ tk cells A B R hgB hsB hBs hBl F N hlL Y
  cases Y
  have S₀ := S
  replace S := S.le hgB
  replace X := S.k
  have T := topRead_of S.t
  replace hT := hT.leB hol hsB
  replace hall := hall.mono fun _ _ q => PairVal.leB hol hsB q
  have hA := R.hh
  have hU := R.un
  simp only [List.nil_append] at N
  have hvl : vs.length < 4096 := by rw [hall.length]; exact hps
  k_steps
  refine unhalt ?_
  refine del_call S₀ (by exact Le.trans hgB F.keep) hl (R.mono (by decide)) (by exact hT.le F.keep) (by exact (N _ (.head _)).1) (by exact hall.mono fun _ _ q => q.le F.keep) hlen hall hN hx fun v h₂ tk₂ vs₂ n₂ hleB hl₂ hall₂ => ?_
  have hBl' : ∀ b o, B.get? b = some o → b ≠ l := fun b o e q => by rw [q, hBl] at e; cases e
  replace F : Fr B L h₂ _ := ⟨F.ns.at' fun o e => hleB _ o (Ne.symm (Nat.ne_of_lt hlL)) e, fun b o e => hleB b o (hBl' b o e) (F.keep b o e), F.above⟩
  replace N : News B L h₂ [(l, W.listOf vs₂.toArray n₂)] := fun p hp => by
    cases List.mem_singleton.mp hp; exact ⟨hl₂, Nat.ne_of_lt hlL, hBl⟩
  have hvl₂ : vs₂.length < 4096 := by rw [hall₂.length]; exact Nat.lt_of_le_of_lt (List.length_filter_le _ _) hps
  have hpl₂ : (ps.filter fun p => low p.1 != low x).length < 4096 := Nat.lt_of_le_of_lt (List.length_filter_le _ _) hps
  k_steps
  rename Fr _ _ _ _ => F₅
  rename News _ _ _ _ => N₅
  have hT2 := (N₅ _ (.head _)).1
  have hL2 := (N₅ _ (.tail _ (.head _))).1
  rw [push_list] at hL2
  exact ret _ _ _ (leB_end hsB F₅) ⟨_, _, hL2, (hall₂.mono fun _ _ q => q.le F₅.keep).snoc (b := (x, y)) ⟨_, _, _, rfl, _, hT2, rfl, _, rfl⟩, by simp; omega⟩
set_option maxHeartbeats 4000000 in
theorem items_call {w : World} {A : Around} {s : Shared} {Q E : Value → Shared → Prop} {mean : ExcName → Option Value} {mg mb : Str → Option Value}
    {t dx l : Addr} {hh : Int} {tk' : Tok} {ps : List (Str × Str)} (S : Stat w mean mg mb s.heap) (R : Room A 4) (hT : TableAt s.heap t dx l hh tk') (hH : HdrsAt s.heap l ps)
    (ret : ∀ D h' tk, Le s.heap h' → HdrsAt h' D ps → Q (.ref D) { s with heap := h', toks := tk }) :
    wpAny (model PySem.Challenge.rw_pe0251_01.row.prog w) A (call (.ref 139) [.ref t]) Q E s := by
  have X : (headK w.params).In s.heap := S.k
  revert X
  k_fill
  intro X
  have T := topRead_of S.t
  refine' enter0 (args := ⟨[.ref t], []⟩) (binds := [(Str.ofString "self", .ref t)]) (setAll [Str.ofString "self"] [.ref t] fun _ => none) S R ?o ?c ?b ?k ?n ?hm ?_ ?c1 ?c2 ?c3
  walk_at "fn sides"
  intro L h₁ tk cells A R F N Y
  cases Y
  have hA := R.hh
  have hU := R.un
  obtain ⟨vs, n, hol, hall, hlen⟩ := hH
  k_steps
  refine unhalt ?_
  refine wpAny_Slice (wpAny_pure (wpAny_pure (wpAny_pure ?_)))
  refine slice_copy (its := vs) (by k_asm) (by k_asm) ⟨_, F.keep _ _ hol, rfl, n, rfl⟩ (by rw [hall.length]; exact hlen) fun D h₂ hle _ F₂ N₂ => ?_
  clear F N
  k_steps
  exact ret _ _ _ F₂.keep ⟨vs, 0, (N₂ _ (.head _)).1, hall.mono fun _ _ q => q.le F₂.keep, hlen⟩
end Mine
namespace Mine
local macro_rules | `(tactic| walk_at "eval ListComp") => `(tactic| refine halt ?_)
local macro_rules | `(tactic| walk_at "exec Assign cons ListComp") => `(tactic| refine halt ?_)
local macro_rules | `(tactic| walk_at "exec For") => `(tactic| refine halt ?_)
local macro_rules | `(tactic| walk_at "exec For Name Call cons nil") => `(tactic| refine halt ?_)
local macro_rules | `(tactic| walk_at "pyIter ref") => `(tactic| refine halt ?_)
local macro_rules | `(tactic| walk_at "pyIter str") => `(tactic| refine halt ?_)
local macro_rules | `(tactic| walk_at "compareOp Eq ref ref") => `(tactic| refine halt ?_)
local macro_rules | `(tactic| walk_at "compareOp NotEq ref ref") => `(tactic| refine halt ?_)
local macro_rules | `(tactic| walk_at "compareOp In str ref") => `(tactic| refine halt ?_)
local macro_rules | `(tactic| walk_at "compareOp NotIn str ref") => `(tactic| refine halt ?_)
local macro_rules | `(tactic| walk_at "call ref") => `(tactic| refine halt ?_)
local macro_rules | `(tactic| walk_at "call ref") => `(tactic| ((with_unfolding_all (refine conv_call (Stat.le (by assumption) (Fr.keep (by k_asm))) (Room.mono (by assumption) (by decide)) (by first | exact .inl ⟨rfl, by assumption⟩ | exact .inr ⟨rfl, by assumption⟩) ?_)); intro h' tk' hle'; walk_at "grown"))
local macro_rules | `(tactic| walk_at "grown") => `(tactic| ((rename Fr _ _ _ _ => kF); (rename News _ _ _ _ => kN); (rename Le _ _ => hle); k_dflt (replace kF := Fr.keeps kF hle; replace kN := News.grown kN hle; clear hle)))
local macro_rules | `(tactic| walk_at "call builtin:str.lower") => `(tactic| k_dflt (refine lower_call (by assumption) ?_))
local macro_rules | `(tactic| walk_at "call builtin:str.upper") => `(tactic| k_dflt (refine upper_call (by assumption) ?_))
local macro_rules | `(tactic| walk_at "setItem ref ref") => `(tactic| refine halt ?_)
local macro_rules | `(tactic| walk_at "eval Slice") => `(tactic| refine halt ?_)
local macro_rules | `(tactic| walk_at "delItem ref") => `(tactic| (k_dflt (refine' del_item ?F ?X ?I ?hQ ?hS ?hF ?_; (case F => k_asm); (case X => k_asm); (case I => k_inst); (case hS => k_is); (case hF => k_is); (case hQ => k_is))))
local macro_rules | `(tactic| walk_at "At") => `(tactic| exact ⟨_, _, _, rfl, by assumption, by assumption⟩)
local macro_rules | `(tactic| walk_at "StrVal") => `(tactic| exact ⟨_, rfl⟩)
local macro_rules | `(tactic| walk_at "eval Name") => `(tactic| ((with_reducible show wpAny _ _ (eval (Expr.Name _ _) (compEnvC _ _ _ _)) _ _ _); k_dflt (first
  | (refine' cn_local ?F ?v ?_ ?a ?b; (case F => k_asm); (case a => rfl); (case b => rfl); (case v => rfl); k_whole)
  | (refine' cn_cell ?F ?c ?v ?_ ?a ?b; (case a => rfl); (case b => rfl); (case F => k_asm); (case v => rfl); (case c => assumption); k_whole)
  | (refine' cn_global ?F ?X ?T ?e ?_ ?g ?a ?b; (case a => rfl); (case b => rfl); (case g => rfl); (case F => k_asm); (case X => k_asm); (case T => k_asm); (case e => k_is); k_whole))))
local macro_rules | `(tactic| walk_at "fn sides") => `(tactic| (
  (case o => k_dflt k_is)
  (case c => k_dflt k_is)
  (case b => first | exact BindsTo.of_eq rfl | exact binds_K (by assumption) rfl (by k_is) rfl rfl rfl)
  (case k => rfl)
  (case n => decide)
  (case hm => exact fun _ => rfl)
  (case c1 => rfl)
  (case c2 => rfl)
  (case c3 => rfl)))
local macro_rules | `(tactic| k_inst) => `(tactic| exact TableAt.inst (by k_asm) (by assumption))
local macro_rules | `(tactic| walk_at "subscriptTail Name Constant ref int") => `(tactic| (refine' tup_item ?F ?t ?a ?b ?c ?d ?_ ?e; (case F => k_asm); (case t => assumption); (case a => decide); (case b => decide); (case c => rfl); (case d => rfl); (case e => with_unfolding_all rfl)))
local macro_rules | `(tactic| k_all) => `(tactic| assumption)
set_option maxHeartbeats 4000000 in
theorem table_call {w : World} {A : Around} {s : Shared} {Q E : Value → Shared → Prop} {mean : ExcName → Option Value} {mg mb : Str → Option Value}
    (S : Stat w mean mg mb s.heap) (R : Room A 10) {ca : Addr} {cs : List CallD} (hC : CallsAt s.heap ca cs) (hok : ∀ c ∈ cs, CallOk c)
    (ret : ∀ x dx l hh tk' h' tk, Le s.heap h' → s.heap.get? x = none → s.heap.get? dx = none → TableAt h' x dx l hh tk' → HdrsAt h' l (tableF cs) → Q (.ref x) { s with heap := h', toks := tk }) :
    wpAny (model PySem.Challenge.rw_pe0251_01.row.prog w) A (call (.ref 201) [.ref ca]) Q E s := by
  have X : (headK w.params).In s.heap := S.k
  revert X
  k_fill
  intro X
  have T := topRead_of S.t
  refine' enter0 (args := ⟨[.ref ca], []⟩) (binds := [(Str.ofString "calls", .ref ca)]) (setAll [Str.ofString "calls"] [.ref ca] fun _ => none) S R ?o ?c ?b ?k ?n ?hm ?_ ?c1 ?c2 ?c3
  walk_at "fn sides"
  intro L h₁ tk cells A R F N Y
  have hA := R.hh
  have hU := R.un
  cases Y
  obtain ⟨vs, hvs, hall, hlen⟩ := hC
  k_steps
  refine unhalt ?_
  rename Fr _ _ _ _ => F₂
  rename News _ _ _ _ => N₂
  refine headers_call S (R.mono (by decide)) F₂ N₂ (.head _) fun x dx h₂ tk₂ hh tkh F₃ N₃ hl1 hl2 => ?_
  rename_i l hq1 hq2
  have hdl : @Ne Nat dx l := Ne.symm (Nat.ne_of_lt (hl1 _ (.head _)))
  have hxl : @Ne Nat x l := Ne.symm (Nat.ne_of_lt (Nat.lt_trans (hl1 _ (.head _)) hl2))
  have hBl := (N₂ _ (.head _)).2.2
  have hLl : @Ne Nat L l := Ne.symm (N₂ _ (.head _)).2.1
  clear F₂ N₂
  k_steps
  refine unhalt ?_
  refine wpAny_For ?_
  k_steps
  refine unhalt ?_
  rename Fr _ _ _ _ => F₄
  rename News _ _ _ _ => N₄
  generalize hm₀ : (fun y => if y = Str.ofString "table" then some (Value.ref x) else _) = m₀ at F₄
  refine for_iterC (iter_list hA (isList_le F₄.keep hvs)) (fun i m nx => (∀ z, z ∉ [Str.ofString "call", Str.ofString "head", Str.ofString "text", Str.ofString "sides"] → m z = m₀ z) ∧ ∃ nx', nx = (x, instObj 175 dx) :: (dx, dictOf [⟨hh, .str (Str.ofString "_headers") tkh, .ref l⟩] 1) :: nx' ∧ PairsT s.heap l ((cs.take i).foldl stepT []) nx') F₄ N₄ ⟨fun _ _ => rfl, _, rfl, [], 0, [], rfl, (fun _ h => nomatch h), .nil⟩ ?_ ?_ ?_
  · rintro i m nx h _ F' _
    exact isList_le F'.keep hvs
  · clear N₄ F₄
    rintro i v m nx h tk I oI E' hv ⟨hm, nx', rfl, hPT⟩ F' N' hoff hcalm
    obtain ⟨c, hc, a, t0, t1, t2, b, rfl, htup, _⟩ := hall.get (by simpa using hv)
    obtain ⟨hk, hch, hct⟩ := hok c (List.mem_of_getElem? hc)
    have hfold := fold_at (f := stepT) (a := []) hc
    have hlT : ((cs.take i).foldl stepT []).length ≤ 64 := by
      have := foldT_len (cs.take i) []
      have h2 := List.length_take_le' i cs
      rw [List.length_nil] at this
      omega
    have hTok : PsOk ((cs.take i).foldl stepT []) := foldT_ok _ (fun _ h => nomatch h) fun d hd => hok d (List.mem_of_mem_take hd)
    generalize (cs.take i).foldl stepT [] = T0 at *
    have hIx : @Ne Nat x I := hoff _ (.head _)
    have hId : @Ne Nat dx I := hoff _ (.tail _ (.head _))
    have hIl : @Ne Nat I l := by obtain ⟨o, ho⟩ := hPT.mem; exact Ne.symm (hoff _ (.tail _ (.tail _ ho)))
    have hfin : ∀ {nx''}, (∀ p ∈ nx'', p.1 ≠ I) → ∀ {o1 o2}, ∀ p ∈ (x, o1) :: (dx, o2) :: nx'', p.1 ≠ I := fun h => off2 hIx hId h
    obtain ⟨ck, chd, ctx, csd⟩ := c
    dsimp only at hk hch hct htup
    subst hm₀
    refine assign_tup [(Str.ofString "call", _), (Str.ofString "head", _), (Str.ofString "text", _), (Str.ofString "sides", _)] hA (fr_over F' hm) N' (isTuple_le F'.keep htup) rfl rfl rfl rfl rfl rfl fun h₂ tk₂ F₃ N₃ => ?_
    clear F' N'
    rcases hk with rfl | rfl | rfl | rfl
    · k_steps
      refine unhalt ?_
      have hTA : TableAt h₂ x dx l hh tkh := ⟨(N₃ _ (.tail _ (.head _))).1, (N₃ _ (.tail _ (.tail _ (.head _)))).1⟩
      have hHd := hPT.hdrs (by omega) F₃ N₃ fun p hp => .tail _ (.tail _ (.tail _ hp))
      refine add_call S (by exact F₃.keep) hBl (R.mono (by decide)) (by exact hTA) (by exact hHd) (by omega) hch hct fun v9 h₉ tk₉ hle₉ hP₉ => ?_
      obtain ⟨F₉, nx9, N₉, hPT9, ho9⟩ := turn_leB F₃ N₃ hle₉ hP₉ hBl hLl hIl hxl hdl hcalm
      clear F₃ N₃ hTA hle₉
      k_steps
      exact ⟨_, _, _, _, rfl, F₉, N₉, hfin ho9, fun z hz => (setAll_ne hz).trans (over_ne hz), _, rfl, by rw [hfold, stepT0]; exact hPT9⟩
    · k_steps
      refine unhalt ?_
      have hTA : TableAt h₂ x dx l hh tkh := ⟨(N₃ _ (.tail _ (.head _))).1, (N₃ _ (.tail _ (.tail _ (.head _)))).1⟩
      have hHd := hPT.hdrs (by omega) F₃ N₃ fun p hp => .tail _ (.tail _ (.tail _ hp))
      refine setdef_call S (by exact F₃.keep) hBl (R.mono (by decide)) (by exact hTA) (by exact hHd) (fun p hp => (hTok p hp).1) (by omega) hch hct fun v9 h₉ tk₉ hle₉ hP₉ => ?_
      obtain ⟨F₉, nx9, N₉, hPT9, ho9⟩ := turn_leB F₃ N₃ hle₉ hP₉ hBl hLl hIl hxl hdl hcalm
      clear F₃ N₃ hTA hle₉
      k_steps
      exact ⟨_, _, _, _, rfl, F₉, N₉, hfin ho9, fun z hz => (setAll_ne hz).trans (over_ne hz), _, rfl, by rw [hfold, stepT1]; exact hPT9⟩
    · k_steps
      refine unhalt ?_
      have hTA : TableAt h₂ x dx l hh tkh := ⟨(N₃ _ (.tail _ (.head _))).1, (N₃ _ (.tail _ (.tail _ (.head _)))).1⟩
      have hHd := hPT.hdrs (by omega) F₃ N₃ fun p hp => .tail _ (.tail _ (.tail _ hp))
      refine set_call S (by exact F₃.keep) hBl (R.mono (by decide)) (by exact hTA) (by exact hHd) (fun p hp => (hTok p hp).1) (by omega) hch hct fun v9 h₉ tk₉ hle₉ hP₉ => ?_
      obtain ⟨F₉, nx9, N₉, hPT9, ho9⟩ := turn_leB F₃ N₃ hle₉ hP₉ hBl hLl hIl hxl hdl hcalm
      clear F₃ N₃ hTA hle₉
      k_steps
      exact ⟨_, _, _, _, rfl, F₉, N₉, hfin ho9, fun z hz => (setAll_ne hz).trans (over_ne hz), _, rfl, by rw [hfold, stepT2]; exact hPT9⟩
    · k_steps
      refine unhalt ?_
      have hTA : TableAt h₂ x dx l hh tkh := ⟨(N₃ _ (.tail _ (.head _))).1, (N₃ _ (.tail _ (.tail _ (.head _)))).1⟩
      have hHd := hPT.hdrs (by omega) F₃ N₃ fun p hp => .tail _ (.tail _ (.tail _ hp))
      obtain ⟨us, un, hol, hall9, hlen9⟩ := hHd
      refine del_call S (by exact F₃.keep) hBl (R.mono (by decide)) (by exact hTA) (by exact hol) (by exact hall9) hlen9 hall9 (fun p hp => (hTok p hp).1) hch fun v9 h₉ tk₉ us' un' hle₉ hol₉ hall₉ => ?_
      have hP₉ := del_hdrs hol hle₉ hol₉ hall₉ (Nat.le_trans (List.length_filter_le _ _) hlen9)
      obtain ⟨F₉, nx9, N₉, hPT9, ho9⟩ := turn_leB F₃ N₃ hle₉ hP₉ hBl hLl hIl hxl hdl hcalm
      clear F₃ N₃ hTA hle₉
      k_steps
      exact ⟨_, _, _, _, rfl, F₉, N₉, hfin ho9, fun z hz => (setAll_ne hz).trans (over_ne hz), _, rfl, by rw [hfold, stepT3]; exact hPT9⟩
  · rintro m nx h tk ⟨hm, nx', rfl, hPT⟩ F' N'
    subst hm₀
    replace F' := fr_over F' hm
    clear F₄ N₄
    rw [show vs.toArray.size = cs.length from by rw [List.size_toArray]; exact hall.length, List.take_length] at hPT
    have hl9 := foldT_len cs []
    rw [List.length_nil] at hl9
    k_steps
    exact ret x dx l hh tkh _ _ F'.keep (N' _ (.head _)).2.2 (N' _ (.tail _ (.head _))).2.2 ⟨(N' _ (.head _)).1, (N' _ (.tail _ (.head _))).1⟩ (hPT.hdrs (by omega) F' N' fun p hp => .tail _ (.tail _ hp))
end Mine
namespace Mine
def tokL : List (Str × Nat × Value) := [(Str.ofString "!", 646, .int 54 642), (Str.ofString "!=", 648, .int 28 590), (Str.ofString "%", 650, .int 24 582), (Str.ofString "%=", 652, .int 40 614), (Str.ofString "&", 654, .int 19 572), (Str.ofString "&=", 656, .int 41 616), (Str.ofString "(", 658, .int 7 548), (Str.ofString ")", 660, .int 8 550), (Str.ofString "*", 662, .int 16 566), (Str.ofString "**", 664, .int 35 604), (Str.ofString "**=", 666, .int 46 626), (Str.ofString "*=", 668, .int 38 610), (Str.ofString "+", 670, .int 14 562), (Str.ofString "+=", 672, .int 36 606), (Str.ofString ",", 674, .int 12 558), (Str.ofString "-", 676, .int 15 564), (Str.ofString "-=", 678, .int 37 608), (Str.ofString "->", 680, .int 51 636), (Str.ofString ".", 682, .int 23 580), (Str.ofString "...", 684, .int 52 638), (Str.ofString "/", 686, .int 17 568), (Str.ofString "//", 688, .int 47 628), (Str.ofString "//=", 690, .int 48 630), (Str.ofString "/=", 692, .int 39 612), (Str.ofString ":", 694, .int 11 556), (Str.ofString ":=", 696, .int 53 640), (Str.ofString ";", 698, .int 13 560), (Str.ofString "<", 700, .int 20 574), (Str.ofString "<<", 702, .int 33 600), (Str.ofString "<<=", 704, .int 44 622), (Str.ofString "<=", 706, .int 29 592), (Str.ofString "=", 708, .int 22 578), (Str.ofString "==", 710, .int 27 588), (Str.ofString ">", 712, .int 21 576), (Str.ofString ">=", 714, .int 30 594), (Str.ofString ">>", 715, .int 34 602), (Str.ofString ">>=", 716, .int 45 624), (Str.ofString "@", 717, .int 49 632), (Str.ofString "@=", 718, .int 50 634), (Str.ofString "[", 719, .int 9 552), (Str.ofString "]", 720, .int 10 554), (Str.ofString "^", 721, .int 32 598), (Str.ofString "^=", 722, .int 43 620), (Str.ofString "{", 723, .int 25 584), (Str.ofString "|", 724, .int 18 570), (Str.ofString "|=", 725, .int 42 618), (Str.ofString "}", 726, .int 26 586), (Str.ofString "~", 727, .int 31 596)]
def tokEs (P : Params) : List DictEntry := tokL.map fun p => ⟨PyData.keyHash P p.1, .str p.1 p.2.1, p.2.2⟩
def tokKv : List (Str × Value) := tokL.map fun p => (p.1, p.2.2)
theorem tok_at {w : World} {h : Heap} (X : (headK w.params).In h) : h.get? 180 = some (dictOf (tokEs w.params) 48) := X _ _ (by rfl)
theorem tok_pairs {w : World} : ∀ L : List (Str × Nat × Value), Pairs (PySem.strKind PySem.Challenge.rw_pe0251_01.row.prog w) (L.map fun p => (⟨PyData.keyHash w.params p.1, .str p.1 p.2.1, p.2.2⟩ : DictEntry)) (L.map fun p => (p.1, p.2.2))
  | [] => .nil
  | p :: L => .cons (by simp [PySem.strKind, Value.isStrOf]) rfl (tok_pairs L)
theorem tok_dict {w : World} {h : Heap} (X : (headK w.params).In h) : h.DictOf (PySem.strKind PySem.Challenge.rw_pe0251_01.row.prog w) 180 tokKv := by
  refine ⟨_, _, _, tok_at X, ⟨rfl, rfl, rfl⟩, rfl, ?_, ?_, by decide +kernel⟩
  · intro e he
    have he' : e ∈ tokEs w.params := by simpa using he
    obtain ⟨p, _, rfl⟩ := List.mem_map.mp he'
    exact ⟨p.1, by simp [PySem.strKind, Value.isStrOf], rfl⟩
  · exact tok_pairs tokL
def signs : List Nat := lets ++ [38, 124]
def tokNum (c : Nat) : Int := if c = 38 then 19 else if c = 124 then 18 else 256
def numOf (v : Value) : Int := match v with | .int i _ => i | _ => 0
theorem tok_signs : signs.map (fun c => ((valueAt tokKv (st [c])).map numOf, (valueAt tokKv (st [c])).isSome, (match valueAt tokKv (st [c]) with | some (.int _ _) => true | none => true | _ => false))) = signs.map fun c => (if c = 38 then some 19 else if c = 124 then some 18 else none, decide (c = 38 ∨ c = 124), true) := by decide +kernel
theorem tok_get {w : World} {A : Around} {s : Shared} {Q E : Value → Shared → Prop} {c : Nat} {t u : Tok} (X : (headK w.params).In s.heap) (hc : c ∈ signs) (h : ∀ u', Q (.int (tokNum c) u') { s with toks := s.toks + 1 }) :
    wpAny (model PySem.Challenge.rw_pe0251_01.row.prog w) A (call (.builtin "dict.get") [.ref 180, .str (st [c]) t, .int 256 u]) Q E s := by
  refine call_meetsIn PySem.F.slot_dict_get ⟨_, tok_at X, rfl⟩ PySem.F.entry_dict_get (PySem.F.args_dict_get_3 _ _ _) (meets_dict_get_default (PySem.strKind PySem.Challenge.rw_pe0251_01.row.prog w) 180 (k := st [c]) (by simp [PySem.strKind, Value.isStrOf]) rfl (.int 256 u)) ⟨_, (tok_dict X).mapOf, ?_⟩
  have e := map_at tok_signs c hc
  have e1 := congrArg Prod.fst e
  have e3 := congrArg (fun x => x.2.2) e
  dsimp only at e1 e3
  unfold tokNum at h
  cases hv : valueAt tokKv (st [c]) with
  | none =>
    rw [hv] at e1
    split at e1
    · cases e1
    · split at e1
      · cases e1
      · rename_i h1 h2
        rw [if_neg h1, if_neg h2] at h
        exact h u
  | some v =>
    rw [hv] at e1 e3
    cases v with
    | int i t' =>
      split at e1
      · rename_i h1
        rw [if_pos h1] at h
        cases e1
        exact h t'
      · split at e1
        · rename_i h1 h2
          rw [if_neg h1, if_pos h2] at h
          cases e1
          exact h t'
        · cases e1
    | _ => cases e3
theorem tok_meth {w : World} {A : Around} {s : Shared} {E : Value → Shared → Prop} {pl : Sem Bool} {Q : Value × List Value → Shared → Prop} (X : (headK w.params).In s.heap) (h : Q (.builtin "dict.get", [.ref 180]) s) :
    wpAny (model PySem.Challenge.rw_pe0251_01.row.prog w) A (getMethod (.ref 180) (Str.ofString "get") pl) Q E s :=
  getMethod_builtin ⟨_, tok_at X, rfl⟩ PySem.F.plainAttrs_dict PySem.F.slot_dict_get PySem.F.type_dict_get (fun b q => by cases q; exact ⟨_, tok_at X, rfl⟩) h
end Mine
namespace Mine
local macro_rules | `(tactic| walk_at "eval ListComp") => `(tactic| refine halt ?_)
local macro_rules | `(tactic| walk_at "exec Assign cons ListComp") => `(tactic| refine halt ?_)
local macro_rules | `(tactic| walk_at "exec For") => `(tactic| refine halt ?_)
local macro_rules | `(tactic| walk_at "exec For Name Call cons nil") => `(tactic| refine halt ?_)
local macro_rules | `(tactic| walk_at "pyIter ref") => `(tactic| refine halt ?_)
local macro_rules | `(tactic| walk_at "pyIter str") => `(tactic| refine halt ?_)
local macro_rules | `(tactic| walk_at "compareOp Eq ref ref") => `(tactic| refine halt ?_)
local macro_rules | `(tactic| walk_at "compareOp NotEq ref ref") => `(tactic| refine halt ?_)
local macro_rules | `(tactic| walk_at "compareOp In str ref") => `(tactic| refine halt ?_)
local macro_rules | `(tactic| walk_at "compareOp NotIn str ref") => `(tactic| refine halt ?_)
local macro_rules | `(tactic| walk_at "call ref") => `(tactic| refine halt ?_)
local macro_rules | `(tactic| walk_at "call ref") => `(tactic| ((with_unfolding_all (refine conv_call (Stat.le (by assumption) (Fr.keep (by k_asm))) (Room.mono (by assumption) (by decide)) (by first | exact .inl ⟨rfl, by assumption⟩ | exact .inr ⟨rfl, by assumption⟩) ?_)); intro h' tk' hle'; walk_at "grown"))
local macro_rules | `(tactic| walk_at "grown") => `(tactic| ((rename Fr _ _ _ _ => kF); (rename News _ _ _ _ => kN); (rename Le _ _ => hle); k_dflt (replace kF := Fr.keeps kF hle; replace kN := News.grown kN hle; clear hle)))
local macro_rules | `(tactic| walk_at "call builtin:str.lower") => `(tactic| k_dflt (refine lower_call (by assumption) ?_))
local macro_rules | `(tactic| walk_at "call builtin:str.upper") => `(tactic| k_dflt (refine upper_call (by assumption) ?_))
local macro_rules | `(tactic| walk_at "setItem ref ref") => `(tactic| refine halt ?_)
local macro_rules | `(tactic| walk_at "eval Slice") => `(tactic| refine halt ?_)
local macro_rules | `(tactic| walk_at "delItem ref") => `(tactic| (k_dflt (refine' del_item ?F ?X ?I ?hQ ?hS ?hF ?_; (case F => k_asm); (case X => k_asm); (case I => k_inst); (case hS => k_is); (case hF => k_is); (case hQ => k_is))))
local macro_rules | `(tactic| walk_at "At") => `(tactic| exact ⟨_, _, _, rfl, by assumption, by assumption⟩)
local macro_rules | `(tactic| walk_at "StrVal") => `(tactic| exact ⟨_, rfl⟩)
local macro_rules | `(tactic| walk_at "eval Name") => `(tactic| ((with_reducible show wpAny _ _ (eval (Expr.Name _ _) (compEnvC _ _ _ _)) _ _ _); k_dflt (first
  | (refine' cn_local ?F ?v ?_ ?a ?b; (case F => k_asm); (case a => rfl); (case b => rfl); (case v => rfl); k_whole)
  | (refine' cn_cell ?F ?c ?v ?_ ?a ?b; (case a => rfl); (case b => rfl); (case F => k_asm); (case v => rfl); (case c => assumption); k_whole)
  | (refine' cn_global ?F ?X ?T ?e ?_ ?g ?a ?b; (case a => rfl); (case b => rfl); (case g => rfl); (case F => k_asm); (case X => k_asm); (case T => k_asm); (case e => k_is); k_whole))))
local macro_rules | `(tactic| walk_at "fn sides") => `(tactic| (
  (case o => k_dflt k_is)
  (case c => k_dflt k_is)
  (case b => first | exact BindsTo.of_eq rfl | exact binds_K (by assumption) rfl (by k_is) rfl rfl rfl)
  (case k => rfl)
  (case n => decide)
  (case hm => exact fun _ => rfl)
  (case c1 => rfl)
  (case c2 => rfl)
  (case c3 => rfl)))
local macro_rules | `(tactic| k_inst) => `(tactic| exact TableAt.inst (by k_asm) (by assumption))
local macro_rules | `(tactic| walk_at "subscriptTail Name Constant ref int") => `(tactic| (refine' tup_item ?F ?t ?a ?b ?c ?d ?_ ?e; (case F => k_asm); (case t => assumption); (case a => decide); (case b => decide); (case c => rfl); (case d => rfl); (case e => with_unfolding_all rfl)))
set_option maxHeartbeats 4000000 in
theorem isnt_call {w : World} {A : Around} {s : Shared} {Q E : Value → Shared → Prop} {mean : ExcName → Option Value} {mg mb : Str → Option Value}
    (S : Stat w mean mg mb s.heap) (R : Room A 2) {n : Int} {u : Tok} (ret : ∀ h' tk, Le s.heap h' → Q (.bool (decide (256 ≤ n))) { s with heap := h', toks := tk }) :
    wpAny (model PySem.Challenge.rw_pe0251_01.row.prog w) A (call (.ref 189) [.int n u]) Q E s := by
  have X : (headK w.params).In s.heap := S.k
  revert X
  k_fill
  intro X
  have T := topRead_of S.t
  refine' enter0 (args := ⟨[.int n u], []⟩) (binds := [(Str.ofString "x", .int n u)]) (setAll [Str.ofString "x"] [.int n u] fun _ => none) S R ?o ?c ?b ?k ?n ?hm ?_ ?c1 ?c2 ?c3
  walk_at "fn sides"
  intro L h₁ tk cells A R F N Y
  cases Y
  k_steps
  all_goals exact ret _ _ F.keep
def stepS (acc : List (List Str) × List Str) (c : Nat) : List (List Str) × List Str := if c = 38 then acc else if c = 124 then (acc.1 ++ [acc.2], []) else (acc.1, acc.2 ++ [st [c]])
def sidesOf (x : Str) : List (List Str) := (x.cps.toList.foldl stepS ([], [])).1 ++ [(x.cps.toList.foldl stepS ([], [])).2]
def SideIn (olds : List (Addr × Obj)) (v : Value) (side : List Str) : Prop := ∃ b vs n, v = .ref b ∧ (b, W.listOf vs.toArray n) ∈ olds ∧ All2 StrVal vs side ∧ side.length ≤ 4096
theorem last_item {w : World} {A : Around} {s : Shared} {Q E : Value → Shared → Prop} {value slice : Expr} {l : Addr} {vs : List Value} {v : Value} {t : Tok} (hl : s.heap.IsList l (vs ++ [v]).toArray) (h : Q v s)
    (hs : subscripted slice false (.ref l) (.int (-1) t) = operate [.ref l, .int (-1) t] (getItem (.ref l) (.int (-1) t)) := by with_unfolding_all rfl) :
    wpAny (model PySem.Challenge.rw_pe0251_01.row.prog w) A (subscriptTail value slice (.ref l) (.int (-1) t)) Q E s := by
  have hx : (vs ++ [v]).toArray[((-1 : Int) + ((vs ++ [v]).toArray.size : Int)).toNat]? = some v := by
    have e : ((-1 : Int) + ((vs ++ [v]).toArray.size : Int)).toNat = vs.length := by simp; omega
    rw [e]; simp
  exact tail_any hl.typeIs list_getitem_lookup (wpAny_getItem_list_neg (k := -1) hl (by decide) (by simp; omega) (by decide) hx h) hs
theorem allLt_mem {d : Nat} {l : List (Addr × Obj)} : AllLt d l → ∀ p ∈ l, @LT.lt Nat _ p.1 d := by
  induction l with
  | nil => intro _ p hp; cases hp
  | cons q r ih =>
    intro h p hp
    rcases List.mem_cons.mp hp with rfl | hp
    · exact h.1
    · exact ih h.2 p hp
def SInv (x : Str) (Sd : Addr) (i : Nat) (nx : List (Addr × Obj)) : Prop := ∃ refs a vc olds nS na D C, nx = (Sd, W.listOf (refs ++ [.ref a]).toArray nS) :: (a, W.listOf vc.toArray na) :: olds ∧ @Ne Nat Sd a ∧ (∀ p ∈ olds, p.1 ≠ Sd) ∧ (∀ p ∈ olds, p.1 ≠ a) ∧
  All2 (SideIn olds) refs D ∧ All2 StrVal vc C ∧ (x.cps.toList.take i).foldl stepS ([], []) = (D, C) ∧ refs.length ≤ i ∧ vc.length ≤ i
theorem fold_step {x : Str} {i c : Nat} (h : x.cps[i]? = some c) : (x.cps.toList.take (i + 1)).foldl stepS ([], []) = stepS ((x.cps.toList.take i).foldl stepS ([], [])) c := by
  have h' : x.cps.toList[i]? = some c := by simpa using h
  rw [take_step h', List.foldl_append]; rfl
theorem sign_cases {c : Nat} (_ : c ∈ signs) : c = 38 ∨ c = 124 ∨ (c ≠ 38 ∧ c ≠ 124) := by omega
local macro_rules | `(tactic| walk_at "getMethod ref") => `(tactic| ((with_reducible show wpAny _ _ (getMethod (Value.ref 180) _ _) _ _ _); refine tok_meth (Frag.In.keeps (by assumption) (Fr.keep (by k_asm))) ?_))
local macro_rules | `(tactic| walk_at "call builtin:dict.get") => `(tactic| ((with_unfolding_all (refine tok_get (Frag.In.keeps (by assumption) (Fr.keep (by k_asm))) (by assumption) ?_)); intro u'; (rename tokNum _ = _ => e9); rw [e9]))
local macro_rules | `(tactic| walk_at "call ref") => `(tactic| ((with_unfolding_all (refine isnt_call (Stat.le (by assumption) (Fr.keep (by k_asm))) (Room.mono (by assumption) (by decide)) ?_)); intro h' tk' hle'; walk_at "grown"))
local macro_rules | `(tactic| walk_at "subscriptTail Name UnaryOp") => `(tactic| refine halt ?_)
local macro_rules | `(tactic| k_all) => `(tactic| assumption)
set_option maxHeartbeats 4000000 in
theorem sides_call {w : World} {A : Around} {s : Shared} {Q E : Value → Shared → Prop} {mean : ExcName → Option Value} {mg mb : Str → Option Value}
    (S : Stat w mean mg mb s.heap) (R : Room A 4) {x : Str} {u : Tok} (hx : ∀ c ∈ x.cps.toList, c ∈ signs) (hxl : x.cps.size ≤ 64)
    (ret : ∀ D vs n olds h' tk, Le s.heap h' → (∀ p ∈ (D, W.listOf vs.toArray n) :: olds, h'.get? p.1 = some p.2 ∧ s.heap.get? p.1 = none) → (∀ p ∈ olds, p.1 ≠ D) → All2 (SideIn olds) vs (sidesOf x) → vs.length ≤ 128 → Q (.ref D) { s with heap := h', toks := tk }) :
    wpAny (model PySem.Challenge.rw_pe0251_01.row.prog w) A (call (.ref 228) [.str x u]) Q E s := by
  have X : (headK w.params).In s.heap := S.k
  revert X
  k_fill
  intro X
  have T := topRead_of S.t
  refine' enter0 (args := ⟨[.str x u], []⟩) (binds := [(Str.ofString "text", .str x u)]) (setAll [Str.ofString "text"] [.str x u] fun _ => none) S R ?o ?c ?b ?k ?n ?hm ?_ ?c1 ?c2 ?c3
  walk_at "fn sides"
  intro L h₁ tk cells A R F N Y
  cases Y
  have hA := R.hh
  have hU := R.un
  k_steps
  refine unhalt ?_
  refine wpAny_For ?_
  k_steps
  refine unhalt ?_
  rename Fr _ _ _ _ => F₂
  rename News _ _ _ _ => N₂
  rename_i a0 hq1 lq1 Sd hq2 hlt hq3
  generalize hm₀ : (fun y => if y = Str.ofString "sides" then some (Value.ref _) else _) = m₀ at F₂
  refine for_iter (iter_str hA) (fun i m nx => (∀ z, z ∉ [Str.ofString "sign", Str.ofString "number"] → m z = m₀ z) ∧ SInv x Sd i nx) F₂ N₂ ⟨fun _ _ => rfl, [], _, [], [], 0, 0, [], [], rfl, Nat.ne_of_gt hlt, (fun _ h => nomatch h), (fun _ h => nomatch h), .nil, .nil, rfl, Nat.le_refl _, Nat.le_refl _⟩ ?_ ?_ ?_
  · intro i m nx h _ _ _; trivial
  · rintro i v m nx h tk I oI E' ⟨c, uc, hci, rfl⟩ ⟨hm, refs, a, vc, olds, nS, na, D, C, rfl, hSa, hoS, hoa, hrefs, hvc, hfold, hrl, hvl⟩ F' N' hoff
    have hIS : @Ne Nat Sd I := hoff _ (.head _)
    have hIa : @Ne Nat a I := hoff _ (.tail _ (.head _))
    have hoff' : ∀ nS' na' (vc' : Array Value) (r' : Array Value), ∀ p ∈ (Sd, W.listOf r' nS') :: (a, W.listOf vc' na') :: olds, p.1 ≠ I := fun _ _ _ _ p hp => by
      rcases List.mem_cons.mp hp with rfl | hp
      · exact hIS
      · rcases List.mem_cons.mp hp with rfl | hp
        · exact hIa
        · exact hoff p (.tail _ (.tail _ hp))
    have hcs : c ∈ signs := hx c (List.mem_of_getElem? (by simpa using hci))
    have hil : i < 64 := Nat.lt_of_lt_of_le (by have := (Array.getElem?_eq_some_iff.mp hci).1; exact this) hxl
    subst hm₀
    refine wpAny_assign_Name (storeX_L (fr_over F' hm) N' fun h₂ F₃ N₃ => ?_)
    clear F' N' F₂ N₂
    have hf' := fold_step hci
    rw [hfold] at hf'
    rcases sign_cases hcs with rfl | rfl | ⟨h1, h2⟩
    · have htn : tokNum 38 = 19 := rfl
      k_steps
      rename Fr _ _ _ _ => F₄
      rename News _ _ _ _ => N₄
      exact ⟨_, _, _, _, rfl, F₄, N₄, hoff, (fun z hz => two_ne (n₁ := Str.ofString "number") (n₂ := Str.ofString "sign") (by decide) (by decide) hz), refs, a, vc, olds, nS, na, D, C, rfl, hSa, hoS, hoa, hrefs, hvc, hf', Nat.le_succ_of_le hrl, Nat.le_succ_of_le hvl⟩
    · have htn : tokNum 124 = 18 := rfl
      k_steps
      rename Fr _ _ _ _ => F₄
      rename News _ _ _ _ => N₄
      rename _ ∧ _ ∧ _ ∧ AllLt _ _ => l4
      rw [push_list] at N₄
      have lo := allLt_mem l4.2.2.2
      refine ⟨_, _, _, _ :: _ :: (a, W.listOf vc.toArray na) :: olds, rfl, F₄, (fun p hp => N₄ p ?_), (fun p hp => ?_), (fun z hz => two_ne (n₁ := Str.ofString "number") (n₂ := Str.ofString "sign") (by decide) (by decide) hz), refs ++ [.ref a], _, [], (a, W.listOf vc.toArray na) :: olds, nS + 1, 0, D ++ [C], [], rfl, Nat.ne_of_lt l4.2.1, (fun p hp => ?_), (fun p hp => ?_), ?_, .nil, hf', by simp; omega, Nat.zero_le _⟩
      · rcases List.mem_cons.mp hp with rfl | hp
        · exact .tail _ (.head _)
        · rcases List.mem_cons.mp hp with rfl | hp
          · exact .tail _ (.tail _ (.head _))
          · rcases List.mem_cons.mp hp with rfl | hp
            · exact .head _
            · exact .tail _ (.tail _ (.tail _ hp))
      · rcases List.mem_cons.mp hp with rfl | hp
        · exact hIS
        · rcases List.mem_cons.mp hp with rfl | hp
          · exact Nat.ne_of_gt l4.1
          · exact hoff p (.tail _ hp)
      · rcases List.mem_cons.mp hp with rfl | hp
        · exact Ne.symm hSa
        · exact hoS p hp
      · rcases List.mem_cons.mp hp with rfl | hp
        · exact Nat.ne_of_lt l4.2.2.1
        · exact Nat.ne_of_lt (lo p hp)
      · refine (hrefs.mono fun v side q => ?_).snoc ⟨a, vc, na, rfl, .head _, hvc, by rw [← hvc.length]; omega⟩
        obtain ⟨b, us, k, e1, e2, e3⟩ := q
        exact ⟨b, us, k, e1, .tail _ e2, e3⟩
    · have htn : tokNum c = 256 := by unfold tokNum; rw [if_neg h1, if_neg h2]
      k_steps
      refine unhalt ?_
      rename News _ _ _ _ => N₃
      refine last_item (vs := refs) (by exact ⟨_, (N₃ _ (.tail _ (.head _))).1, rfl, _, rfl⟩) ?_
      have hvl' : vc.length < 4096 := by omega
      k_steps
      rename Fr _ _ _ _ => F₄
      rename News _ _ _ _ => N₄
      rw [push_list] at N₄
      have hst : stepS (D, C) c = (D, C ++ [st [c]]) := by unfold stepS; rw [if_neg h1, if_neg h2]
      rw [hst] at hf'
      exact ⟨_, _, _, _, rfl, F₄, N₄, hoff' _ _ _ _, (fun z hz => two_ne (n₁ := Str.ofString "number") (n₂ := Str.ofString "sign") (by decide) (by decide) hz), refs, a, vc ++ [_], olds, nS, na + 1, D, C ++ [st [c]], rfl, hSa, hoS, hoa, hrefs, hvc.snoc ⟨uc, rfl⟩, hf', Nat.le_succ_of_le hrl, by simp; omega⟩
  · rintro m nx h tk ⟨hm, refs, a, vc, olds, nS, na, D, C, rfl, hSa, hoS, hoa, hrefs, hvc, hfold, hrl, hvl⟩ F' N'
    subst hm₀
    replace F' := fr_over F' hm
    clear F₂ N₂
    k_steps
    have hfs : sidesOf x = D ++ [C] := by unfold sidesOf; rw [show x.cps.size = x.cps.toList.length from (Array.length_toList).symm, List.take_length] at hfold; rw [hfold]
    have hDl : D.length ≤ 64 := by rw [← hrefs.length]; omega
    have hCl : C.length ≤ 64 := by rw [← hvc.length]; omega
    refine ret _ _ _ ((a, W.listOf vc.toArray na) :: olds) _ _ (Fr.keep (by assumption)) (fun p hp => ⟨(N' p hp).1, (N' p hp).2.2⟩) (fun p hp => ?_) ?_ (by simp; omega)
    · rcases List.mem_cons.mp hp with rfl | hp
      · exact Ne.symm hSa
      · exact hoS p hp
    · rw [hfs]
      refine (hrefs.mono fun v side q => ?_).snoc ⟨a, vc, na, rfl, .head _, hvc, by omega⟩
      obtain ⟨b, us, k, e1, e2, e3⟩ := q
      exact ⟨b, us, k, e1, .tail _ e2, e3⟩
end Mine
namespace Mine
def letN (k : Nat) : Str := st [97 + k]
def upIf (c : Bool) (x : Str) : Str := if c then up x else x
def textAt (k : Nat) (a b : Str) : Str := match k with
  | 0 => st []
  | 1 => a
  | 2 => a ++ st [38] ++ b
  | _ => a ++ st [124] ++ b
def sidesAt (k : Nat) (a b : Str) : List (List Str) := match k with
  | 0 => [[]]
  | 1 => [[a]]
  | 2 => [[a, b]]
  | _ => [[a], [b]]
def callOf (n : Nat) : CallD := (((n % 4 : Nat) : Int), upIf (n / 16 % 2 == 1) (letN (n / 4 % 4)), textAt (n / 32 % 4) (upIf (n / 512 % 2 == 1) (letN (n / 128 % 4))) (upIf (n / 4096 % 2 == 1) (letN (n / 1024 % 4))), sidesAt (n / 32 % 4) (letN (n / 128 % 4)) (letN (n / 1024 % 4)))
def ksOf (ns : List Int) : List Nat := [308, 9, 5600] ++ (ns.take 3).map fun x => (x.fmod 8192).toNat
def callsF (ns : List Int) : List CallD := (ksOf ns).map callOf
def IntVal (v : Value) (k : Nat) : Prop := ∃ t, v = .int (k : Int) t
def CallIn (olds : List (Addr × Obj)) (v : Value) (c : CallD) : Prop := ∃ a t u x b vs n o, v = .ref a ∧ (a, o) ∈ olds ∧ TupObj o #[.int c.1 t, .str c.2.1 u, .str c.2.2.1 x, .ref b] ∧ (b, W.listOf vs.toArray n) ∈ olds ∧ All2 (SideIn olds) vs c.2.2.2 ∧ c.2.2.2.length ≤ 4096
theorem SideIn.mono {olds olds' : List (Addr × Obj)} (h : ∀ p ∈ olds, p ∈ olds') {v : Value} {s : List Str} (x : SideIn olds v s) : SideIn olds' v s := let ⟨b, vs, n, e, m, q⟩ := x; ⟨b, vs, n, e, h _ m, q⟩
theorem CallIn.mono {olds olds' : List (Addr × Obj)} (h : ∀ p ∈ olds, p ∈ olds') {v : Value} {c : CallD} (y : CallIn olds v c) : CallIn olds' v c := by
  obtain ⟨a, t, u, x, b, vs, n, o, e, m, q, m', z, zl⟩ := y
  exact ⟨a, t, u, x, b, vs, n, o, e, h _ m, q, h _ m', z.mono fun _ _ q => q.mono h, zl⟩
theorem SideIn.val {B h : Heap} {L : Addr} {olds news : List (Addr × Obj)} (N : News B L h news) (hs : ∀ p ∈ olds, p ∈ news) {v : Value} {s : List Str} (x : SideIn olds v s) : SideVal h v s := by
  obtain ⟨b, vs, n, e, m, q⟩ := x
  exact ⟨b, e, vs, ⟨_, (N _ (hs _ m)).1, rfl, _, rfl⟩, q⟩
theorem CallIn.val {B h : Heap} {L : Addr} {olds news : List (Addr × Obj)} (N : News B L h news) (hs : ∀ p ∈ olds, p ∈ news) {v : Value} {c : CallD} (y : CallIn olds v c) : CallVal h v c := by
  obtain ⟨a, t, u, x, b, vs, n, o, e, m, q, m', z, zl⟩ := y
  exact ⟨a, t, u, x, b, e, ⟨o, (N _ (hs _ m)).1, q⟩, vs, ⟨_, (N _ (hs _ m')).1, rfl, _, rfl⟩, z.mono fun _ _ q => q.val N hs, zl⟩
theorem ints_all : ∀ {vs : List Value} {ns : List Int}, IntsAre vs ns → All2 (fun v n => ∃ t, v = .int n t) vs ns
  | _, _, .nil => .nil
  | _, _, .cons n t r => .cons ⟨t, rfl⟩ (ints_all r)
theorem all2_nat : ∀ {l : List Int} {ys : List Value}, All2 (fun v n => ∃ t, v = .int n t) ys (l.map fun x => x.fmod 8192) → All2 IntVal ys (l.map fun x => (x.fmod 8192).toNat)
  | [], _, h => by cases h; exact .nil
  | x :: l, _, h => by
    cases h with
    | cons h r =>
      obtain ⟨t, rfl⟩ := h
      exact .cons ⟨t, by rw [Int.toNat_of_nonneg (Int.fmod_nonneg_of_pos _ (by decide))]⟩ (all2_nat r)
theorem ks_all {ns : List Int} {a b c : Tok} {ys : List Value} (h : All2 (fun v n => ∃ t, v = .int n t) ys ((ns.take 3).map fun x => x.fmod 8192)) : All2 IntVal ([.int 308 a, .int 9 b, .int 5600 c] ++ ys) (ksOf ns) :=
  .cons ⟨a, rfl⟩ (.cons ⟨b, rfl⟩ (.cons ⟨c, rfl⟩ (all2_nat h)))
theorem ksOf_len (ns : List Int) : (ksOf ns).length ≤ 6 := by
  unfold ksOf
  rw [List.length_append, List.length_map, List.length_take]
  show 3 + _ ≤ 6
  omega
section
variable {w : World} {A : Around} {s : Shared} {Q E : Value → Shared → Prop}
theorem if_join {test body orelse : Expr} {pos : Pos} {env : Env} {c : Bool} {P : Value → Prop}
    (ht : ∀ Q' : Bool → Shared → Prop, (∀ tk, Q' c { s with toks := tk }) → wpAny (model PySem.Challenge.rw_pe0251_01.row.prog w) A (isTrue test env (eval test env)) Q' E s)
    (hb : ∀ tk, c = true → wpAny (model PySem.Challenge.rw_pe0251_01.row.prog w) A (eval body env) (fun v s' => Halt (∃ tk', P v ∧ s' = { s with toks := tk' })) E { s with toks := tk })
    (ho : ∀ tk, c = false → wpAny (model PySem.Challenge.rw_pe0251_01.row.prog w) A (eval orelse env) (fun v s' => Halt (∃ tk', P v ∧ s' = { s with toks := tk' })) E { s with toks := tk })
    (hq : ∀ v tk, P v → Q v { s with toks := tk }) : wpAny (model PySem.Challenge.rw_pe0251_01.row.prog w) A (eval (.IfExp test body orelse pos) env) Q E s := by
  refine wpAny_IfExp (ht _ fun tk => ?_)
  have aux : ∀ e, wpAny (model PySem.Challenge.rw_pe0251_01.row.prog w) A (eval e env) (fun v s' => Halt (∃ tk', P v ∧ s' = { s with toks := tk' })) E { s with toks := tk } → wpAny (model PySem.Challenge.rw_pe0251_01.row.prog w) A (eval e env) Q E { s with toks := tk } := fun e h =>
    wpAny_mono h (fun v s' h' => by obtain ⟨tk', hP, rfl⟩ := h'; exact hq v tk' hP) fun _ _ x => x
  cases c with
  | true => rw [if_pos rfl]; exact aux _ (hb tk rfl)
  | false => rw [if_neg Bool.false_ne_true]; exact aux _ (ho tk rfl)
theorem item_abcd : ∀ k : Nat, k < 4 → Txt.item (Str.ofString "abcd") (k : Int) = letN k := by
  intro k hk
  rcases (by omega : k = 0 ∨ k = 1 ∨ k = 2 ∨ k = 3) with rfl | rfl | rfl | rfl <;> decide +kernel
theorem abcd_item {value slice : Expr} {t u : Tok} {z : Int} {k : Nat} (hz : z = (k : Int)) (hk : k < 4) (h : Q (.str (letN k) s.toks) { s with toks := s.toks + 1 })
    (hs : subscripted slice false (.str (Str.ofString "abcd") t) (.int z u) = operate [.str (Str.ofString "abcd") t, .int z u] (getItem (.str (Str.ofString "abcd") t) (.int z u)) := by with_unfolding_all rfl)
    (ht : ∀ r, letTemporaryGo value (.str (Str.ofString "abcd") t) r = pure () := by intro _; with_unfolding_all rfl) :
    wpAny (model PySem.Challenge.rw_pe0251_01.row.prog w) A (subscriptTail value slice (.str (Str.ofString "abcd") t) (.int z u)) Q E s := by
  have hl : (Str.ofString "abcd").length = 4 := by decide +kernel
  refine item_str (fitsSsize_of (N := 9223372036854775808) (by omega) (by omega) (Int.le_refl _)) (by rw [hl]; omega) (by rw [hl]; omega) (fun _ => ?_) hs ht
  subst hz
  rw [item_abcd k hk]
  exact h
end
theorem fd (k a : Nat) (ha : 0 < a) : ((k : Int).fdiv (a : Int)) = ((k / a : Nat) : Int) := by
  rw [Int.fdiv_eq_ediv_of_nonneg _ (by omega)]; rfl
theorem fm (k a : Nat) (ha : 0 < a) : ((k : Int).fmod (a : Int)) = ((k % a : Nat) : Int) := by
  rw [Int.fmod_eq_emod_of_nonneg _ (by omega)]; rfl
theorem dm (k a b : Nat) (ha : 0 < a) (hb : 0 < b) : ((k : Int).fdiv (a : Int)).fmod (b : Int) = ((k / a % b : Nat) : Int) := by rw [fd k a ha, fm _ b hb]
theorem dmb (k a : Nat) (ha : 0 < a) : (((k : Int).fdiv (a : Int)).fmod 2 == 1) = (k / a % 2 == 1) := by
  have := dm k a 2 ha (by decide)
  rw [show (2 : Int) = ((2 : Nat) : Int) from rfl, this, Bool.eq_iff_iff]
  simp only [beq_iff_eq]
  omega
theorem letN_heads {k : Nat} (hk : k < 4) : letN k ∈ heads := by
  rcases (by omega : k = 0 ∨ k = 1 ∨ k = 2 ∨ k = 3) with rfl | rfl | rfl | rfl <;> decide +kernel
theorem upIf_heads {c : Bool} {x : Str} (h : x ∈ heads) : upIf c x ∈ heads := by
  cases c
  · exact h
  · exact up_mem h
theorem len_up (x : Str) : (up x).length = x.length := by
  show (x.cps.map _).size = x.cps.size
  rw [Array.size_map]
theorem upIf_len {c : Bool} {k : Nat} : (upIf c (letN k)).length = 1 := by
  cases c
  · rfl
  · show (up (letN k)).length = 1
    rw [len_up]; rfl
theorem item4 {w : World} {A : Around} {s : Shared} {Q E : Value → Shared → Prop} {value slice : Expr} {l : Addr} {a b c d : Value} {z : Int} {u : Tok} {k : Nat} (hz : z = (k : Int)) (hk : k < 4) (hl : s.heap.IsList l #[a, b, c, d]) (h : Q ([a, b, c, d].getD k .none) s)
    (hs : subscripted slice false (.ref l) (.int z u) = operate [.ref l, .int z u] (getItem (.ref l) (.int z u)) := by with_unfolding_all rfl) :
    wpAny (model PySem.Challenge.rw_pe0251_01.row.prog w) A (subscriptTail value slice (.ref l) (.int z u)) Q E s := by
  refine item_listR (x := [a, b, c, d].getD k .none) hl (by omega) (by omega) ?_ h hs
  subst hz
  rcases (by omega : k = 0 ∨ k = 1 ∨ k = 2 ∨ k = 3) with rfl | rfl | rfl | rfl <;> rfl
def ten (o e0 e1 e2 e3 s0 s1 s2 s31 s32 : Addr) (x y : Str) (t1 t2 t3 t4 t5 : Tok) : List (Addr × Obj) :=
  [(o, W.listOf #[.ref e0, .ref e1, .ref e2, .ref e3] 0), (e3, W.listOf #[.ref s31, .ref s32] 0), (s32, W.listOf #[.str y t5] 0), (s31, W.listOf #[.str x t4] 0), (e2, W.listOf #[.ref s2] 0), (s2, W.listOf #[.str x t2, .str y t3] 0), (e1, W.listOf #[.ref s1] 0), (s1, W.listOf #[.str x t1] 0), (e0, W.listOf #[.ref s0] 0), (s0, W.listOf #[] 0)]
theorem sides_made {k : Nat} (hk : k < 4) (o e0 e1 e2 e3 s0 s1 s2 s31 s32 : Addr) (x y : Str) (t1 t2 t3 t4 t5 : Tok) :
    ∃ b vs n, [Value.ref e0, .ref e1, .ref e2, .ref e3].getD k .none = .ref b ∧ (b, W.listOf vs.toArray n) ∈ ten o e0 e1 e2 e3 s0 s1 s2 s31 s32 x y t1 t2 t3 t4 t5 ∧ All2 (SideIn (ten o e0 e1 e2 e3 s0 s1 s2 s31 s32 x y t1 t2 t3 t4 t5)) vs (sidesAt k x y) ∧ (sidesAt k x y).length ≤ 4096 := by
  have m : ∀ {p : Addr × Obj} {i : Nat}, (ten o e0 e1 e2 e3 s0 s1 s2 s31 s32 x y t1 t2 t3 t4 t5)[i]? = some p → p ∈ ten o e0 e1 e2 e3 s0 s1 s2 s31 s32 x y t1 t2 t3 t4 t5 := fun h => List.mem_of_getElem? h
  rcases (by omega : k = 0 ∨ k = 1 ∨ k = 2 ∨ k = 3) with rfl | rfl | rfl | rfl
  · exact ⟨e0, [.ref s0], 0, rfl, m (i := 8) rfl, .cons ⟨s0, [], 0, rfl, m (i := 9) rfl, .nil, by show (0 : Nat) ≤ _; decide⟩ .nil, by show (1 : Nat) ≤ _; decide⟩
  · exact ⟨e1, [.ref s1], 0, rfl, m (i := 6) rfl, .cons ⟨s1, [.str x t1], 0, rfl, m (i := 7) rfl, .cons ⟨t1, rfl⟩ .nil, by show (1 : Nat) ≤ _; decide⟩ .nil, by show (1 : Nat) ≤ _; decide⟩
  · exact ⟨e2, [.ref s2], 0, rfl, m (i := 4) rfl, .cons ⟨s2, [.str x t2, .str y t3], 0, rfl, m (i := 5) rfl, .cons ⟨t2, rfl⟩ (.cons ⟨t3, rfl⟩ .nil), by show (2 : Nat) ≤ _; decide⟩ .nil, by show (1 : Nat) ≤ _; decide⟩
  · exact ⟨e3, [.ref s31, .ref s32], 0, rfl, m (i := 1) rfl, .cons ⟨s31, [.str x t4], 0, rfl, m (i := 3) rfl, .cons ⟨t4, rfl⟩ .nil, by show (1 : Nat) ≤ _; decide⟩ (.cons ⟨s32, [.str y t5], 0, rfl, m (i := 2) rfl, .cons ⟨t5, rfl⟩ .nil, by show (1 : Nat) ≤ _; decide⟩ .nil), by show (2 : Nat) ≤ _; decide⟩
theorem ten_split {B h : Heap} {L : Addr} {T : List (Addr × Obj)} {x y z : Addr × Obj} {olds : List (Addr × Obj)} (N : News B L h (T ++ x :: y :: z :: olds)) : News B L h (x :: y :: z :: (T ++ olds)) := fun p hp => by
  refine N p ?_
  simp only [List.mem_append, List.mem_cons] at hp ⊢
  rcases hp with h | h | h | h | h <;> simp [h]
theorem text_made {k : Nat} (hk : k < 4) (x y : Str) (t0 t1 t2 t3 : Tok) : ∃ t, [Value.str (Str.ofString "") t0, .str x t1, .str (x ++ Str.ofString "&" ++ y) t2, .str (x ++ Str.ofString "|" ++ y) t3].getD k .none = .str (textAt k x y) t := by
  have e0 : Str.ofString "" = st [] := by decide +kernel
  have e1 : Str.ofString "&" = st [38] := by decide +kernel
  have e2 : Str.ofString "|" = st [124] := by decide +kernel
  rcases (by omega : k = 0 ∨ k = 1 ∨ k = 2 ∨ k = 3) with rfl | rfl | rfl | rfl
  · exact ⟨t0, by rw [e0]; rfl⟩
  · exact ⟨t1, rfl⟩
  · exact ⟨t2, by rw [e1]; rfl⟩
  · exact ⟨t3, by rw [e2]; rfl⟩
theorem news_pickU {h₀ h : Heap} {L : Addr} {x0 x1 x2 x3 x4 : Addr × Obj} {olds : List (Addr × Obj)} (N : News h₀ L h (x0 :: x1 :: x2 :: x3 :: x4 :: olds)) : News h₀ L h (x2 :: x3 :: x4 :: x0 :: olds) := fun p hp => by
  refine N p ?_
  simp only [List.mem_cons] at hp ⊢
  rcases hp with h | h | h | h | h <;> simp [h]
theorem ten_of {B h : Heap} {L : Addr} {x1 y1 z1 : Addr × Obj} {olds : List (Addr × Obj)} {o e0 e1 e2 e3 s0 s1 s2 s31 s32 : Addr} {x y : Str} {t1 t2 t3 t4 t5 : Tok} (N : News B L h (ten o e0 e1 e2 e3 s0 s1 s2 s31 s32 x y t1 t2 t3 t4 t5 ++ x1 :: y1 :: z1 :: olds)) {k : Nat} (hk : k < 4) :
    ∃ TN, TN = ten o e0 e1 e2 e3 s0 s1 s2 s31 s32 x y t1 t2 t3 t4 t5 ∧ News B L h (x1 :: y1 :: z1 :: (TN ++ olds)) ∧ ∃ b vs n, [Value.ref e0, .ref e1, .ref e2, .ref e3].getD k .none = .ref b ∧ (b, W.listOf vs.toArray n) ∈ TN ∧ All2 (SideIn TN) vs (sidesAt k x y) ∧ (sidesAt k x y).length ≤ 4096 :=
  ⟨_, rfl, ten_split N, sides_made hk o e0 e1 e2 e3 s0 s1 s2 s31 s32 x y t1 t2 t3 t4 t5⟩
end Mine
namespace Mine
local macro_rules | `(tactic| walk_at "fn sides") => `(tactic| (
  (case o => k_dflt k_is)
  (case c => k_dflt k_is)
  (case b => first | exact BindsTo.of_eq rfl | exact binds_K (by assumption) rfl (by k_is) rfl rfl rfl)
  (case k => rfl)
  (case n => decide)
  (case hm => exact fun _ => rfl)
  (case c1 => rfl)
  (case c2 => rfl)
  (case c3 => rfl)))
local macro_rules | `(tactic| walk_at "exec For") => `(tactic| refine halt ?_)
local macro_rules | `(tactic| walk_at "eval ListComp") => `(tactic| refine halt ?_)
local macro_rules | `(tactic| walk_at "subscriptTail") => `(tactic| ((with_reducible show wpAny _ _ (subscriptTail _ _ (Value.str _ _) (Value.int _ _)) _ _ _); refine halt ?_))
local macro_rules | `(tactic| walk_at "subscriptTail") => `(tactic| ((with_reducible show wpAny _ _ (subscriptTail _ _ (Value.ref _) (Value.int _ _)) _ _ _); refine halt ?_))
local macro_rules | `(tactic| walk_at "eval IfExp") => `(tactic| refine halt ?_)
local macro_rules | `(tactic| walk_at "binaryOp Add ref ref") => `(tactic| refine halt ?_)
local macro_rules | `(tactic| walk_at "pyIter ref") => `(tactic| refine halt ?_)
local macro_rules | `(tactic| walk_at "At") => `(tactic| exact ⟨_, _, _, rfl, by assumption, by assumption⟩)
local macro_rules | `(tactic| walk_at "call builtin:str.upper") => `(tactic| k_dflt (refine upper_call (by assumption) ?_))
local macro_rules | `(tactic| walk_at "eval Name") => `(tactic| ((with_reducible show wpAny _ _ (eval (Expr.Name _ _) (compEnvC _ _ _ _)) _ _ _); k_dflt (
  (refine' cn_local ?F ?v ?_ ?a ?b; (case F => k_asm); (case a => rfl); (case b => rfl); (case v => rfl); k_whole))))
local macro_rules | `(tactic| k_all) => `(tactic| assumption)
set_option maxHeartbeats 4000000 in
theorem calls_call {w : World} {A : Around} {s : Shared} {Q E : Value → Shared → Prop} {mean : ExcName → Option Value} {mg mb : Str → Option Value}
    (S : Stat w mean mg mb s.heap) (R : Room A 4) {sa : Addr} {its : Array Value} {ns : List Int} (hl : s.heap.IsList sa its) (hi : IntsAre its.toList ns) (hz : ns.length ≤ 2 ^ 20)
    (ret : ∀ D h' tk, Le s.heap h' → CallsAt h' D (callsF ns) → Q (.ref D) { s with heap := h', toks := tk }) :
    wpAny (model PySem.Challenge.rw_pe0251_01.row.prog w) A (call (.ref 194) [.ref sa]) Q E s := by
  have X : (headK w.params).In s.heap := S.k
  revert X
  k_fill
  intro X
  have T := topRead_of S.t
  refine' enter0 (args := ⟨[.ref sa], []⟩) (binds := [(Str.ofString "script", .ref sa)]) (setAll [Str.ofString "script"] [.ref sa] fun _ => none) S R ?o ?c ?b ?k ?n ?hm ?_ ?c1 ?c2 ?c3
  walk_at "fn sides"
  intro L h₁ tk cells A R F N Y
  have hA := R.hh
  have hU := R.un
  cases Y
  k_steps
  refine unhalt ?_
  refine wpAny_For ?_
  k_steps
  refine unhalt ?_
  refine comp_pureI (α := Int) (β := Int) (ds := ns.take 3) (R := fun v n => ∃ t, v = .int n t) (p := fun _ => true) (g := fun x => x.fmod 8192) (R' := fun v n => ∃ t, v = .int n t) rfl (by decide) rfl (by decide) ?_
  k_steps
  refine unhalt ?_
  rename Fr _ _ _ _ => F₂
  rename News _ _ _ _ => N₂
  rename IntsAre _ (List.take 3 ns) => hI3
  refine ⟨_, _, _, iter_list (its := List.toArray _) hA (by exact ⟨_, (N₂ _ (.head _)).1, rfl, _, rfl⟩), fun h' hle => by exact ⟨_, hle _ _ (N₂ _ (.head _)).1, rfl, _, rfl⟩, by rw [List.size_toArray]; exact (ints_all hI3).length, ?_, ?_, ?_, ?_⟩
  · rw [List.size_toArray, (ints_all hI3).length, List.length_take]
    exact Nat.le_trans (Nat.min_le_left _ _) (by decide)
  · intro i v hv
    exact (ints_all hI3).get (by simpa using hv)
  · rintro v n C m₃ nx h₃ tk₃ E₃ hn ⟨t, rfl⟩ F₄ N₄
    refine ca_name F₄ N₄ rfl rfl fun h₅ tk₅ F₅ N₅ => ?_
    clear F₄ N₄
    clear F₂ N₂
    rw [List.forIn_nil]
    refine wpAny_pure ?_
    k_steps
  · intro D2 ys2 h₄ tk₄ hle₄ hD₂ hsz₂ hys₂
    have N₄ := news_add F₂ N₂ hle₄ hD₂ hsz₂
    have F₄ := F₂.keeps hle₄
    rw [List.filter_eq_self.mpr (fun _ _ => rfl)] at hys₂
    have hyl : ys2.length ≤ 3 := by rw [hys₂.length, List.length_map, List.length_take]; exact Nat.min_le_left _ _
    refine add_lists (vs := [_, _, _]) (ws := ys2) F₄ N₄ (by exact ⟨_, (N₄ _ (.tail _ (.tail _ (.head _)))).1, rfl, _, rfl⟩) (isList_lst hD₂) (fun h₅ F₅ N₅ => ?_) (by rw [sizeLine_eq]; simp only [List.length_cons, List.length_nil]; omega)
    have hlc := Heap.lt_size (N₄ _ (.tail _ (.tail _ (.tail _ (.head _))))).1
    dsimp only at N₅ hlc ⊢
    clear F₂ N₂ N₄ F₄ hle₄ hD₂ hsz₂
    generalize Array.size (Heap.objs _) = SL at N₅ hlc ⊢
    have hks := fun a b c => ks_all (a := a) (b := b) (c := c) hys₂
    have hSL := (N₅ _ (.head _)).1
    have hk6 := ksOf_len ns
    rename_i C0 q1 q2 q3 A0 q4 q5 D0 ws q6 q7 q8 q9
    clear hI3 q7 q8 q9 q2 q5
    have hlc' : @Ne Nat C0 SL := Nat.ne_of_lt hlc
    generalize hm₀ : (fun y => if y = Str.ofString "calls" then some (Value.ref C0) else _) = m₀ at F₅
    have N₆ : News s.heap L h₅ ((SL, _) :: (C0, W.listOf #[] 0) :: []) := fun p hp => by
      rcases List.mem_cons.mp hp with rfl | hp
      · exact N₅ _ (.head _)
      · cases List.mem_singleton.mp hp; exact N₅ _ (.tail _ (.tail _ (.tail _ (.tail _ (.head _)))))
    clear N₅
    refine for_iterC (iter_list (its := List.toArray _) hA (by exact ⟨_, hSL, rfl, _, rfl⟩)) (fun i m nx => (∀ z, z ∉ [Str.ofString "n", Str.ofString "head", Str.ofString "one", Str.ofString "two", Str.ofString "sides", Str.ofString "text"] → m z = m₀ z) ∧ ∃ us n olds, nx = (SL, _) :: (C0, W.listOf us.toArray n) :: olds ∧ (∀ p ∈ olds, p.1 ≠ C0) ∧ All2 (CallIn olds) us (((ksOf ns).take i).map callOf)) F₅ N₆ ⟨fun _ _ => rfl, [], 0, [], rfl, (fun _ h => nomatch h), .nil⟩ ?_ ?_ ?_
    · rintro i m nx h ⟨_, us, n, olds, rfl, _⟩ _ N'
      exact ⟨_, (N' _ (.head _)).1, rfl, _, rfl⟩
    · clear N₆ F₅
      rintro i v m nx h tk I oI E' hv ⟨hm, us, n, olds, rfl, hoC, hus⟩ F' N' hoff hcalm
      obtain ⟨k, hk, t, rfl⟩ := (hks _ _ _).get (by simpa using hv)
      have hSI : @Ne Nat SL I := hoff _ (.head _)
      have hCI : @Ne Nat C0 I := hoff _ (.tail _ (.head _))
      have hoI : ∀ p ∈ olds, p.1 ≠ I := fun p hp => hoff p (.tail _ (.tail _ hp))
      have hi6 : i < 6 := by have := (List.getElem?_eq_some_iff.mp hk).1; omega
      subst hm₀
      refine wpAny_assign_Name (storeX_L (fr_over F' hm) N' fun h₆ F₆ N₇ => ?_)
      clear F' N'
      k_steps
      refine unhalt ?_
      refine abcd_item (k := k / 4 % 4) (dm k 4 4 (by decide) (by decide)) (Nat.mod_lt _ (by decide)) ?_
      k_steps
      refine unhalt ?_
      refine abcd_item (k := k / 128 % 4) (dm k 128 4 (by decide) (by decide)) (Nat.mod_lt _ (by decide)) ?_
      k_steps
      refine unhalt ?_
      refine abcd_item (k := k / 1024 % 4) (dm k 1024 4 (by decide) (by decide)) (Nat.mod_lt _ (by decide)) ?_
      k_steps
      refine unhalt ?_
      rename Fr _ _ _ _ => F₇
      rename News _ _ _ _ => N₈
      dsimp only at F₇ N₈ ⊢
      have hk4 : k / 32 % 4 < 4 := Nat.mod_lt _ (by decide)
      refine item4 (dm k 32 4 (by decide) (by decide)) hk4 (by exact ⟨_, (N₈ _ (.head _)).1, rfl, _, rfl⟩) ?_
      obtain ⟨TN, hTN, N₉, sb, svs, sn, hsb, hsm, hsa, hsl⟩ := ten_of N₈ hk4
      rw [hsb]
      have hTC : ∀ p ∈ TN, p.1 ≠ C0 := fun p hp => by
        rw [hTN] at hp
        simp only [ten, List.mem_cons, List.not_mem_nil, or_false] at hp
        rcases hp with rfl | rfl | rfl | rfl | rfl | rfl | rfl | rfl | rfl | rfl
        all_goals k_ne
      have hTI : ∀ p ∈ TN, p.1 ≠ I := fun p hp => by
        rw [hTN] at hp
        simp only [ten, List.mem_cons, List.not_mem_nil, or_false] at hp
        rcases hp with rfl | rfl | rfl | rfl | rfl | rfl | rfl | rfl | rfl | rfl
        all_goals k_ne
      clear hTN N₈ hsb
      have hoC' : ∀ p ∈ TN ++ olds, p.1 ≠ C0 := fun p hp => (List.mem_append.mp hp).elim (hTC p) (hoC p)
      have hoI' : ∀ p ∈ TN ++ olds, p.1 ≠ I := fun p hp => (List.mem_append.mp hp).elim (hTI p) (hoI p)
      replace hus := hus.mono fun _ _ q => CallIn.mono (olds' := TN ++ olds) (fun _ h => List.mem_append_right _ h) q
      replace hsm := List.mem_append_left olds hsm
      replace hsa := hsa.mono fun _ _ q => SideIn.mono (olds' := TN ++ olds) (fun _ h => List.mem_append_left _ h) q
      generalize TN ++ olds = OL at *
      clear hTC hTI hoC hoI
      have hone : letN (k / 128 % 4) ∈ heads := letN_heads (Nat.mod_lt _ (by decide))
      have htwo : letN (k / 1024 % 4) ∈ heads := letN_heads (Nat.mod_lt _ (by decide))
      have hhead : letN (k / 4 % 4) ∈ heads := letN_heads (Nat.mod_lt _ (by decide))
      k_steps
      refine unhalt ?_
      refine if_join (c := k / 512 % 2 == 1) (P := fun v => StrVal v (upIf (k / 512 % 2 == 1) (letN (k / 128 % 4)))) ?_ ?_ ?_ ?_
      · intro Q' hq
        k_steps
        have e : (((k : Int).fdiv 512).fmod 2 == 1) = (k / 512 % 2 == 1) := dmb k 512 (by decide)
        rw [e]
        exact hq _
      · intro tk hc
        k_steps
        exact unhalt ⟨_, ⟨_, by rw [hc]; rfl⟩, rfl⟩
      · intro tk hc
        k_steps
        exact unhalt ⟨_, ⟨_, by rw [hc]; rfl⟩, rfl⟩
      rintro v512 tk512 ⟨t512, rfl⟩
      dsimp only
      k_steps
      refine unhalt ?_
      refine if_join (c := k / 4096 % 2 == 1) (P := fun v => StrVal v (upIf (k / 4096 % 2 == 1) (letN (k / 1024 % 4)))) ?_ ?_ ?_ ?_
      · intro Q' hq
        k_steps
        have e : (((k : Int).fdiv 4096).fmod 2 == 1) = (k / 4096 % 2 == 1) := dmb k 4096 (by decide)
        rw [e]
        exact hq _
      · intro tk hc
        k_steps
        exact unhalt ⟨_, ⟨_, by rw [hc]; rfl⟩, rfl⟩
      · intro tk hc
        k_steps
        exact unhalt ⟨_, ⟨_, by rw [hc]; rfl⟩, rfl⟩
      rintro v4096 tk4096 ⟨t4096, rfl⟩
      dsimp only
      have hl1 : (upIf (k / 512 % 2 == 1) (letN (k / 128 % 4))).length = 1 := upIf_len
      have hl2 : (upIf (k / 4096 % 2 == 1) (letN (k / 1024 % 4))).length = 1 := upIf_len
      k_steps
      refine unhalt ?_
      rename Fr _ _ _ _ => F₉
      rename News _ _ _ _ => N₉
      dsimp only at F₉ N₉ ⊢
      refine item4 (dm k 32 4 (by decide) (by decide)) hk4 (by exact ⟨_, (N₉ _ (.head _)).1, rfl, _, rfl⟩) ?_
      obtain ⟨tt, htt⟩ := text_made hk4 (upIf (k / 512 % 2 == 1) (letN (k / 128 % 4))) (upIf (k / 4096 % 2 == 1) (letN (k / 1024 % 4))) _ _ _ _
      rw [htt]
      have hul : us.length < 4096 := by
        rw [hus.length, List.length_map]
        have := List.length_take_le i (ksOf ns)
        omega
      k_steps
      refine unhalt ?_
      refine if_join (c := k / 16 % 2 == 1) (P := fun v => StrVal v (upIf (k / 16 % 2 == 1) (letN (k / 4 % 4)))) ?_ ?_ ?_ ?_
      · intro Q' hq
        k_steps
        have e : (((k : Int).fdiv 16).fmod 2 == 1) = (k / 16 % 2 == 1) := dmb k 16 (by decide)
        rw [e]
        exact hq _
      · intro tk hc
        k_steps
        exact unhalt ⟨_, ⟨_, by rw [hc]; rfl⟩, rfl⟩
      · intro tk hc
        k_steps
        exact unhalt ⟨_, ⟨_, by rw [hc]; rfl⟩, rfl⟩
      rintro v16 tk16 ⟨t16, rfl⟩
      dsimp only
      k_steps
      rename Fr _ _ _ _ => F₀
      rename News _ _ _ _ => N₀
      rename _ ∧ _ ∧ _ ∧ _ ∧ AllLt _ OL => l8
      rw [push_list, show (k : Int).fmod 4 = ((k % 4 : Nat) : Int) from fm k 4 (by decide)] at N₀
      have hoff0 : ∀ p ∈ OL, p.1 ≠ I := hoI'
      refine ⟨_, _, _, _, rfl, F₀, news_pickU N₀, off3 hSI hCI (Nat.ne_of_gt l8.2.1) hoI', ?_, _, _, _, rfl, off1 (Nat.ne_of_gt l8.2.2.2.1) hoC', ?_⟩
      · intro z hz
        have hz' : ∀ n ∈ [Str.ofString "n", Str.ofString "head", Str.ofString "one", Str.ofString "two", Str.ofString "sides", Str.ofString "text"], (z = n) = False := fun n hn => eq_false fun q => hz (q ▸ hn)
        simp only [hz' _ (List.Mem.head _), hz' _ (.tail _ (List.Mem.head _)), hz' _ (.tail _ (.tail _ (List.Mem.head _))), hz' _ (.tail _ (.tail _ (.tail _ (List.Mem.head _)))), hz' _ (.tail _ (.tail _ (.tail _ (.tail _ (List.Mem.head _))))), hz' _ (.tail _ (.tail _ (.tail _ (.tail _ (.tail _ (List.Mem.head _)))))), if_false]
        exact over_ne hz
      · rw [take_step hk, List.map_append]
        exact (hus.mono fun _ _ q => q.mono fun _ h => .tail _ h).snoc (b := callOf k) ⟨_, _, _, _, sb, svs, sn, _, rfl, .head _, ⟨rfl, _, rfl⟩, .tail _ hsm, hsa.mono fun _ _ q => q.mono fun _ h => .tail _ h, hsl⟩
    · rintro m nx h tk ⟨hm, us, n, olds, rfl, hoC, hus⟩ F' N'
      subst hm₀
      replace F' := fr_over F' hm
      clear F₅ N₆
      rw [show (List.toArray _).size = (ksOf ns).length from by rw [List.size_toArray]; exact (hks _ _ _).length, List.take_length] at hus
      k_steps
      exact ret _ _ _ F'.keep ⟨us, ⟨_, (N' _ (.tail _ (.head _))).1, rfl, _, rfl⟩, hus.mono fun _ _ q => q.val N' fun p hp => .tail _ (.tail _ hp), by unfold callsF; rw [List.length_map]; omega⟩
end Mine
namespace Mine
local macro_rules | `(tactic| walk_at "eval ListComp") => `(tactic| refine halt ?_)
local macro_rules | `(tactic| walk_at "exec Assign cons ListComp") => `(tactic| refine halt ?_)
local macro_rules | `(tactic| walk_at "exec For") => `(tactic| refine halt ?_)
local macro_rules | `(tactic| walk_at "exec For Name Call cons nil") => `(tactic| refine halt ?_)
local macro_rules | `(tactic| walk_at "pyIter ref") => `(tactic| refine halt ?_)
local macro_rules | `(tactic| walk_at "pyIter str") => `(tactic| refine halt ?_)
local macro_rules | `(tactic| walk_at "compareOp Eq ref ref") => `(tactic| refine halt ?_)
local macro_rules | `(tactic| walk_at "compareOp NotEq ref ref") => `(tactic| refine halt ?_)
local macro_rules | `(tactic| walk_at "compareOp In str ref") => `(tactic| refine halt ?_)
local macro_rules | `(tactic| walk_at "compareOp NotIn str ref") => `(tactic| refine halt ?_)
local macro_rules | `(tactic| walk_at "call ref") => `(tactic| refine halt ?_)
local macro_rules | `(tactic| walk_at "call ref") => `(tactic| ((with_unfolding_all (refine conv_call (Stat.le (by assumption) (Fr.keep (by k_asm))) (Room.mono (by assumption) (by decide)) (by first | exact .inl ⟨rfl, by assumption⟩ | exact .inr ⟨rfl, by assumption⟩) ?_)); intro h' tk' hle'; walk_at "grown"))
local macro_rules | `(tactic| walk_at "grown") => `(tactic| ((rename Fr _ _ _ _ => kF); (rename News _ _ _ _ => kN); (rename Le _ _ => hle); k_dflt (replace kF := Fr.keeps kF hle; replace kN := News.grown kN hle; clear hle)))
local macro_rules | `(tactic| walk_at "call builtin:str.lower") => `(tactic| k_dflt (refine lower_call (by assumption) ?_))
local macro_rules | `(tactic| walk_at "call builtin:str.upper") => `(tactic| k_dflt (refine upper_call (by assumption) ?_))
local macro_rules | `(tactic| walk_at "setItem ref ref") => `(tactic| refine halt ?_)
local macro_rules | `(tactic| walk_at "eval Slice") => `(tactic| refine halt ?_)
local macro_rules | `(tactic| walk_at "delItem ref") => `(tactic| (k_dflt (refine' del_item ?F ?X ?I ?hQ ?hS ?hF ?_; (case F => k_asm); (case X => k_asm); (case I => k_inst); (case hS => k_is); (case hF => k_is); (case hQ => k_is))))
local macro_rules | `(tactic| walk_at "At") => `(tactic| exact ⟨_, _, _, rfl, by assumption, by assumption⟩)
local macro_rules | `(tactic| walk_at "StrVal") => `(tactic| exact ⟨_, rfl⟩)
local macro_rules | `(tactic| walk_at "eval Name") => `(tactic| ((with_reducible show wpAny _ _ (eval (Expr.Name _ _) (compEnvC _ _ _ _)) _ _ _); k_dflt (first
  | (refine' cn_local ?F ?v ?_ ?a ?b; (case F => k_asm); (case a => rfl); (case b => rfl); (case v => rfl); k_whole)
  | (refine' cn_cell ?F ?c ?v ?_ ?a ?b; (case a => rfl); (case b => rfl); (case F => k_asm); (case v => rfl); (case c => assumption); k_whole)
  | (refine' cn_global ?F ?X ?T ?e ?_ ?g ?a ?b; (case a => rfl); (case b => rfl); (case g => rfl); (case F => k_asm); (case X => k_asm); (case T => k_asm); (case e => k_is); k_whole))))
local macro_rules | `(tactic| walk_at "fn sides") => `(tactic| (
  (case o => k_dflt k_is)
  (case c => k_dflt k_is)
  (case b => first | exact BindsTo.of_eq rfl | exact binds_K (by assumption) rfl (by k_is) rfl rfl rfl)
  (case k => rfl)
  (case n => decide)
  (case hm => exact fun _ => rfl)
  (case c1 => rfl)
  (case c2 => rfl)
  (case c3 => rfl)))
local macro_rules | `(tactic| k_inst) => `(tactic| exact TableAt.inst (by k_asm) (by assumption))
local macro_rules | `(tactic| walk_at "subscriptTail Name Constant ref int") => `(tactic| (refine' tup_item ?F ?t ?a ?b ?c ?d ?_ ?e; (case F => k_asm); (case t => assumption); (case a => decide); (case b => decide); (case c => rfl); (case d => rfl); (case e => with_unfolding_all rfl)))
local macro_rules | `(tactic| k_all) => `(tactic| assumption)
set_option maxHeartbeats 4000000 in
theorem rules_call {w : World} {A : Around} {s : Shared} {Q E : Value → Shared → Prop} {mean : ExcName → Option Value} {mg mb : Str → Option Value}
    (S : Stat w mean mg mb s.heap) (R : Room A 4) {ca : Addr} {cs : List CallD} (hC : CallsAt s.heap ca cs) (hok : ∀ c ∈ cs, CallOk c)
    (ret : ∀ D h' tk, Le s.heap h' → RulesAt h' D (rulesF cs) → Q (.ref D) { s with heap := h', toks := tk }) :
    wpAny (model PySem.Challenge.rw_pe0251_01.row.prog w) A (call (.ref 206) [.ref ca]) Q E s := by
  have X : (headK w.params).In s.heap := S.k
  revert X
  k_fill
  intro X
  have T := topRead_of S.t
  refine' enter0 (args := ⟨[.ref ca], []⟩) (binds := [(Str.ofString "calls", .ref ca)]) (setAll [Str.ofString "calls"] [.ref ca] fun _ => none) S R ?o ?c ?b ?k ?n ?hm ?_ ?c1 ?c2 ?c3
  walk_at "fn sides"
  intro L h₁ tk cells A R F N Y
  have hA := R.hh
  have hU := R.un
  obtain ⟨oc1, rfl, hoc1⟩ := Y.one
  clear Y
  obtain ⟨vs, hvs, hall, hlen⟩ := hC
  k_steps
  refine unhalt ?_
  refine wpAny_For ?_
  k_steps
  refine unhalt ?_
  rename Fr _ _ _ _ => F₂
  rename News _ _ _ _ => N₂
  rename_i R0 hq1 hl0
  refine for_iterC (iter_list hA (isList_le F₂.keep hvs)) (fun i m nx => ∃ D us n oc v olds, nx = (D, W.listOf us.toArray n) :: (L + 1, oc) :: olds ∧ oc.data = .cell v ∧ @LT.lt Nat _ (L + 1) D ∧ (∀ p ∈ olds, p.1 ≠ D) ∧ (∀ p ∈ olds, p.1 ≠ L + 1) ∧
    (∀ z, z ∉ [Str.ofString "call", Str.ofString "head", Str.ofString "text", Str.ofString "sides", Str.ofString "stands"] → m z = if z = Str.ofString "rules" then some (.ref D) else setAll [Str.ofString "calls"] [.ref ca] (fun _ => none) z) ∧
    All2 (RuleIn s.heap olds) us ((cs.take i).foldl stepR [])) F₂ N₂ ⟨_, [], 0, _, _, [], rfl, hoc1, by omega, (fun _ h => nomatch h), (fun _ h => nomatch h), fun _ _ => rfl, .nil⟩ ?_ ?_ ?_
  · rintro i m nx h _ F' _
    exact isList_le F'.keep hvs
  · clear N₂ F₂ hoc1 oc1
    rintro i v m nx h tk I oI E' hv ⟨D, us, n, oc1, v1, olds, rfl, hoc1, hLD, hoD, hoL, hm, hus⟩ F' N' hoff hcalm
    obtain ⟨c, hc, a, t0, t1, t2, b, rfl, htup, hsd⟩ := hall.get (by simpa using hv)
    obtain ⟨hk, hch, hct⟩ := hok c (List.mem_of_getElem? hc)
    have hfold := fold_at (f := stepR) (a := []) hc
    have hil : i < 64 := by have := (List.getElem?_eq_some_iff.mp hc).1; omega
    have hID : @Ne Nat D I := hoff _ (.head _)
    have hIL : @Ne Nat (L + 1) I := hoff _ (.tail _ (.head _))
    have hIo : ∀ p ∈ olds, p.1 ≠ I := fun p hp => hoff p (.tail _ (.tail _ hp))
    obtain ⟨ck, chd, ctx, csd⟩ := c
    dsimp only at hk hch hct htup hsd
    refine assign_tup [(Str.ofString "call", _), (Str.ofString "head", _), (Str.ofString "text", _), (Str.ofString "sides", _)] hA (fr_over F' hm) N' (isTuple_le F'.keep htup) rfl rfl rfl rfl rfl rfl fun h₂ tk₂ F₃ N₃ => ?_
    clear F' N'
    k_steps
    refine unhalt ?_
    rename Fr _ _ _ _ => F₄
    rename News _ _ _ _ => N₄
    have hlR : ((cs.take i).foldl stepR []).length ≤ 128 := by
      have := foldR_len (cs.take i) []
      have h2 := List.length_take_le i cs
      rw [List.length_nil] at this
      omega
    generalize (cs.take i).foldl stepR [] = rs0 at *
    have hc1 : Heap.IsCell _ (L + 1) (some (.str (low chd) _)) := ⟨_, (N₄ _ (.tail _ (.tail _ (.head _)))).1, by assumption⟩
    have X₂ := X.keeps F₄.keep
    have T₂ := T.keeps F₄.keep
    have hrv := hus.mono fun _ _ q => q.val F₄ N₄ fun p hp => .tail _ (.tail _ (.tail _ hp))
    refine comp_pure (ax := D) (its := us) (ds := rs0) (R := RuleVal _) (R' := fun _ _ => True) (p := fun r => r.1 == low chd) (g := id) rfl (by decide) rfl (by decide) hA ?_ (by exact ⟨_, (N₄ _ (.tail _ (.head _))).1, rfl, _, rfl⟩) (by omega) hrv ?_ ?_
    · intro Q' hq; k_steps; exact hq _
    · rintro v rl C' m₃ nx h₃ tk₃ E₃ hrl ⟨ra, u1, u2, rb, rfl, rtup, _⟩ F₆ N₆
      refine ca_name F₆ N₆ rfl rfl fun h₇ tk₇ F₇ N₇ => ?_
      clear F₆ N₆
      clear F₄ N₄ htup
      refine wpAny_tests_one ?_
      k_steps
      exact True.intro
    · intro D3 ys3 h₆ tk₆ hle₆ hD₃ hsz₃ hys₃
      have N₆ := news_add F₄ N₄ hle₆ hD₃ hsz₃
      have F₆ := F₄.keeps hle₆
      have e3 := hys₃.isEmpty
      rw [List.map_id] at e3
      have hl3 : @LT.lt Nat _ D D3 := Nat.lt_of_lt_of_le (Heap.lt_size (N₄ _ (.tail _ (.head _))).1) hsz₃
      clear F₄ N₄ hle₆ hD₃ hsz₃ hc1 X₂ T₂ hrv hys₃
      k_steps
      rename Fr _ _ _ _ => F₇
      rename News _ _ _ _ => N₇
      refine ne_nil (xs := ys3) (by omega) (isList_lst (N₇ _ (.tail _ (.head _))).1) ⟨_, (N₇ _ (.head _)).1, rfl, _, rfl⟩ ?_
      rw [e3]
      have hul : us.length < 4096 := by rw [hus.length]; omega
      have hm5 : ∀ {x1 x2 x3 x4 x5 : Value} {z : Str}, z ∉ [Str.ofString "call", Str.ofString "head", Str.ofString "text", Str.ofString "sides", Str.ofString "stands"] → (fun y => if y = Str.ofString "stands" then some x5 else setAll [Str.ofString "call", Str.ofString "head", Str.ofString "text", Str.ofString "sides"] [x1, x2, x3, x4] (over [Str.ofString "call", Str.ofString "head", Str.ofString "text", Str.ofString "sides", Str.ofString "stands"] m fun z => if z = Str.ofString "rules" then some (Value.ref D) else setAll [Str.ofString "calls"] [.ref ca] (fun _ => none) z) y) z = if z = Str.ofString "rules" then some (Value.ref D) else setAll [Str.ofString "calls"] [.ref ca] (fun _ => none) z := fun hz =>
        (set_ne (n := Str.ofString "stands") (.tail _ (.tail _ (.tail _ (.tail _ (.head _))))) hz).trans ((setAll_ne (fun h => hz (List.mem_append_left [Str.ofString "stands"] h))).trans (over_ne hz))
      rcases hk with rfl | rfl | rfl | rfl
      · k_steps
        rename Fr _ _ _ _ => F₈
        rename News _ _ _ _ => N₈
        rename _ ∧ _ ∧ _ ∧ _ ∧ _ ∧ AllLt _ _ => l8
        rw [push_list] at N₈
        have lo := allLt_memC l8.2.2.2.2.2
        refine ⟨_, _, _, _, rfl, F₈, news_pickR N₈, off3 hID hIL (Nat.ne_of_gt l8.2.2.1) hIo, D, _, _, _, _, _, rfl, by assumption, hLD, off1 (Nat.ne_of_gt l8.2.2.2.1) hoD, off1 (Nat.ne_of_gt l8.2.2.2.2.1) hoL, fun z hz => hm5 hz, ?_⟩
        rw [hfold, stepR0]
        exact (hus.mono fun _ _ q => q.mono fun _ h => .tail _ h).snoc (b := (low chd, ctx, csd)) ⟨_, _, _, b, _, rfl, .head _, ⟨rfl, _, rfl⟩, hsd⟩
      · cases he : (rs0.filter fun r => r.1 == low chd).isEmpty with
        | true =>
          k_steps
          rename Fr _ _ _ _ => F₈
          rename News _ _ _ _ => N₈
          rename _ ∧ _ ∧ _ ∧ _ ∧ _ ∧ AllLt _ _ => l8
          rw [push_list] at N₈
          have lo := allLt_memC l8.2.2.2.2.2
          refine ⟨_, _, _, _, rfl, F₈, news_pickR N₈, off3 hID hIL (Nat.ne_of_gt l8.2.2.1) hIo, D, _, _, _, _, _, rfl, by assumption, hLD, off1 (Nat.ne_of_gt l8.2.2.2.1) hoD, off1 (Nat.ne_of_gt l8.2.2.2.2.1) hoL, fun z hz => hm5 hz, ?_⟩
          rw [hfold, stepR1a _ _ _ _ he]
          exact (hus.mono fun _ _ q => q.mono fun _ h => .tail _ h).snoc (b := (low chd, ctx, csd)) ⟨_, _, _, b, _, rfl, .head _, ⟨rfl, _, rfl⟩, hsd⟩
        | false =>
          k_steps
          rename Fr _ _ _ _ => F₈
          rename News _ _ _ _ => N₈
          refine ⟨_, _, _, _, rfl, F₈, (fun p hp => N₈ p (.tail _ (.tail _ hp))), off2 hID hIL hIo, D, _, _, _, _, _, rfl, by assumption, hLD, hoD, hoL, fun z hz => hm5 hz, ?_⟩
          rw [hfold, stepR1b _ _ _ _ he]
          exact hus
      · k_steps
        refine unhalt ?_
        rename Fr _ _ _ _ => F₈
        rename News _ _ _ _ => N₈
        have hc1 : Heap.IsCell _ (L + 1) (some (.str (low chd) _)) := ⟨_, (N₈ _ (.tail _ (.tail _ (.tail _ (.tail _ (.head _)))))).1, by assumption⟩
        have X₂ := X.keeps F₈.keep
        have T₂ := T.keeps F₈.keep
        have hrv := (hus.mono fun _ _ q => q.val F₈ N₈ fun p hp => .tail _ (.tail _ (.tail _ (.tail _ (.tail _ hp))))).and hus
        have hrl : rs0.length ≤ 4096 := by omega
        refine comp_pureA (by exact F₈) (by exact N₈) rfl rfl (by decide) rfl (by decide) rfl rfl hA ?_ (by exact ⟨_, (N₈ _ (.tail _ (.tail _ (.tail _ (.head _))))).1, rfl, _, rfl⟩) hrl hrv (p := fun r => r.1 != low chd) (g := id) (R' := RuleIn s.heap olds) ?_ ?_
        · intro Q' hq; k_steps; exact hq _
        · rintro v rl C' m₃ nx h₃ tk₃ E₃ hrl ⟨⟨ra, u1, u2, rb, rfl, rtup, _⟩, hri⟩ F₆ N₆
          refine ca_name F₆ N₆ rfl rfl fun h₇ tk₇ F₀ N₀ => ?_
          clear F₆ N₆
          clear F₈ N₈ htup
          refine wpAny_tests_one ?_
          k_steps
          exact hri
        · intro D4 ys4 h₉ tk₉ F₉ N₉ hlt₉ _ hys₄
          rw [List.map_id] at hys₄
          have hl4 : @LT.lt Nat _ (L + 1) D4 := hlt₉ _ (.tail _ (.tail _ (.tail _ (.tail _ (.head _)))))
          have hI4 : @Ne Nat D4 I := Ne.symm (Nat.ne_of_lt (hlt₉ _ (.tail _ (.tail _ (.head _)))))
          have ho4 : ∀ p ∈ olds, p.1 ≠ D4 := fun p hp => Nat.ne_of_lt (hlt₉ _ (.tail _ (.tail _ (.tail _ (.tail _ (.tail _ hp))))))
          have hyl : ys4.length < 4096 := by
            rw [hys₄.length]
            have := List.length_filter_le (fun r : RuleD => r.1 != low chd) rs0
            omega
          have q1 := ltN (hlt₉ _ (.head _))
          have q2 := ltN (hlt₉ _ (.tail _ (.head _)))
          have q3 := ltN (hlt₉ _ (.tail _ (.tail _ (.tail _ (.head _)))))
          dsimp only at q1 q2 q3
          change Fr s.heap L h₉ _ at F₉
          change News s.heap L h₉ ((D4, W.listOf ys4.toArray ys4.length) :: _) at N₉
          k_steps
          rename Fr _ _ _ _ => F₀
          rename News _ _ _ _ => N₀
          rename _ ∧ _ ∧ _ ∧ _ ∧ _ ∧ _ ∧ AllLt _ _ => l8
          rw [push_list] at N₀
          refine ⟨_, _, _, _, rfl, F₀, news_pickS N₀, off3 hI4 hIL (Nat.ne_of_gt l8.2.2.2.1) hIo, D4, _, _, _, _, _, rfl, by assumption, hl4, off1 (Nat.ne_of_gt l8.1) ho4, off1 (Nat.ne_of_gt l8.2.2.2.2.2.1) hoL, fun z hz => rules_end (hm5 hz), ?_⟩
          rw [hfold, stepR2]
          exact (hys₄.mono fun _ _ q => q.mono fun _ h => .tail _ h).snoc (b := (low chd, ctx, csd)) ⟨_, _, _, b, _, rfl, .head _, ⟨rfl, _, rfl⟩, hsd⟩
      · k_steps
        refine unhalt ?_
        rename Fr _ _ _ _ => F₈
        rename News _ _ _ _ => N₈
        have hc1 : Heap.IsCell _ (L + 1) (some (.str (low chd) _)) := ⟨_, (N₈ _ (.tail _ (.tail _ (.tail _ (.tail _ (.head _)))))).1, by assumption⟩
        have X₂ := X.keeps F₈.keep
        have T₂ := T.keeps F₈.keep
        have hrv := (hus.mono fun _ _ q => q.val F₈ N₈ fun p hp => .tail _ (.tail _ (.tail _ (.tail _ (.tail _ hp))))).and hus
        have hrl : rs0.length ≤ 4096 := by omega
        refine comp_pureA (by exact F₈) (by exact N₈) rfl rfl (by decide) rfl (by decide) rfl rfl hA ?_ (by exact ⟨_, (N₈ _ (.tail _ (.tail _ (.tail _ (.head _))))).1, rfl, _, rfl⟩) hrl hrv (p := fun r => r.1 != low chd) (g := id) (R' := RuleIn s.heap olds) ?_ ?_
        · intro Q' hq; k_steps; exact hq _
        · rintro v rl C' m₃ nx h₃ tk₃ E₃ hrl ⟨⟨ra, u1, u2, rb, rfl, rtup, _⟩, hri⟩ F₆ N₆
          refine ca_name F₆ N₆ rfl rfl fun h₇ tk₇ F₀ N₀ => ?_
          clear F₆ N₆
          clear F₈ N₈ htup
          refine wpAny_tests_one ?_
          k_steps
          exact hri
        · intro D4 ys4 h₉ tk₉ F₉ N₉ hlt₉ _ hys₄
          rw [List.map_id] at hys₄
          have hl4 : @LT.lt Nat _ (L + 1) D4 := hlt₉ _ (.tail _ (.tail _ (.tail _ (.tail _ (.head _)))))
          have hI4 : @Ne Nat D4 I := Ne.symm (Nat.ne_of_lt (hlt₉ _ (.tail _ (.tail _ (.head _)))))
          have ho4 : ∀ p ∈ olds, p.1 ≠ D4 := fun p hp => Nat.ne_of_lt (hlt₉ _ (.tail _ (.tail _ (.tail _ (.tail _ (.tail _ hp))))))
          have hyl : ys4.length < 4096 := by
            rw [hys₄.length]
            have := List.length_filter_le (fun r : RuleD => r.1 != low chd) rs0
            omega
          have q1 := ltN (hlt₉ _ (.head _))
          have q2 := ltN (hlt₉ _ (.tail _ (.head _)))
          have q3 := ltN (hlt₉ _ (.tail _ (.tail _ (.tail _ (.head _)))))
          dsimp only at q1 q2 q3
          change Fr s.heap L h₉ _ at F₉
          change News s.heap L h₉ ((D4, W.listOf ys4.toArray ys4.length) :: _) at N₉
          k_steps
          rename Fr _ _ _ _ => F₀
          rename News _ _ _ _ => N₀
          refine ⟨_, _, _, _, rfl, F₀, news_pickT N₀, off2 hI4 hIL hIo, D4, _, _, _, _, _, rfl, by assumption, hl4, ho4, hoL, fun z hz => rules_end (hm5 hz), ?_⟩
          rw [hfold, stepR3]
          exact hys₄
  · rintro m nx h tk ⟨D, us, n, oc1, v1, olds, rfl, hoc1, hLD, hoD, hoL, hm, hus⟩ F' N'
    replace F' := fr_over F' hm
    clear F₂ N₂
    rw [show vs.toArray.size = cs.length from by rw [List.size_toArray]; exact hall.length, List.take_length] at hus
    k_steps
    have := foldR_len cs []
    rw [List.length_nil] at this
    exact ret _ _ _ F'.keep ⟨us, ⟨_, (N' _ (.head _)).1, rfl, _, rfl⟩, hus.mono fun _ _ q => q.val F' N' fun p hp => .tail _ (.tail _ hp), by show (cs.foldl stepR []).length ≤ _; omega⟩
end Mine
namespace Mine
local macro_rules | `(tactic| walk_at "eval ListComp") => `(tactic| refine halt ?_)
local macro_rules | `(tactic| walk_at "exec Assign cons ListComp") => `(tactic| refine halt ?_)
local macro_rules | `(tactic| walk_at "exec For") => `(tactic| refine halt ?_)
local macro_rules | `(tactic| walk_at "exec For Name Call cons nil") => `(tactic| refine halt ?_)
local macro_rules | `(tactic| walk_at "pyIter ref") => `(tactic| refine halt ?_)
local macro_rules | `(tactic| walk_at "pyIter str") => `(tactic| refine halt ?_)
local macro_rules | `(tactic| walk_at "compareOp Eq ref ref") => `(tactic| refine halt ?_)
local macro_rules | `(tactic| walk_at "compareOp NotEq ref ref") => `(tactic| refine halt ?_)
local macro_rules | `(tactic| walk_at "compareOp In str ref") => `(tactic| refine halt ?_)
local macro_rules | `(tactic| walk_at "compareOp NotIn str ref") => `(tactic| refine halt ?_)
local macro_rules | `(tactic| walk_at "call ref") => `(tactic| refine halt ?_)
local macro_rules | `(tactic| walk_at "call ref") => `(tactic| ((with_unfolding_all (refine conv_call (Stat.le (by assumption) (Fr.keep (by k_asm))) (Room.mono (by assumption) (by decide)) (by first | exact .inl ⟨rfl, by assumption⟩ | exact .inr ⟨rfl, by assumption⟩) ?_)); intro h' tk' hle'; walk_at "grown"))
local macro_rules | `(tactic| walk_at "grown") => `(tactic| ((rename Fr _ _ _ _ => kF); (rename News _ _ _ _ => kN); (rename Le _ _ => hle); k_dflt (replace kF := Fr.keeps kF hle; replace kN := News.grown kN hle; clear hle)))
local macro_rules | `(tactic| walk_at "call builtin:str.lower") => `(tactic| k_dflt (refine lower_call (by assumption) ?_))
local macro_rules | `(tactic| walk_at "call builtin:str.upper") => `(tactic| k_dflt (refine upper_call (by assumption) ?_))
local macro_rules | `(tactic| walk_at "setItem ref ref") => `(tactic| refine halt ?_)
local macro_rules | `(tactic| walk_at "eval Slice") => `(tactic| refine halt ?_)
local macro_rules | `(tactic| walk_at "delItem ref") => `(tactic| (k_dflt (refine' del_item ?F ?X ?I ?hQ ?hS ?hF ?_; (case F => k_asm); (case X => k_asm); (case I => k_inst); (case hS => k_is); (case hF => k_is); (case hQ => k_is))))
local macro_rules | `(tactic| walk_at "At") => `(tactic| exact ⟨_, _, _, rfl, by assumption, by assumption⟩)
local macro_rules | `(tactic| walk_at "StrVal") => `(tactic| exact ⟨_, rfl⟩)
local macro_rules | `(tactic| walk_at "eval Name") => `(tactic| ((with_reducible show wpAny _ _ (eval (Expr.Name _ _) (compEnvC _ _ _ _)) _ _ _); k_dflt (first
  | (refine' cn_local ?F ?v ?_ ?a ?b; (case F => k_asm); (case a => rfl); (case b => rfl); (case v => rfl); k_whole)
  | (refine' cn_cell ?F ?c ?v ?_ ?a ?b; (case a => rfl); (case b => rfl); (case F => k_asm); (case v => rfl); (case c => assumption); k_whole)
  | (refine' cn_global ?F ?X ?T ?e ?_ ?g ?a ?b; (case a => rfl); (case b => rfl); (case g => rfl); (case F => k_asm); (case X => k_asm); (case T => k_asm); (case e => k_is); k_whole))))
local macro_rules | `(tactic| walk_at "fn sides") => `(tactic| (
  (case o => k_dflt k_is)
  (case c => k_dflt k_is)
  (case b => first | exact BindsTo.of_eq rfl | exact binds_K (by assumption) rfl (by k_is) rfl rfl rfl)
  (case k => rfl)
  (case n => decide)
  (case hm => exact fun _ => rfl)
  (case c1 => rfl)
  (case c2 => rfl)
  (case c3 => rfl)))
local macro_rules | `(tactic| k_inst) => `(tactic| exact TableAt.inst (by k_asm) (by assumption))
local macro_rules | `(tactic| walk_at "subscriptTail Name Constant ref int") => `(tactic| (refine' tup_item ?F ?t ?a ?b ?c ?d ?_ ?e; (case F => k_asm); (case t => assumption); (case a => decide); (case b => decide); (case c => rfl); (case d => rfl); (case e => with_unfolding_all rfl)))
set_option maxHeartbeats 4000000 in
theorem holds_call {w : World} {A : Around} {s : Shared} {Q E : Value → Shared → Prop} {mean : ExcName → Option Value} {mg mb : Str → Option Value}
    (S : Stat w mean mg mb s.heap) (R : Room A 3) {a b : Addr} {ss : List (List Str)} {hs : List Str} (ha : SidesAt s.heap a ss) (hb : StrsAt s.heap b hs)
    (ret : ∀ h' tk, Le s.heap h' → Q (.bool (ss.any fun side => side.all fun l => hs.contains l)) { s with heap := h', toks := tk }) :
    wpAny (model PySem.Challenge.rw_pe0251_01.row.prog w) A (call (.ref 216) [.ref a, .ref b]) Q E s := by
  have X : (headK w.params).In s.heap := S.k
  revert X
  k_fill
  intro X
  have T := topRead_of S.t
  refine' enter0 (args := ⟨[.ref a, .ref b], []⟩) (binds := [(Str.ofString "sides", .ref a), (Str.ofString "held", .ref b)]) (fun y => if y = Str.ofString "sides" then some (.ref a) else none) S R ?o ?c ?b ?k ?n ?hm ?_ ?c1 ?c2 ?c3
  walk_at "fn sides"
  intro L h₁ tk cells A R F N Y
  have hA := R.hh
  have hU := R.un
  obtain ⟨oc, rfl, hoc⟩ := Y.one
  replace hoc : oc.data = .cell (some (.ref b)) := hoc
  clear Y
  obtain ⟨vs, hvs, hall, hlen⟩ := ha
  k_steps
  refine exec_for (xv := .ref a) ?_ ?_
  · intro Q' hq; k_steps; exact hq
  refine for_iter (iter_list hA (isList_le F.keep hvs)) (fun i m nx => nx = [(L + 1, oc)] ∧ (ss.take i).any (fun side => side.all fun l => hs.contains l) = false) F N ⟨rfl, rfl⟩ ?_ ?_ ?_
  · rintro i m nx h ⟨rfl, _⟩ F' _
    exact isList_le F'.keep hvs
  · rintro i v m nx h tk I oI E' hv ⟨rfl, hno⟩ F' N' hoff
    obtain ⟨side, hside, d, rfl, us, hus, hstr, hslen⟩ := hall.get (by simpa using hv)
    refine wpAny_assign_Name (storeX_L F' N' fun h₂ F₂ N₂ => ?_)
    clear F' N'
    k_steps
    have bcell : h₂.IsCell (L + 1) (some (.ref b)) := ⟨oc, (N₂ _ (.tail _ (.head _))).1, hoc⟩
    have X₂ := X.keeps F₂.keep
    have T₂ := T.keeps F₂.keep
    have hb₂ := hb.le F₂.keep
    refine comp_pure (ax := d) (its := us) (ds := side) (R := StrVal) (R' := StrVal) (g := id) (p := fun l => !hs.contains l) rfl (by decide) rfl (by decide) hA ?_ (isList_le F₂.keep hus) ?_ hstr ?_ ?_
    · intro Q' hq; k_steps; exact hq _
    · exact hslen
    · rintro v l C m₃ nx h₃ tk₃ E₃ hl ⟨t, rfl⟩ F₃ N₃
      refine ca_name F₃ N₃ rfl rfl fun h₄ tk₄ F₄ N₄ => ?_
      refine wpAny_tests_one ?_
      k_steps
      refine notIn_strs (hb₂.le F₄.keep) ?_
      k_steps
    · intro D ys h₃ tk₃ hle hD hsz hys
      have N₃ := news_add F₂ N₂ hle hD hsz
      have F₃ := F₂.keeps hle
      clear N₂ F₂
      k_steps
      rename News _ _ _ _ => N₅
      refine eq_nil (xs := ys) (by omega) (isList_lst (N₅ _ (.tail _ (.head _))).1) ⟨_, (N₅ _ (.head _)).1, rfl, _, rfl⟩ ?_
      have hsi : side ∈ ss := List.mem_of_getElem? hside
      rw [List.map_id] at hys
      k_steps
      · rename ys.isEmpty = true => hE
        have hnil : ys = [] := List.isEmpty_iff.mp hE
        subst hnil
        have hf := List.length_eq_zero_iff.mp hys.length.symm
        have ht : (ss.any fun side => side.all fun l => hs.contains l) = true :=
          List.any_eq_true.mpr ⟨side, hsi, List.all_eq_true.mpr fun x hx => by simpa using List.filter_eq_nil_iff.mp hf x hx⟩
        have r := ret _ tk (Fr.keep (by assumption))
        rw [ht] at r
        exact r
      · refine ⟨_, _, _, [(L + 1, oc)], rfl, by assumption, fun p hp => N₅ p (.tail _ (.tail _ hp)), hoff, rfl, ?_⟩
        rename ys.isEmpty = false => hE
        rw [take_step hside, List.any_append, hno, Bool.false_or, List.any_cons, List.any_nil, Bool.or_false]
        refine Bool.eq_false_iff.mpr fun hall' => Bool.noConfusion (hE.symm.trans (?_ : ys.isEmpty = true))
        have hf : side.filter (fun l => !hs.contains l) = [] := List.filter_eq_nil_iff.mpr fun x hx => by simpa using List.all_eq_true.mp hall' x hx
        rw [hf] at hys
        cases hys
        rfl
  · rintro m nx h tk ⟨rfl, hno⟩ F' N'
    k_steps
    rw [List.size_toArray, hall.length, List.take_length] at hno
    have r := ret h tk F'.keep
    rw [hno] at r
    exact r
end Mine
namespace Mine
local macro_rules | `(tactic| walk_at "eval ListComp") => `(tactic| refine halt ?_)
local macro_rules | `(tactic| walk_at "exec Assign cons ListComp") => `(tactic| refine halt ?_)
local macro_rules | `(tactic| walk_at "exec For") => `(tactic| refine halt ?_)
local macro_rules | `(tactic| walk_at "exec For Name Call cons nil") => `(tactic| refine halt ?_)
local macro_rules | `(tactic| walk_at "pyIter ref") => `(tactic| refine halt ?_)
local macro_rules | `(tactic| walk_at "pyIter str") => `(tactic| refine halt ?_)
local macro_rules | `(tactic| walk_at "compareOp Eq ref ref") => `(tactic| refine halt ?_)
local macro_rules | `(tactic| walk_at "compareOp NotEq ref ref") => `(tactic| refine halt ?_)
local macro_rules | `(tactic| walk_at "compareOp In str ref") => `(tactic| refine halt ?_)
local macro_rules | `(tactic| walk_at "compareOp NotIn str ref") => `(tactic| refine halt ?_)
local macro_rules | `(tactic| walk_at "call ref") => `(tactic| refine halt ?_)
local macro_rules | `(tactic| walk_at "call ref") => `(tactic| ((with_unfolding_all (refine conv_call (Stat.le (by assumption) (Fr.keep (by k_asm))) (Room.mono (by assumption) (by decide)) (by first | exact .inl ⟨rfl, by assumption⟩ | exact .inr ⟨rfl, by assumption⟩) ?_)); intro h' tk' hle'; walk_at "grown"))
local macro_rules | `(tactic| walk_at "grown") => `(tactic| ((rename Fr _ _ _ _ => kF); (rename News _ _ _ _ => kN); (rename Le _ _ => hle); k_dflt (replace kF := Fr.keeps kF hle; replace kN := News.grown kN hle; clear hle)))
local macro_rules | `(tactic| walk_at "call builtin:str.lower") => `(tactic| k_dflt (refine lower_call (by assumption) ?_))
local macro_rules | `(tactic| walk_at "call builtin:str.upper") => `(tactic| k_dflt (refine upper_call (by assumption) ?_))
local macro_rules | `(tactic| walk_at "setItem ref ref") => `(tactic| refine halt ?_)
local macro_rules | `(tactic| walk_at "eval Slice") => `(tactic| refine halt ?_)
local macro_rules | `(tactic| walk_at "delItem ref") => `(tactic| (k_dflt (refine' del_item ?F ?X ?I ?hQ ?hS ?hF ?_; (case F => k_asm); (case X => k_asm); (case I => k_inst); (case hS => k_is); (case hF => k_is); (case hQ => k_is))))
local macro_rules | `(tactic| walk_at "At") => `(tactic| exact ⟨_, _, _, rfl, by assumption, by assumption⟩)
local macro_rules | `(tactic| walk_at "StrVal") => `(tactic| exact ⟨_, rfl⟩)
local macro_rules | `(tactic| walk_at "eval Name") => `(tactic| ((with_reducible show wpAny _ _ (eval (Expr.Name _ _) (compEnvC _ _ _ _)) _ _ _); k_dflt (first
  | (refine' cn_local ?F ?v ?_ ?a ?b; (case F => k_asm); (case a => rfl); (case b => rfl); (case v => rfl); k_whole)
  | (refine' cn_cell ?F ?c ?v ?_ ?a ?b; (case a => rfl); (case b => rfl); (case F => k_asm); (case v => rfl); (case c => assumption); k_whole)
  | (refine' cn_global ?F ?X ?T ?e ?_ ?g ?a ?b; (case a => rfl); (case b => rfl); (case g => rfl); (case F => k_asm); (case X => k_asm); (case T => k_asm); (case e => k_is); k_whole))))
local macro_rules | `(tactic| walk_at "fn sides") => `(tactic| (
  (case o => k_dflt k_is)
  (case c => k_dflt k_is)
  (case b => first | exact BindsTo.of_eq rfl | exact binds_K (by assumption) rfl (by k_is) rfl rfl rfl)
  (case k => rfl)
  (case n => decide)
  (case hm => exact fun _ => rfl)
  (case c1 => rfl)
  (case c2 => rfl)
  (case c3 => rfl)))
local macro_rules | `(tactic| k_inst) => `(tactic| exact TableAt.inst (by k_asm) (by assumption))
local macro_rules | `(tactic| walk_at "subscriptTail Name Constant ref int") => `(tactic| (refine' tup_item ?F ?t ?a ?b ?c ?d ?_ ?e; (case F => k_asm); (case t => assumption); (case a => decide); (case b => decide); (case c => rfl); (case d => rfl); (case e => with_unfolding_all rfl)))
set_option maxHeartbeats 4000000 in
theorem due_call {w : World} {A : Around} {s : Shared} {Q E : Value → Shared → Prop} {mean : ExcName → Option Value} {mg mb : Str → Option Value}
    (S : Stat w mean mg mb s.heap) (R : Room A 6) {r : Addr} {rs : List RuleD} (hR : RulesAt s.heap r rs)
    (ret : ∀ D h' tk, Le s.heap h' → s.heap.get? D = none → StrsAt h' D (dueF rs) → Q (.ref D) { s with heap := h', toks := tk }) :
    wpAny (model PySem.Challenge.rw_pe0251_01.row.prog w) A (call (.ref 221) [.ref r]) Q E s := by
  have X : (headK w.params).In s.heap := S.k
  revert X
  k_fill
  intro X
  have T := topRead_of S.t
  refine' enter0 (args := ⟨[.ref r], []⟩) (binds := [(Str.ofString "rules", .ref r)]) (setAll [Str.ofString "rules"] [.ref r] fun _ => none) S R ?o ?c ?b ?k ?n ?hm ?_ ?c1 ?c2 ?c3
  walk_at "fn sides"
  intro L h₁ tk cells A R F N Y
  obtain ⟨oc2, oc1, rfl, hoc2, hoc1⟩ := Y.two
  clear Y
  have hA := R.hh
  have hU := R.un
  k_steps
  refine unhalt ?_
  refine wpAny_For ?_
  k_steps
  refine unhalt ?_
  rename Fr _ _ _ _ => F₂
  rename News _ _ _ _ => N₂
  revert F₂ N₂
  rename Fr _ _ _ _ => Fo
  rename News _ _ _ _ => No
  clear Fo No
  intro F₂ N₂
  rename IsRange _ _ _ _ _ _ _ _ => hr
  refine for_iterC (iter_range (n := 16) hA hr (by decide) (by decide)) (fun i m nx => ∃ oc1 oc2 D ys n v1 v2, nx = [(D, W.listOf ys.toArray n), (L + 1 + 1, oc2), (L + 1, oc1)] ∧ @LT.lt Nat _ (L + 1 + 1) D ∧ oc1.data = .cell v1 ∧ oc2.data = .cell v2 ∧ (m = fun z => if z = Str.ofString "due" then some (.ref D) else setAll [Str.ofString "rules"] [.ref r] (fun _ => none) z) ∧ All2 StrVal ys ((List.range i).foldl (stepD rs) abcd)) F₂ N₂ ⟨oc1, oc2, _, [_, _, _, _], 0, _, _, rfl, by omega, hoc1, hoc2, rfl, .cons (strv_a _) (.cons (strv_b _) (.cons (strv_c _) (.cons (strv_d _) .nil)))⟩ ?_ ?_ ?_
  · intro i m nx h _ _ _; trivial
  · clear F₂ N₂ hoc1 hoc2 oc1 oc2
    rintro i v m nx h tk I oI E' ⟨ti, rfl⟩ ⟨oc1, oc2, D, ys, n, v1, v2, rfl, hLD, hoc1, hoc2, rfl, hys⟩ F' N' hoff hcalm
    have hID : @Ne Nat D I := hoff _ (.head _)
    have hI2 : @Ne Nat (L + 1 + 1) I := hoff _ (.tail _ (.head _))
    have hI1 : @Ne Nat (L + 1) I := hoff _ (.tail _ (.tail _ (.head _)))
    have hoff' : ∀ {o1 o2 o3 : Obj}, ∀ p ∈ [(D, o1), (L + 1 + 1, o2), (L + 1, o3)], p.1 ≠ I := fun p hp => by
      simp only [List.mem_cons, List.not_mem_nil, or_false] at hp
      rcases hp with rfl | rfl | rfl
      · exact hID
      · exact hI2
      · exact hI1
    refine wpAny_assign_Name ?_
    k_steps
    refine unhalt ?_
    refine wpAny_Assign_Name ?_
    refine comp_pureI (α := Nat) (β := Str) (ds := List.range 4) (R := fun v k => ∃ t, v = .int (k : Int) t) (p := fun k : Nat => i / 2 ^ k % 2 == 1) (g := fun k : Nat => st [97 + k]) (R' := StrVal) rfl (by decide) rfl (by decide) ?_
    k_steps
    refine unhalt ?_
    rename Fr _ _ _ _ => F₃
    rename News _ _ _ _ => N₃
    rename IsRange _ _ _ _ _ _ _ _ => hr
    revert F₃ N₃
    rename Fr _ _ _ _ => Fo
    rename News _ _ _ _ => No
    clear Fo No
    intro F₃ N₃
    have hmc : Heap.IsCell _ (L + 1) (some (.int (0 + (i : Int)) ti)) := ⟨_, (N₃ _ (.tail _ (.tail _ (.tail _ (.head _))))).1, by assumption⟩
    refine ⟨_, _, _, (iter_range (n := 4) hA hr (by decide) (by decide)).lt, fun _ _ => trivial, rfl, by decide, ?_, ?_, ?_⟩
    · rintro j v ⟨hj, t, rfl⟩
      exact ⟨j, by simp [hj], t, by simp⟩
    · rintro v k C m₃ nx h₃ tk₃ E₃ hk ⟨t, rfl⟩ F₄ N₄
      have hk4 : k < 4 := List.mem_range.mp hk
      refine ca_name F₄ N₄ rfl rfl fun h₅ tk₅ F₅ N₅ => ?_
      clear F₄ N₄
      clear F₃ N₃
      refine wpAny_tests_one ?_
      rcases (by omega : k = 0 ∨ k = 1 ∨ k = 2 ∨ k = 3) with rfl | rfl | rfl | rfl
      all_goals k_steps
      · exact bit_eq i 0
      · exact bit_eq i 1
      · exact bit_eq i 2
      · exact bit_eq i 3
    · intro D2 ys2 h₄ tk₄ hle₄ hD₂ hsz₂ hys₂
      have N₄ := news_add F₃ N₃ hle₄ hD₂ hsz₂
      have F₄ := F₃.keeps hle₄
      have hlt : ∀ p ∈ [(I, oI), (D, W.listOf ys.toArray n), (L + 1 + 1, oc2), (L + 1, _)], @LT.lt Nat _ p.1 D2 := fun p hp => Nat.lt_of_lt_of_le (Heap.lt_size (N₃ p hp).1) hsz₂
      have hlI : @LT.lt Nat _ I D2 := hlt _ (.head _)
      have hlD : @LT.lt Nat _ D D2 := hlt _ (.tail _ (.head _))
      have hl2 : @LT.lt Nat _ (L + 1 + 1) D2 := hlt _ (.tail _ (.tail _ (.head _)))
      clear F₃ N₃ hlt hmc
      change All2 StrVal ys2 (heldOf i) at hys₂
      k_steps
      refine unhalt ?_
      rename Fr _ _ _ _ => F₅
      rename News _ _ _ _ => N₅
      have hStr : StrsAt _ D2 (heldOf i) := ⟨ys2, isList_lst (N₅ _ (.head _)).1, hys₂, Nat.le_trans (heldOf_len i) (by decide)⟩
      have hcell : Heap.IsCell _ (L + 1 + 1) (some (.ref D2)) := ⟨_, (N₅ _ (.tail _ (.tail _ (.tail _ (.head _))))).1, by assumption⟩
      have X₂ := X.keeps F₅.keep
      have T₂ := T.keeps F₅.keep
      have S₂ : Stat w mean mg mb _ := S.le F₅.keep
      obtain ⟨vs, hvs, hall, hlen⟩ := hR
      refine comp_pure (ax := r) (its := vs) (ds := rs) (R := RuleVal s.heap) (R' := StrVal) (p := fun r => !(heldOf i).contains r.1 && holdsF r.2.2 (heldOf i)) (g := fun r => r.1) rfl (by decide) rfl (by decide) hA ?_ (isList_le F₅.keep hvs) hlen hall ?_ ?_
      · intro Q' hq; k_steps; exact hq _
      · rintro v p C m₃ nx h₃ tk₃ E₃ hp ⟨a, t1, t2, b, rfl, htup, hsd⟩ F₆ N₆
        refine ca_tup [(Str.ofString "head", _), (Str.ofString "text", _), (Str.ofString "sides", _)] hA F₆ N₆ (isTuple_le F₆.keep (isTuple_le F₅.keep htup)) rfl rfl rfl rfl rfl fun h₇ tk₇ F₇ N₇ => ?_
        replace hsd := hsd.le (Le.trans F₅.keep F₇.keep)
        replace hStr := hStr.le F₇.keep
        clear F₆ N₆
        clear F₅ N₅
        refine wpAny_tests_one ?_
        k_steps
        refine unhalt ?_
        refine notIn_strs hStr ?_
        k_steps
        · rename List.contains _ _ = true => hq
          show false = (_ && _)
          rw [hq]; rfl
        · refine unhalt ?_
          rename List.contains _ _ = false => hq
          refine holds_call (by exact S₂.le F₇.keep) (R.mono (by decide)) hsd hStr fun h₈ tk₈ hle₈ => ?_
          replace F₇ := F₇.keeps hle₈
          replace N₇ := N₇.grown hle₈
          clear hle₈
          change wpAny _ _ (truthy (.bool (holdsF p.2.2 (heldOf i)))) _ _ _
          k_steps
          all_goals (rename holdsF _ _ = _ => hr9; rw [hq, hr9]; rfl)
      · intro D3 ys3 h₆ tk₆ hle₆ hD₃ hsz₃ hys₃
        have N₆ := news_add F₅ N₅ hle₆ hD₃ hsz₃
        have F₆ := F₅.keeps hle₆
        replace hStr := hStr.le hle₆
        have h23 : @LT.lt Nat _ D2 D3 := Nat.lt_of_lt_of_le (Heap.lt_size (N₅ _ (.head _)).1) hsz₃
        clear F₅ N₅ hle₆ hcell X₂ T₂ S₂ hD₃ hsz₃ hle₄ hD₂ hsz₂
        k_steps
        rename Fr _ _ _ _ => F₇
        rename News _ _ _ _ => N₇
        refine eq_nil (xs := ys3) (by omega) (isList_lst (N₇ _ (.tail _ (.head _))).1) ⟨_, (N₇ _ (.head _)).1, rfl, _, rfl⟩ ?_
        k_steps
        · refine unhalt ?_
          rename Fr _ _ _ _ => F₈
          rename News _ _ _ _ => N₈
          rename List.isEmpty _ = true => hE
          have hfold := due_cut hys₃ hE
          have hDl : ((List.range i).foldl (stepD rs) abcd).length ≤ 4096 := Nat.le_trans (fold_len rs _ _) (by decide)
          have hStr₈ : StrsAt _ D2 (heldOf i) := ⟨ys2, isList_lst (N₈ _ (.tail _ (.tail _ (.head _)))).1, hys₂, Nat.le_trans (heldOf_len i) (by decide)⟩
          have hcell : Heap.IsCell _ (L + 1 + 1) (some (.ref D2)) := ⟨_, (N₈ _ (.tail _ (.tail _ (.tail _ (.tail _ (.tail _ (.head _))))))).1, by assumption⟩
          have X₂ := X.keeps F₈.keep
          have T₂ := T.keeps F₈.keep
          clear hStr
          refine comp_pureA (by exact F₈) (by exact N₈) rfl rfl (by decide) rfl (by decide) rfl rfl hA ?_ (by exact ⟨_, (N₈ _ (.tail _ (.tail _ (.tail _ (.tail _ (.head _)))))).1, rfl, _, rfl⟩) hDl hys (p := fun c => (heldOf i).contains c) (g := id) (R' := StrVal) ?_ ?_
          · intro Q' hq; k_steps; exact hq _
          · rintro v c C m₃ nx h₃ tk₃ E₃ hc ⟨t, rfl⟩ F₉ N₉
            refine ca_name F₉ N₉ rfl rfl fun h₉ tk₉ F₀ N₀ => ?_
            clear F₉ N₉
            replace hStr₈ := hStr₈.le F₀.keep
            clear F₈ N₈
            refine wpAny_tests_one ?_
            k_steps
            refine in_strs hStr₈ ?_
            k_steps
          · intro D4 ys4 h₉ tk₉ F₉ N₉ hlt₉ _ hys₄
            rw [List.map_id] at hys₄
            have hl4 := hlt₉ _ (.tail _ (.tail _ (.tail _ (.tail _ (.tail _ (.head _))))))
            rw [set_twice] at F₉
            have hI4 : @Ne Nat D4 I := Ne.symm (Nat.ne_of_lt (hlt₉ _ (.tail _ (.tail _ (.tail _ (.head _))))))
            k_steps
            exact ⟨_, _, _, _, rfl, F₉, news_pick N₉, (fun p hp => by
              simp only [List.mem_cons, List.not_mem_nil, or_false] at hp
              rcases hp with rfl | rfl | rfl
              · exact hI4
              · exact hI2
              · exact hI1), _, _, D4, ys4, _, _, _, rfl, hl4, by assumption, by assumption, rfl, hfold ▸ hys₄⟩
        · rename List.isEmpty _ = false => hE
          have hfold := due_keep hys₃ hE
          exact ⟨_, _, _, _, rfl, F₇, (fun p hp => N₇ p (.tail _ (.tail _ (.tail _ hp)))), hoff', _, _, D, ys, n, _, _, rfl, hLD, by assumption, by assumption, rfl, hfold ▸ hys⟩
  · rintro m nx h tk ⟨oc1, oc2, D, ys, n, v1, v2, rfl, hLD, hoc1, hoc2, rfl, hys⟩ F' N'
    clear F₂ N₂
    k_steps
    refine ret _ _ _ (Fr.keep (by assumption)) (N' _ (.head _)).2.2 ⟨ys, ⟨_, (N' _ (.head _)).1, rfl, _, rfl⟩, hys, Nat.le_trans (fold_len rs _ _) (by decide)⟩
end Mine
namespace Mine
local macro_rules | `(tactic| walk_at "eval ListComp") => `(tactic| refine halt ?_)
local macro_rules | `(tactic| walk_at "exec Assign cons ListComp") => `(tactic| refine halt ?_)
local macro_rules | `(tactic| walk_at "exec For") => `(tactic| refine halt ?_)
local macro_rules | `(tactic| walk_at "exec For Name Call cons nil") => `(tactic| refine halt ?_)
local macro_rules | `(tactic| walk_at "pyIter ref") => `(tactic| refine halt ?_)
local macro_rules | `(tactic| walk_at "pyIter str") => `(tactic| refine halt ?_)
local macro_rules | `(tactic| walk_at "compareOp Eq ref ref") => `(tactic| refine halt ?_)
local macro_rules | `(tactic| walk_at "compareOp NotEq ref ref") => `(tactic| refine halt ?_)
local macro_rules | `(tactic| walk_at "compareOp In str ref") => `(tactic| refine halt ?_)
local macro_rules | `(tactic| walk_at "compareOp NotIn str ref") => `(tactic| refine halt ?_)
local macro_rules | `(tactic| walk_at "call ref") => `(tactic| refine halt ?_)
local macro_rules | `(tactic| walk_at "call ref") => `(tactic| ((with_unfolding_all (refine conv_call (Stat.le (by assumption) (Fr.keep (by k_asm))) (Room.mono (by assumption) (by decide)) (by first | exact .inl ⟨rfl, by assumption⟩ | exact .inr ⟨rfl, by assumption⟩) ?_)); intro h' tk' hle'; walk_at "grown"))
local macro_rules | `(tactic| walk_at "grown") => `(tactic| ((rename Fr _ _ _ _ => kF); (rename News _ _ _ _ => kN); (rename Le _ _ => hle); k_dflt (replace kF := Fr.keeps kF hle; replace kN := News.grown kN hle; clear hle)))
local macro_rules | `(tactic| walk_at "call builtin:str.lower") => `(tactic| k_dflt (refine lower_call (by assumption) ?_))
local macro_rules | `(tactic| walk_at "call builtin:str.upper") => `(tactic| k_dflt (refine upper_call (by assumption) ?_))
local macro_rules | `(tactic| walk_at "setItem ref ref") => `(tactic| refine halt ?_)
local macro_rules | `(tactic| walk_at "eval Slice") => `(tactic| refine halt ?_)
local macro_rules | `(tactic| walk_at "delItem ref") => `(tactic| (k_dflt (refine' del_item ?F ?X ?I ?hQ ?hS ?hF ?_; (case F => k_asm); (case X => k_asm); (case I => k_inst); (case hS => k_is); (case hF => k_is); (case hQ => k_is))))
local macro_rules | `(tactic| walk_at "At") => `(tactic| exact ⟨_, _, _, rfl, by assumption, by assumption⟩)
local macro_rules | `(tactic| walk_at "StrVal") => `(tactic| exact ⟨_, rfl⟩)
local macro_rules | `(tactic| walk_at "eval Name") => `(tactic| ((with_reducible show wpAny _ _ (eval (Expr.Name _ _) (compEnvC _ _ _ _)) _ _ _); k_dflt (first
  | (refine' cn_local ?F ?v ?_ ?a ?b; (case F => k_asm); (case a => rfl); (case b => rfl); (case v => rfl); k_whole)
  | (refine' cn_cell ?F ?c ?v ?_ ?a ?b; (case a => rfl); (case b => rfl); (case F => k_asm); (case v => rfl); (case c => assumption); k_whole)
  | (refine' cn_global ?F ?X ?T ?e ?_ ?g ?a ?b; (case a => rfl); (case b => rfl); (case g => rfl); (case F => k_asm); (case X => k_asm); (case T => k_asm); (case e => k_is); k_whole))))
local macro_rules | `(tactic| walk_at "fn sides") => `(tactic| (
  (case o => k_dflt k_is)
  (case c => k_dflt k_is)
  (case b => first | exact BindsTo.of_eq rfl | exact binds_K (by assumption) rfl (by k_is) rfl rfl rfl)
  (case k => rfl)
  (case n => decide)
  (case hm => exact fun _ => rfl)
  (case c1 => rfl)
  (case c2 => rfl)
  (case c3 => rfl)))
local macro_rules | `(tactic| k_inst) => `(tactic| exact TableAt.inst (by k_asm) (by assumption))
local macro_rules | `(tactic| walk_at "subscriptTail Name Constant ref int") => `(tactic| (refine' tup_item ?F ?t ?a ?b ?c ?d ?_ ?e; (case F => k_asm); (case t => assumption); (case a => decide); (case b => decide); (case c => rfl); (case d => rfl); (case e => with_unfolding_all rfl)))
set_option maxHeartbeats 4000000 in
theorem texts_call {w : World} {A : Around} {s : Shared} {Q E : Value → Shared → Prop} {mean : ExcName → Option Value} {mg mb : Str → Option Value}
    (S : Stat w mean mg mb s.heap) (R : Room A 2) {r : Addr} {rs : List RuleD} (hR : RulesAt s.heap r rs) {x : Str} {u : Tok}
    (ret : ∀ D ys h' tk, Le s.heap h' → h'.get? D = some (LCg.lst ys) → s.heap.get? D = none → All2 StrVal ys (textsOf rs x) → Q (.ref D) { s with heap := h', toks := tk }) :
    wpAny (model PySem.Challenge.rw_pe0251_01.row.prog w) A (call (.ref 211) [.ref r, .str x u]) Q E s := by
  have X : (headK w.params).In s.heap := S.k
  revert X
  k_fill
  intro X
  have T := topRead_of S.t
  refine' enter0 (args := ⟨[.ref r, .str x u], []⟩) (binds := [(Str.ofString "rules", .ref r), (Str.ofString "letter", .str x u)]) (fun y => if y = Str.ofString "rules" then some (.ref r) else none) S R ?o ?c ?b ?k ?n ?hm ?_ ?c1 ?c2 ?c3
  walk_at "fn sides"
  intro L h₁ tk cells A R F N Y
  obtain ⟨oc, rfl, hoc⟩ := Y.one
  replace hoc : oc.data = .cell (some (.str x u)) := hoc
  clear Y
  have hA := R.hh
  have hU := R.un
  k_steps
  refine unhalt ?_
  have bcell : Heap.IsCell _ (L + 1) (some (.str x u)) := ⟨_, (N _ (.head _)).1, hoc⟩
  have X₂ := X.keeps F.keep
  have T₂ := T.keeps F.keep
  obtain ⟨vs, hvs, hall, hlen⟩ := hR
  refine comp_pure (ax := r) (its := vs) (ds := rs) (R := RuleVal s.heap) (R' := StrVal) (p := fun r => r.1 == x) (g := fun r => r.2.1) rfl (by decide) rfl (by decide) hA ?_ (isList_le F.keep hvs) hlen hall ?_ ?_
  · intro Q' hq; k_steps; exact hq _
  · rintro v p C m₃ nx h₃ tk₃ E₃ hp ⟨a, t1, t2, b, rfl, htup, _⟩ F₃ N₃
    refine ca_tup [(Str.ofString "head", _), (Str.ofString "text", _), (Str.ofString "sides", _)] hA F₃ N₃ (isTuple_le F₃.keep (isTuple_le F.keep htup)) rfl rfl rfl rfl rfl fun h₄ tk₄ F₄ N₄ => ?_
    clear F₃ N₃
    clear F N
    refine wpAny_tests_one ?_
    k_steps
  · intro D ys h₃ tk₃ hle hD hsz hys
    have hle' := Le.trans F.keep hle
    refine ret D ys h₃ tk₃ hle' hD ?_ hys
    cases q : s.heap.get? D with
    | none => rfl
    | some o => exact absurd (Heap.lt_size (F.keep _ _ q)) (Nat.not_lt.mpr hsz)
end Mine
namespace Mine
def eqAtJ {α : Type} [BEq α] (xs ys : List α) (j : Nat) : Bool := match xs[j]?, ys[j]? with | some x, some y => x == y | _, _ => true
theorem eqAtJ_all {α : Type} [BEq α] : ∀ {xs ys : List α}, xs.length = ys.length → (List.range xs.length).all (eqAtJ xs ys) = (xs == ys)
  | [], [], _ => rfl
  | [], _ :: _, h => by cases h
  | _ :: _, [], h => by cases h
  | x :: xs, y :: ys, h => by
    rw [List.length_cons, List.range_succ_eq_map, List.all_cons, List.all_map, List.cons_beq_cons]
    have e : eqAtJ (x :: xs) (y :: ys) ∘ Nat.succ = eqAtJ xs ys := by funext j; simp [eqAtJ]
    rw [e, eqAtJ_all (Nat.succ.inj h)]
    rfl
section
variable {A : Around} {s : Shared}
theorem rc_lists {α : Type} [BEq α] [LawfulBEq α] {R S : Value → α → Prop} {a b : Addr} {vs us : List Value} {xs ys : List α} (hu : A.units < cLine) (ha : s.heap.IsList a vs.toArray) (hb : s.heap.IsList b us.toArray) (h1 : All2 R vs xs) (h2 : All2 S us ys) (he : ∀ v x u y, R v x → S u y → SeqAt.EqAt A.in1 s v u (x == y)) :
    SeqAt.RcAt A s (.ref a) (.ref b) (xs == ys) ∧ SeqAt.RcNeAt A s (.ref a) (.ref b) (!(xs == ys)) := by
  by_cases hl : vs.length = us.length
  · have hj : ∀ j (h1 : j < vs.toArray.size) (h2 : j < us.toArray.size), SeqAt.EqAt A.in1 s vs.toArray[j] us.toArray[j] (eqAtJ xs ys j) := by
      intro j q1 q2
      obtain ⟨x, hx, hR⟩ := h1.get (i := j) (a := vs.toArray[j]) (by simp)
      obtain ⟨y, hy, hS⟩ := h2.get (i := j) (a := us.toArray[j]) (by simp)
      have := he _ _ _ _ hR hS
      unfold eqAtJ
      rw [hx, hy]; exact this
    have e : (List.range vs.toArray.size).all (eqAtJ xs ys) = (xs == ys) := by
      rw [List.size_toArray, h1.length]; exact eqAtJ_all (by rw [← h1.length, ← h2.length, hl])
    exact ⟨e ▸ SeqAt.RcAt.lists ha hb (by simpa using hl) hu hj, e ▸ SeqAt.RcNeAt.lists ha hb (by simpa using hl) hu hj⟩
  · have e : (xs == ys) = false := by
      rw [beq_eq_false_iff_ne]; intro q; exact hl (by rw [h1.length, h2.length, q])
    rw [e]
    have hz : (vs.toArray.size != us.toArray.size) = true := by simpa using hl
    exact ⟨SeqAt.RcAt.lists_lengths ha hb hz hu, SeqAt.RcNeAt.lists_lengths ha hb hz hu⟩
theorem list_items {h : Heap} {a : Addr} {x y : Array Value} (p : h.IsList a x) (q : h.IsList a y) : x = y := by
  obtain ⟨o, e, hc, n, hd⟩ := p
  obtain ⟨o', e', hc', n', hd'⟩ := q
  rw [e] at e'; cases e'
  rw [hd] at hd'; cases hd'; rfl
theorem strs_inj : ∀ {vs : List Value} {xs ys : List Str}, All2 StrVal vs xs → All2 StrVal vs ys → xs = ys
  | _, _, _, .nil, .nil => rfl
  | _, _, _, .cons ⟨_, e⟩ r, .cons ⟨_, e'⟩ r' => by rw [e] at e'; cases e'; rw [strs_inj r r']
theorem eq_strVals {A : Around} {v u : Value} {x y : Str} (h : StrVal v x) (h' : StrVal u y) : SeqAt.EqAt A s v u (x == y) := by
  obtain ⟨t, rfl⟩ := h
  obtain ⟨u, rfl⟩ := h'
  exact SeqAt.EqAt.str_str x t y u
/-- Two lists of strs within a list. -/
theorem eq_sides {A : Around} (hu : A.units < cLine) {v u : Value} {xs ys : List Str} (h : SideVal s.heap v xs) (h' : SideVal s.heap u ys) : SeqAt.EqAt A s v u (xs == ys) := by
  obtain ⟨a, rfl, vs, ha, hv, _⟩ := h
  obtain ⟨b, rfl, us, hb, hw, _⟩ := h'
  by_cases e : a = b
  · subst e
    have := list_items ha hb
    have e2 : vs = us := by simpa using this
    subst e2
    rw [strs_inj hv hw, beq_self_eq_true]
    exact SeqAt.EqAt.same _
  · exact SeqAt.EqAt.of_refs e (rc_lists hu ha hb hv hw fun v x u y p q => eq_strVals p q).1
end
def BoolVal (v : Value) (b : Bool) : Prop := v = .bool b
section
variable {w : World} {A : Around} {s : Shared} {Q E : Value → Shared → Prop}
theorem eq_strs {a b : Addr} {vs us : List Value} {xs ys : List Str} (hu : A.units < cLine) (ha : s.heap.IsList a vs.toArray) (hb : s.heap.IsList b us.toArray) (h1 : All2 StrVal vs xs) (h2 : All2 StrVal us ys) (h : Q (.bool (xs == ys)) s) : wpAny (model PySem.Challenge.rw_pe0251_01.row.prog w) A (compareOp .Eq (.ref a) (.ref b)) Q E s :=
  (rc_lists hu ha hb h1 h2 fun v x u y p q => eq_strVals p q).1 PySem.Challenge.rw_pe0251_01.row.prog w E Q h
theorem ne_bools {a b : Addr} {vs us : List Value} {xs ys : List Bool} (hu : A.units < cLine) (ha : s.heap.IsList a vs.toArray) (hb : s.heap.IsList b us.toArray) (h1 : All2 BoolVal vs xs) (h2 : All2 BoolVal us ys) (h : Q (.bool (!(xs == ys))) s) : wpAny (model PySem.Challenge.rw_pe0251_01.row.prog w) A (compareOp .NotEq (.ref a) (.ref b)) Q E s :=
  (rc_lists hu ha hb h1 h2 fun v x u y p q => by rw [p, q]; exact SeqAt.EqAt.bool_bool x y).2 PySem.Challenge.rw_pe0251_01.row.prog w E Q h
theorem ne_sides {a b : Addr} {vs us : List Value} {xs ys : List (List Str)} (hu : A.units + 8 < cLine) (hu' : A.in1.units < cLine) (ha : s.heap.IsList a vs.toArray) (hb : s.heap.IsList b us.toArray) (h1 : All2 (SideVal s.heap) vs xs) (h2 : All2 (SideVal s.heap) us ys) (h : Q (.bool (!(xs == ys))) s) : wpAny (model PySem.Challenge.rw_pe0251_01.row.prog w) A (compareOp .NotEq (.ref a) (.ref b)) Q E s :=
  (rc_lists (by omega) ha hb h1 h2 fun v x u y p q => eq_sides hu' p q).2 PySem.Challenge.rw_pe0251_01.row.prog w E Q h
end
def proofF (rs : List RuleD) : List (Str × Str) → List Str → Option (List Str)
  | [], ahead => some ahead
  | p :: ps, ahead => if (rs.filter fun r => r.1 == low p.1 && (r.2.1 == p.2 && holdsF r.2.2 ahead)).isEmpty then none else proofF rs ps (ahead ++ [low p.1])
def ProofRes (o : Option (List Str)) (due : List Str) (b : Bool) : Prop := match o with
  | none => b = false
  | some ahead => ∃ l : List Str, l.Perm ahead ∧ sortedS l = true ∧ b = (l == due)
end Mine
namespace Mine
local macro_rules | `(tactic| walk_at "eval ListComp") => `(tactic| refine halt ?_)
local macro_rules | `(tactic| walk_at "exec Assign cons ListComp") => `(tactic| refine halt ?_)
local macro_rules | `(tactic| walk_at "exec For") => `(tactic| refine halt ?_)
local macro_rules | `(tactic| walk_at "exec For Name Call cons nil") => `(tactic| refine halt ?_)
local macro_rules | `(tactic| walk_at "pyIter ref") => `(tactic| refine halt ?_)
local macro_rules | `(tactic| walk_at "pyIter str") => `(tactic| refine halt ?_)
local macro_rules | `(tactic| walk_at "compareOp Eq ref ref") => `(tactic| refine halt ?_)
local macro_rules | `(tactic| walk_at "compareOp NotEq ref ref") => `(tactic| refine halt ?_)
local macro_rules | `(tactic| walk_at "compareOp In str ref") => `(tactic| refine halt ?_)
local macro_rules | `(tactic| walk_at "compareOp NotIn str ref") => `(tactic| refine halt ?_)
local macro_rules | `(tactic| walk_at "call ref") => `(tactic| refine halt ?_)
local macro_rules | `(tactic| walk_at "call ref") => `(tactic| ((with_unfolding_all (refine conv_call (Stat.le (by assumption) (Fr.keep (by k_asm))) (Room.mono (by assumption) (by decide)) (by first | exact .inl ⟨rfl, by assumption⟩ | exact .inr ⟨rfl, by assumption⟩) ?_)); intro h' tk' hle'; walk_at "grown"))
local macro_rules | `(tactic| walk_at "grown") => `(tactic| ((rename Fr _ _ _ _ => kF); (rename News _ _ _ _ => kN); (rename Le _ _ => hle); k_dflt (replace kF := Fr.keeps kF hle; replace kN := News.grown kN hle; clear hle)))
local macro_rules | `(tactic| walk_at "call builtin:str.lower") => `(tactic| k_dflt (refine lower_call (by assumption) ?_))
local macro_rules | `(tactic| walk_at "call builtin:str.upper") => `(tactic| k_dflt (refine upper_call (by assumption) ?_))
local macro_rules | `(tactic| walk_at "setItem ref ref") => `(tactic| refine halt ?_)
local macro_rules | `(tactic| walk_at "eval Slice") => `(tactic| refine halt ?_)
local macro_rules | `(tactic| walk_at "delItem ref") => `(tactic| (k_dflt (refine' del_item ?F ?X ?I ?hQ ?hS ?hF ?_; (case F => k_asm); (case X => k_asm); (case I => k_inst); (case hS => k_is); (case hF => k_is); (case hQ => k_is))))
local macro_rules | `(tactic| walk_at "At") => `(tactic| exact ⟨_, _, _, rfl, by assumption, by assumption⟩)
local macro_rules | `(tactic| walk_at "StrVal") => `(tactic| exact ⟨_, rfl⟩)
local macro_rules | `(tactic| walk_at "eval Name") => `(tactic| ((with_reducible show wpAny _ _ (eval (Expr.Name _ _) (compEnvC _ _ _ _)) _ _ _); k_dflt (first
  | (refine' cn_local ?F ?v ?_ ?a ?b; (case F => k_asm); (case a => rfl); (case b => rfl); (case v => rfl); k_whole)
  | (refine' cn_cell ?F ?c ?v ?_ ?a ?b; (case a => rfl); (case b => rfl); (case F => k_asm); (case v => rfl); (case c => assumption); k_whole)
  | (refine' cn_global ?F ?X ?T ?e ?_ ?g ?a ?b; (case a => rfl); (case b => rfl); (case g => rfl); (case F => k_asm); (case X => k_asm); (case T => k_asm); (case e => k_is); k_whole))))
local macro_rules | `(tactic| walk_at "fn sides") => `(tactic| (
  (case o => k_dflt k_is)
  (case c => k_dflt k_is)
  (case b => first | exact BindsTo.of_eq rfl | exact binds_K (by assumption) rfl (by k_is) rfl rfl rfl)
  (case k => rfl)
  (case n => decide)
  (case hm => exact fun _ => rfl)
  (case c1 => rfl)
  (case c2 => rfl)
  (case c3 => rfl)))
local macro_rules | `(tactic| k_inst) => `(tactic| exact TableAt.inst (by k_asm) (by assumption))
local macro_rules | `(tactic| walk_at "subscriptTail Name Constant ref int") => `(tactic| (refine' tup_item ?F ?t ?a ?b ?c ?d ?_ ?e; (case F => k_asm); (case t => assumption); (case a => decide); (case b => decide); (case c => rfl); (case d => rfl); (case e => with_unfolding_all rfl)))
theorem strs_are : ∀ {vs : List Value} {l : List Str}, All2 StrVal vs l → StrsAre vs l
  | _, _, .nil => .nil
  | _, _, .cons ⟨t, e⟩ r => by rw [e]; exact .cons _ t (strs_are r)
theorem are_strs : ∀ {vs : List Value} {l : List Str}, StrsAre vs l → All2 StrVal vs l
  | _, _, .nil => .nil
  | _, _, .cons _ t r => .cons ⟨t, rfl⟩ (are_strs r)
local macro_rules | `(tactic| walk_at "call builtin:sorted") => `(tactic| refine halt ?_)
set_option maxHeartbeats 4000000 in
theorem proof_call {w : World} {A : Around} {s : Shared} {Q E : Value → Shared → Prop} {mean : ExcName → Option Value} {mg mb : Str → Option Value}
    (S : Stat w mean mg mb s.heap) (R : Room A 6) {pa r d : Addr} {ps : List (Str × Str)} {rs : List RuleD} {due : List Str} (hP : HdrsAt s.heap pa ps) (hpl : ps.length < 60) (hN : ∀ p ∈ ps, p.1 ∈ heads) (hR : RulesAt s.heap r rs) (hD : StrsAt s.heap d due)
    (ret : ∀ b h' tk, Le s.heap h' → ProofRes (proofF rs ps []) due b → Q (.bool b) { s with heap := h', toks := tk }) :
    wpAny (model PySem.Challenge.rw_pe0251_01.row.prog w) A (call (.ref 247) [.ref pa, .ref r, .ref d]) Q E s := by
  have X : (headK w.params).In s.heap := S.k
  revert X
  k_fill
  intro X
  have T := topRead_of S.t
  refine' enter0 (args := ⟨[.ref pa, .ref r, .ref d], []⟩) (binds := [(Str.ofString "pairs", .ref pa), (Str.ofString "rules", .ref r), (Str.ofString "due", .ref d)]) (setAll [Str.ofString "pairs", Str.ofString "rules", Str.ofString "due"] [.ref pa, .ref r, .ref d] fun _ => none) S R ?o ?c ?b ?k ?n ?hm ?_ ?c1 ?c2 ?c3
  walk_at "fn sides"
  intro L h₁ tk cells A R F N Y
  have hA := R.hh
  have hU := R.un
  obtain ⟨oc3, oc2, oc1, rfl, hoc3, hoc2, hoc1⟩ := Y.three
  clear Y
  k_steps
  refine unhalt ?_
  refine wpAny_For ?_
  k_steps
  refine unhalt ?_
  rename Fr _ _ _ _ => F₂
  rename News _ _ _ _ => N₂
  clear hoc1
  rename _ = Data.cell _ => hoc1
  rename_i a0 hq1 ll hq2 o1
  obtain ⟨vs, hvs, hall, hlen⟩ := hP.list
  obtain ⟨rvs, hrvs, hrall, hrlen⟩ := hR
  generalize hm₀ : setAll _ _ _ = m₀ at F₂
  refine for_iterC (iter_list hA (isList_le F₂.keep hvs)) (fun i m nx => (∀ z, z ∉ [Str.ofString "word"] → m z = m₀ z) ∧ ∃ av na oc2 oc3 v2 v3 C, nx = [(a0, W.listOf av.toArray na), (L + 1 + 1 + 1, oc3), (L + 1 + 1, oc2), (L + 1, o1)] ∧ oc2.data = .cell v2 ∧ oc3.data = .cell v3 ∧ All2 StrVal av C ∧ C.length ≤ i ∧ proofF rs (ps.drop i) C = proofF rs ps []) F₂ N₂ ⟨fun _ _ => rfl, [], 0, _, _, _, _, [], rfl, hoc2, hoc3, .nil, Nat.le_refl _, rfl⟩ ?_ ?_ ?_
  · rintro i m nx h _ F' _
    exact isList_le F'.keep hvs
  · clear N₂ hoc2 hoc3 oc2 oc3
    rintro i v m nx h tk I oI E' hv ⟨hm, av, na, oc2, oc3, v2, v3, C, rfl, hoc2, hoc3, hav, hCl, hrest⟩ F' N' hoff hcalm
    obtain ⟨p, hp, a, t1, t2, rfl, htup⟩ := hall.get (by simpa using hv)
    have hpx := hN p (List.mem_of_getElem? hp)
    have hip : i < 60 := by have := (List.getElem?_eq_some_iff.mp hp).1; omega
    rw [drop_step hp] at hrest
    change (if _ then _ else _) = _ at hrest
    have hIa : @Ne Nat a0 I := hoff _ (.head _)
    have hI3 : @Ne Nat (L + 1 + 1 + 1) I := hoff _ (.tail _ (.head _))
    have hI2 : @Ne Nat (L + 1 + 1) I := hoff _ (.tail _ (.tail _ (.head _)))
    have hI1 : @Ne Nat (L + 1) I := hoff _ (.tail _ (.tail _ (.tail _ (.head _))))
    subst hm₀
    refine wpAny_assign_Tuple hA (isTuple_le F'.keep htup) rfl rfl fun h₂ he₂ => ?_
    have up : ∀ b o, h.get? b = some o → h₂.get? b = some o := fun b o e => he₂ b o (Nat.ne_of_lt (Heap.lt_size e)) e
    replace F' := (fr_over F' hm).keeps up
    replace N' := N'.grown up
    clear up he₂ hm F₂
    refine assignInOrder_cons (wpAny_assign_Name ?_)
    k_steps
    refine unhalt ?_
    rename Fr _ _ _ _ => F₃
    rename News _ _ _ _ => N₃
    have hc1 : Heap.IsCell _ (L + 1) (some (.ref a0)) := ⟨_, (N₃ _ (.tail _ (.tail _ (.tail _ (.tail _ (.head _)))))).1, hoc1⟩
    have hc2 : Heap.IsCell _ (L + 1 + 1) (some (.str p.2 t2)) := ⟨_, (N₃ _ (.tail _ (.tail _ (.tail _ (.head _))))).1, by assumption⟩
    have hc3 : Heap.IsCell _ (L + 1 + 1 + 1) (some (.str (low p.1) _)) := ⟨_, (N₃ _ (.tail _ (.tail _ (.head _)))).1, by assumption⟩
    have hStr : StrsAt _ a0 C := ⟨av, ⟨_, (N₃ _ (.tail _ (.head _))).1, rfl, _, rfl⟩, hav, by omega⟩
    have X₂ := X.keeps F₃.keep
    have T₂ := T.keeps F₃.keep
    have S₂ : Stat w mean mg mb _ := S.le F₃.keep
    refine comp_pure (ax := r) (its := rvs) (ds := rs) (R := RuleVal s.heap) (R' := fun _ _ => True) (p := fun r => r.1 == low p.1 && (r.2.1 == p.2 && holdsF r.2.2 C)) (g := id) rfl (by decide) rfl (by decide) hA ?_ (isList_le F₃.keep hrvs) hrlen hrall ?_ ?_
    · intro Q' hq; k_steps; exact hq _
    · rintro v rl C' m₃ nx h₃ tk₃ E₃ hrl ⟨ra, u1, u2, b, rfl, rtup, hsd⟩ F₆ N₆
      refine ca_name F₆ N₆ rfl rfl fun h₇ tk₇ F₇ N₇ => ?_
      clear F₆ N₆
      replace rtup := isTuple_le F₃.keep rtup
      replace hsd := hsd.le (Le.trans F₃.keep F₇.keep)
      replace hStr := hStr.le F₇.keep
      clear F₃ N₃ htup
      refine wpAny_tests_one ?_
      k_steps
      · refine unhalt ?_
        refine holds_call (by exact S₂.le F₇.keep) (R.mono (by decide)) hsd hStr fun h₈ tk₈ hle₈ => ?_
        replace F₇ := F₇.keeps hle₈
        replace N₇ := N₇.grown hle₈
        clear hle₈
        change wpAny _ _ (truthy (.bool (holdsF rl.2.2 C))) _ _ _
        k_steps
        all_goals first
          | exact True.intro
          | (rename (rl.1 == low p.1) = _ => e1; rename (rl.2.1 == p.2) = _ => e2; rename holdsF _ _ = _ => e3; rw [e1, e2, e3]; rfl)
      · rename (rl.1 == low p.1) = _ => e1
        rename (rl.2.1 == p.2) = _ => e2
        show false = (_ && (_ && _))
        rw [e1, e2]; rfl
      · exact True.intro
      · rename (rl.1 == low p.1) = _ => e1
        show false = (_ && _)
        rw [e1]; rfl
      · exact True.intro
    · intro D3 ys3 h₆ tk₆ hle₆ hD₃ hsz₃ hys₃
      have N₆ := news_add F₃ N₃ hle₆ hD₃ hsz₃
      have F₆ := F₃.keeps hle₆
      have hla : @LT.lt Nat _ a0 D3 := Nat.lt_of_lt_of_le (Heap.lt_size (N₃ _ (.tail _ (.head _))).1) hsz₃
      have e3 := hys₃.isEmpty
      rw [List.map_id] at e3
      have hvl : av.length < 4096 := by rw [hav.length]; omega
      clear F₃ N₃ hle₆ hc1 hc2 hc3 X₂ T₂ S₂ hStr hD₃ hsz₃ hys₃
      k_steps
      rename Fr _ _ _ _ => F₇
      rename News _ _ _ _ => N₇
      refine eq_nil (xs := ys3) (by omega) (isList_lst (N₇ _ (.tail _ (.head _))).1) ⟨_, (N₇ _ (.head _)).1, rfl, _, rfl⟩ ?_
      rw [e3]
      cases he : (rs.filter fun r => r.1 == low p.1 && (r.2.1 == p.2 && holdsF r.2.2 C)).isEmpty with
      | true =>
        rw [he, if_pos rfl] at hrest
        rw [← hrest] at ret
        k_steps
        exact ret _ _ _ (Fr.keep (by assumption)) rfl
      | false =>
        rw [he, if_neg Bool.false_ne_true] at hrest
        k_steps
        rename Fr _ _ _ _ => F₈
        rename News _ _ _ _ => N₈
        rw [push_list] at N₈
        exact ⟨_, _, _, _, rfl, F₈, (fun p hp => N₈ p (.tail _ (.tail _ hp))), (fun p hp => by
          simp only [List.mem_cons, List.not_mem_nil, or_false] at hp
          rcases hp with rfl | rfl | rfl | rfl
          · exact hIa
          · exact hI3
          · exact hI2
          · exact hI1), (fun z hz => (set_ne (n := Str.ofString "word") (.head _) hz).trans (over_ne hz)), _, _, _, _, _, _, C ++ [low p.1], rfl, by assumption, by assumption, hav.snoc ⟨_, rfl⟩, by simp; omega, hrest⟩
  · rintro m nx h tk ⟨hm, av, na, oc2, oc3, v2, v3, C, rfl, hoc2, hoc3, hav, hCl, hrest⟩ F' N'
    rw [show vs.toArray.size = ps.length from by rw [List.size_toArray]; exact hall.length] at hrest hCl
    rw [List.drop_length] at hrest
    change some C = _ at hrest
    rw [← hrest] at ret
    subst hm₀
    replace F' := fr_over F' hm
    clear F₂ N₂
    have hal : av.length < 64 := by rw [hav.length]; omega
    k_steps
    refine unhalt ?_
    refine sorted_N_str (by exact F') (by exact N') (by exact ⟨_, (N' _ (.head _)).1, rfl, _, rfl⟩) (strs_are hav) hal fun h₂ vs' ss' e F₃ N₃ hS' hp' hs' => ?_
    clear F' N'
    k_steps
    refine unhalt ?_
    obtain ⟨dvs, hdvs, hdall, _⟩ := hD
    refine eq_strs (by omega) (by exact ⟨_, (N₃ _ (.head _)).1, rfl, _, rfl⟩) (isList_le F₃.keep hdvs) (are_strs hS') hdall ?_
    k_steps
    exact ret _ _ _ F₃.keep ⟨ss', hp', hs', rfl⟩
end Mine
namespace Mine
local macro_rules | `(tactic| walk_at "eval ListComp") => `(tactic| refine halt ?_)
local macro_rules | `(tactic| walk_at "exec Assign cons ListComp") => `(tactic| refine halt ?_)
local macro_rules | `(tactic| walk_at "exec For") => `(tactic| refine halt ?_)
local macro_rules | `(tactic| walk_at "exec For Name Call cons nil") => `(tactic| refine halt ?_)
local macro_rules | `(tactic| walk_at "pyIter ref") => `(tactic| refine halt ?_)
local macro_rules | `(tactic| walk_at "pyIter str") => `(tactic| refine halt ?_)
local macro_rules | `(tactic| walk_at "compareOp Eq ref ref") => `(tactic| refine halt ?_)
local macro_rules | `(tactic| walk_at "compareOp NotEq ref ref") => `(tactic| refine halt ?_)
local macro_rules | `(tactic| walk_at "compareOp In str ref") => `(tactic| refine halt ?_)
local macro_rules | `(tactic| walk_at "compareOp NotIn str ref") => `(tactic| refine halt ?_)
local macro_rules | `(tactic| walk_at "call ref") => `(tactic| refine halt ?_)
local macro_rules | `(tactic| walk_at "call ref") => `(tactic| ((with_unfolding_all (refine conv_call (Stat.le (by assumption) (Fr.keep (by k_asm))) (Room.mono (by assumption) (by decide)) (by first | exact .inl ⟨rfl, by assumption⟩ | exact .inr ⟨rfl, by assumption⟩) ?_)); intro h' tk' hle'; walk_at "grown"))
local macro_rules | `(tactic| walk_at "grown") => `(tactic| ((rename Fr _ _ _ _ => kF); (rename News _ _ _ _ => kN); (rename Le _ _ => hle); k_dflt (replace kF := Fr.keeps kF hle; replace kN := News.grown kN hle; clear hle)))
local macro_rules | `(tactic| walk_at "call builtin:str.lower") => `(tactic| k_dflt (refine lower_call (by assumption) ?_))
local macro_rules | `(tactic| walk_at "call builtin:str.upper") => `(tactic| k_dflt (refine upper_call (by assumption) ?_))
local macro_rules | `(tactic| walk_at "setItem ref ref") => `(tactic| refine halt ?_)
local macro_rules | `(tactic| walk_at "eval Slice") => `(tactic| refine halt ?_)
local macro_rules | `(tactic| walk_at "delItem ref") => `(tactic| (k_dflt (refine' del_item ?F ?X ?I ?hQ ?hS ?hF ?_; (case F => k_asm); (case X => k_asm); (case I => k_inst); (case hS => k_is); (case hF => k_is); (case hQ => k_is))))
local macro_rules | `(tactic| walk_at "At") => `(tactic| exact ⟨_, _, _, rfl, by assumption, by assumption⟩)
local macro_rules | `(tactic| walk_at "StrVal") => `(tactic| exact ⟨_, rfl⟩)
local macro_rules | `(tactic| walk_at "eval Name") => `(tactic| ((with_reducible show wpAny _ _ (eval (Expr.Name _ _) (compEnvC _ _ _ _)) _ _ _); k_dflt (first
  | (refine' cn_local ?F ?v ?_ ?a ?b; (case F => k_asm); (case a => rfl); (case b => rfl); (case v => rfl); k_whole)
  | (refine' cn_cell ?F ?c ?v ?_ ?a ?b; (case a => rfl); (case b => rfl); (case F => k_asm); (case v => rfl); (case c => assumption); k_whole)
  | (refine' cn_global ?F ?X ?T ?e ?_ ?g ?a ?b; (case a => rfl); (case b => rfl); (case g => rfl); (case F => k_asm); (case X => k_asm); (case T => k_asm); (case e => k_is); k_whole))))
local macro_rules | `(tactic| walk_at "fn sides") => `(tactic| (
  (case o => k_dflt k_is)
  (case c => k_dflt k_is)
  (case b => first | exact BindsTo.of_eq rfl | exact binds_K (by assumption) rfl (by k_is) rfl rfl rfl)
  (case k => rfl)
  (case n => decide)
  (case hm => exact fun _ => rfl)
  (case c1 => rfl)
  (case c2 => rfl)
  (case c3 => rfl)))
local macro_rules | `(tactic| k_inst) => `(tactic| exact TableAt.inst (by k_asm) (by assumption))
local macro_rules | `(tactic| walk_at "subscriptTail Name Constant ref int") => `(tactic| (refine' tup_item ?F ?t ?a ?b ?c ?d ?_ ?e; (case F => k_asm); (case t => assumption); (case a => decide); (case b => decide); (case c => rfl); (case d => rfl); (case e => with_unfolding_all rfl)))
set_option maxHeartbeats 4000000 in
theorem get_all_call {w : World} {A : Around} {s : Shared} {Q E : Value → Shared → Prop} {mean : ExcName → Option Value} {mg mb : Str → Option Value}
    (S : Stat w mean mg mb s.heap) (R : Room A 4) {t dx l : Addr} {hh : Int} {tk' : Tok} {ps : List (Str × Str)} (hT : TableAt s.heap t dx l hh tk') (hH : HdrsAt s.heap l ps) (hN : ∀ p ∈ ps, p.1 ∈ heads) {x : Str} {u : Tok} (hx : x ∈ heads)
    (ret : ∀ D ys h' tk, Le s.heap h' → h'.get? D = some (LCg.lst ys) → s.heap.get? D = none → All2 StrVal ys ((ps.filter fun p => low p.1 == low x).map (·.2)) → Q (.ref D) { s with heap := h', toks := tk }) :
    wpAny (model PySem.Challenge.rw_pe0251_01.row.prog w) A (call (.ref 114) [.ref t, .str x u]) Q E s := by
  have X : (headK w.params).In s.heap := S.k
  revert X
  k_fill
  intro X
  have T := topRead_of S.t
  refine' enter0 (args := ⟨[.ref t, .str x u], []⟩) (binds := [(Str.ofString "self", .ref t), (Str.ofString "name", .str x u)]) (fun y => if y = Str.ofString "self" then some (.ref t) else none) S R ?o ?c ?b ?k ?n ?hm ?_ ?c1 ?c2 ?c3
  walk_at "fn sides"
  intro L h₁ tk cells A R F N Y
  obtain ⟨oc, rfl, hoc⟩ := Y.one
  replace hoc : oc.data = .cell (some (.str x u)) := hoc
  clear Y
  have hA := R.hh
  have hU := R.un
  have hlx := abcd_mem (low_abcd hx)
  k_steps
  rename Fr _ _ _ _ => F₂
  rename News _ _ _ _ => N₂
  rename _ = Data.cell _ => hoc₂
  have bcell : Heap.IsCell _ (L + 1) (some (.str (low x) _)) := ⟨_, (N₂ _ (.head _)).1, hoc₂⟩
  have X₂ := X.keeps F₂.keep
  have T₂ := T.keeps F₂.keep
  obtain ⟨vs, hvs, hall, hlen⟩ := hH.list
  refine comp_pure (ax := l) (its := vs) (ds := ps) (R := PairVal s.heap) (R' := StrVal) (p := fun p => low p.1 == low x) (g := (·.2)) rfl (by decide) rfl (by decide) hA ?_ (isList_le F₂.keep hvs) hlen hall ?_ ?_
  · intro Q' hq; k_steps; exact hq _
  · rintro v p C m₃ nx h₃ tk₃ E₃ hp ⟨a, t1, t2, rfl, htup⟩ F₃ N₃
    refine ca_name F₃ N₃ rfl rfl fun h₄ tk₄ F₄ N₄ => ?_
    clear F₃ N₃
    replace htup := isTuple_le F₂.keep htup
    have hpx := hN p hp
    clear F₂ N₂
    refine wpAny_tests_one ?_
    k_steps
  · intro D ys h₃ tk₃ hle hD hsz hys
    have hle' := Le.trans F₂.keep hle
    refine ret D ys h₃ tk₃ hle' hD ?_ hys
    cases q : s.heap.get? D with
    | none => rfl
    | some o => exact absurd (Heap.lt_size (F₂.keep _ _ q)) (Nat.not_lt.mpr hsz)
end Mine
namespace Mine
def FdOk (ps : Ps) : Prop := (∀ p ∈ ps, p.1 ∈ heads ∧ p.2 ∈ texts) ∧ ps.length + miss (ps.map fun p => low p.1) ≤ 4
theorem find_none_low {ps : Ps} {x : Str} (h : isFound ps x = false) : (ps.map fun p => low p.1).contains (low x) = false := by
  unfold isFound at h
  rw [Option.isSome_eq_false_iff, Option.isNone_iff_eq_none, List.find?_eq_none] at h
  simp only [List.contains_eq_mem, decide_eq_false_iff_not]
  intro hm
  obtain ⟨p, hp, e⟩ := List.mem_map.mp hm
  exact h p hp (by simpa using e)
theorem FdOk.put {ps : Ps} {x y : Str} (h : FdOk ps) (hx : x ∈ heads) (hy : y ∈ texts) : FdOk (putF ps x y) := by
  unfold putF
  cases q : isFound ps x with
  | true => exact h
  | false =>
    refine ⟨fun p hp => ?_, ?_⟩
    · rcases List.mem_append.mp hp with hp | hp
      · exact h.1 p hp
      · cases List.mem_singleton.mp hp; exact ⟨hx, hy⟩
    · have := miss_add (low_abcd hx) (find_none_low q)
      have h2 := h.2
      simp only [Bool.false_eq_true, if_false, List.map_append, List.map_cons, List.map_nil, List.length_append, List.length_singleton]
      omega
theorem FdOk.len {ps : Ps} (h : FdOk ps) : ps.length ≤ 4 := by have := h.2; omega
theorem FdOk.heads {ps : Ps} (h : FdOk ps) : ∀ p ∈ ps, p.1 ∈ Mine.heads := fun p hp => (h.1 p hp).1
theorem StrsAt.leB {h h' : Heap} {l a : Addr} {x : List Str} (y : StrsAt h a x) (hl : LeB l h h') (hne : a ≠ l) : StrsAt h' a x := let ⟨vs, ⟨o, e, q⟩, r⟩ := y; ⟨vs, ⟨o, hl _ _ hne e, q⟩, r⟩
def AskSpec (n k : Nat) (TT : Ps) : Prop :=
  ∀ {w : World} {A : Around} {s : Shared} {Q E : Value → Shared → Prop} {mean : ExcName → Option Value} {mg mb : Str → Option Value} {g : Heap} {t dt lt f df l a : Addr} {h1 h2 : Int} {t1 t2 u : Tok} {ps : Ps} {x : Str} {above : List Str},
   Stat w mean mg mb g → Le g s.heap → g.get? l = none → Room A k → TableAt g t dt lt h1 t1 → HdrsAt g lt TT → TableAt s.heap f df l h2 t2 → HdrsAt s.heap l ps → FdOk ps → x ∈ heads → StrsAt s.heap a above → a ≠ l → above.length + n ≤ 64 → miss above ≤ n →
   (∀ h' tk, LeB l s.heap h' → HdrsAt h' l (askF sidesOf TT n x above ps).2 → FdOk (askF sidesOf TT n x above ps).2 → Q (.bool (askF sidesOf TT n x above ps).1) { s with heap := h', toks := tk }) →
   wpAny (model PySem.Challenge.rw_pe0251_01.row.prog w) A (call (.ref 235) [.ref t, .ref f, .str x u, .ref a]) Q E s
def PairsIn (B : Heap) (l : Addr) (ps : Ps) (nx : List (Addr × Obj)) : Prop := ∃ vs n pls, nx = (l, W.listOf vs.toArray n) :: pls ∧ (∀ p ∈ pls, ∃ its, TupObj p.2 its) ∧ All2 (PairIn B pls) vs ps ∧ FdOk ps
theorem calm_not_tup {o : Obj} {its : Array Value} (h : CalmObj o) (t : TupObj o its) : False := by
  obtain ⟨T, vs, _, e, _⟩ := h
  obtain ⟨_, n, e'⟩ := t
  rw [e] at e'; cases e'
theorem bothF_cons (ask : Str → Ps → Bool × Ps) (x : Str) (xs : List Str) (ps : Ps) : bothF ask (x :: xs) ps = match ask x ps with
    | (true, ps') => bothF ask xs ps'
    | (false, ps') => (false, ps') := rfl
theorem pairs_off {B h : Heap} {L l : Addr} {ps : Ps} {nx : List (Addr × Obj)} (hP : PairsIn B l ps nx) (N : News B L h nx) {I : Addr} {oI : Obj} (hI : h.get? I = some oI) (hc : CalmObj oI) : ∀ p ∈ nx, p.1 ≠ I := by
  obtain ⟨vs, n, pls, rfl, ht, _, _⟩ := hP
  intro p hp q
  rcases List.mem_cons.mp hp with rfl | hp
  · have hl := (N _ (.head _)).1
    have q' : l = I := q
    rw [q', hI] at hl
    cases hl
    obtain ⟨T, vs, _, e, _⟩ := hc
    cases e
  · have := (N p (.tail _ hp)).1
    rw [q, hI] at this
    obtain ⟨its, t⟩ := ht p hp
    have e := Option.some.inj this
    rw [e] at hc
    exact calm_not_tup hc t
theorem PairsIn.hdrs {B h : Heap} {L l : Addr} {m : Str → Option Value} {ps : Ps} {nx news : List (Addr × Obj)} (hP : PairsIn B l ps nx) (F : Fr B L h m) (N : News B L h news) (hs : ∀ p ∈ nx, p ∈ news) : HdrsAt h l ps := by
  obtain ⟨vs, n, pls, rfl, ht, ha, hok⟩ := hP
  exact ⟨vs, n, (N _ (hs _ (.head _))).1, ha.mono fun _ _ q => q.val F N fun p hp => hs p (.tail _ hp), Nat.le_trans hok.len (by decide)⟩
theorem PairsIn.ok {B : Heap} {l : Addr} {ps : Ps} {nx : List (Addr × Obj)} (hP : PairsIn B l ps nx) : FdOk ps := let ⟨_, _, _, _, _, _, h⟩ := hP; h
theorem PairsIn.mem {B : Heap} {l : Addr} {ps : Ps} {nx : List (Addr × Obj)} (hP : PairsIn B l ps nx) : ∃ o, (l, o) ∈ nx := by obtain ⟨_, _, _, rfl, _⟩ := hP; exact ⟨_, .head _⟩
theorem hdrs_split {B h : Heap} {L l : Addr} {m : Str → Option Value} {ps : Ps} (F : Fr B L h m) (hP : HdrsAt h l ps) (hok : FdOk ps) (hBl : B.get? l = none) (hlL : @Ne Nat l L) : ∃ nx, PairsIn B l ps nx ∧ News B L h nx ∧ ∀ I oI, h.get? I = some oI → CalmObj oI → ∀ p ∈ nx, p.1 ≠ I := by
  obtain ⟨vs, n, hl, hall, _⟩ := hP
  obtain ⟨pls, N, ht, hin⟩ := pairs_split F hall
  refine ⟨_, ⟨vs, n, pls, rfl, ht, hin, hok⟩, fun p hp => ?_, fun I oI hI hc p hp q => ?_⟩
  · rcases List.mem_cons.mp hp with rfl | hp
    · exact ⟨hl, hlL, hBl⟩
    · exact N p hp
  · rcases List.mem_cons.mp hp with rfl | hp
    · have q' : l = I := q
      rw [q', hI] at hl
      cases hl
      obtain ⟨T, vs, _, e, _⟩ := hc
      cases e
    · have := (N p hp).1
      rw [q, hI] at this
      obtain ⟨its, t⟩ := ht p hp
      have e := Option.some.inj this
      rw [e] at hc
      exact calm_not_tup hc t
end Mine
namespace Mine
local macro_rules | `(tactic| walk_at "eval ListComp") => `(tactic| refine halt ?_)
local macro_rules | `(tactic| walk_at "exec Assign cons ListComp") => `(tactic| refine halt ?_)
local macro_rules | `(tactic| walk_at "exec For") => `(tactic| refine halt ?_)
local macro_rules | `(tactic| walk_at "exec For Name Call cons nil") => `(tactic| refine halt ?_)
local macro_rules | `(tactic| walk_at "pyIter ref") => `(tactic| refine halt ?_)
local macro_rules | `(tactic| walk_at "pyIter str") => `(tactic| refine halt ?_)
local macro_rules | `(tactic| walk_at "compareOp Eq ref ref") => `(tactic| refine halt ?_)
local macro_rules | `(tactic| walk_at "compareOp NotEq ref ref") => `(tactic| refine halt ?_)
local macro_rules | `(tactic| walk_at "compareOp In str ref") => `(tactic| refine halt ?_)
local macro_rules | `(tactic| walk_at "compareOp NotIn str ref") => `(tactic| refine halt ?_)
local macro_rules | `(tactic| walk_at "call ref") => `(tactic| refine halt ?_)
local macro_rules | `(tactic| walk_at "call ref") => `(tactic| ((with_unfolding_all (refine conv_call (Stat.le (by assumption) (Fr.keep (by k_asm))) (Room.mono (by assumption) (by decide)) (by first | exact .inl ⟨rfl, by assumption⟩ | exact .inr ⟨rfl, by assumption⟩) ?_)); intro h' tk' hle'; walk_at "grown"))
local macro_rules | `(tactic| walk_at "grown") => `(tactic| ((rename Fr _ _ _ _ => kF); (rename News _ _ _ _ => kN); (rename Le _ _ => hle); k_dflt (replace kF := Fr.keeps kF hle; replace kN := News.grown kN hle; clear hle)))
local macro_rules | `(tactic| walk_at "call builtin:str.lower") => `(tactic| k_dflt (refine lower_call (by assumption) ?_))
local macro_rules | `(tactic| walk_at "call builtin:str.upper") => `(tactic| k_dflt (refine upper_call (by assumption) ?_))
local macro_rules | `(tactic| walk_at "setItem ref ref") => `(tactic| refine halt ?_)
local macro_rules | `(tactic| walk_at "eval Slice") => `(tactic| refine halt ?_)
local macro_rules | `(tactic| walk_at "delItem ref") => `(tactic| (k_dflt (refine' del_item ?F ?X ?I ?hQ ?hS ?hF ?_; (case F => k_asm); (case X => k_asm); (case I => k_inst); (case hS => k_is); (case hF => k_is); (case hQ => k_is))))
local macro_rules | `(tactic| walk_at "At") => `(tactic| exact ⟨_, _, _, rfl, by assumption, by assumption⟩)
local macro_rules | `(tactic| walk_at "StrVal") => `(tactic| exact ⟨_, rfl⟩)
local macro_rules | `(tactic| walk_at "eval Name") => `(tactic| ((with_reducible show wpAny _ _ (eval (Expr.Name _ _) (compEnvC _ _ _ _)) _ _ _); k_dflt (first
  | (refine' cn_local ?F ?v ?_ ?a ?b; (case F => k_asm); (case a => rfl); (case b => rfl); (case v => rfl); k_whole)
  | (refine' cn_cell ?F ?c ?v ?_ ?a ?b; (case a => rfl); (case b => rfl); (case F => k_asm); (case v => rfl); (case c => assumption); k_whole)
  | (refine' cn_global ?F ?X ?T ?e ?_ ?g ?a ?b; (case a => rfl); (case b => rfl); (case g => rfl); (case F => k_asm); (case X => k_asm); (case T => k_asm); (case e => k_is); k_whole))))
local macro_rules | `(tactic| walk_at "fn sides") => `(tactic| (
  (case o => k_dflt k_is)
  (case c => k_dflt k_is)
  (case b => first | exact BindsTo.of_eq rfl | exact binds_K (by assumption) rfl (by k_is) rfl rfl rfl)
  (case k => rfl)
  (case n => decide)
  (case hm => exact fun _ => rfl)
  (case c1 => rfl)
  (case c2 => rfl)
  (case c3 => rfl)))
local macro_rules | `(tactic| k_inst) => `(tactic| exact TableAt.inst (by k_asm) (by assumption))
local macro_rules | `(tactic| walk_at "subscriptTail Name Constant ref int") => `(tactic| (refine' tup_item ?F ?t ?a ?b ?c ?d ?_ ?e; (case F => k_asm); (case t => assumption); (case a => decide); (case b => decide); (case c => rfl); (case d => rfl); (case e => with_unfolding_all rfl)))
set_option maxHeartbeats 4000000 in
theorem both_call {n k : Nat} {TT : Ps} (hask : AskSpec n k TT) {w : World} {A : Around} {s : Shared} {Q E : Value → Shared → Prop} {mean : ExcName → Option Value} {mg mb : Str → Option Value} {g : Heap} {t dt lt f df l a b : Addr} {h1 h2 : Int} {t1 t2 : Tok} {ps : Ps} {side above : List Str}
    (S : Stat w mean mg mb g) (hg : Le g s.heap) (hl : g.get? l = none) (R : Room A (k + 1)) (hT : TableAt g t dt lt h1 t1) (hH : HdrsAt g lt TT) (hF : TableAt s.heap f df l h2 t2) (hP : HdrsAt s.heap l ps) (hok : FdOk ps) (hb : StrsAt s.heap b side) (hbl : b ≠ l) (hs : ∀ x ∈ side, x ∈ heads) (ha : StrsAt s.heap a above) (hal : a ≠ l) (hab : above.length + n ≤ 64) (hmi : miss above ≤ n)
    (ret : ∀ h' tk, LeB l s.heap h' → HdrsAt h' l (bothF (fun x qs => askF sidesOf TT n x above qs) side ps).2 → FdOk (bothF (fun x qs => askF sidesOf TT n x above qs) side ps).2 → Q (.bool (bothF (fun x qs => askF sidesOf TT n x above qs) side ps).1) { s with heap := h', toks := tk }) :
    wpAny (model PySem.Challenge.rw_pe0251_01.row.prog w) A (call (.ref 242) [.ref t, .ref f, .ref b, .ref a]) Q E s := by
  have X : (headK w.params).In g := S.k
  revert X
  k_fill
  intro X
  obtain ⟨vs, n0, hol, hall, hlen⟩ := hP
  refine' enterW (args := ⟨[.ref t, .ref f, .ref b, .ref a], []⟩) (binds := [(Str.ofString "table", .ref t), (Str.ofString "found", .ref f), (Str.ofString "side", .ref b), (Str.ofString "above", .ref a)]) (setAll [Str.ofString "table", Str.ofString "found", Str.ofString "side", Str.ofString "above"] [.ref t, .ref f, .ref b, .ref a] fun _ => none) S hg hl hol R ?o ?c ?b ?k ?n ?hm ?_ ?c1 ?c2 ?c3
  walk_at "fn sides"
  intro L h₁ tk cells A B R hgB hsB hBs hBl F N hlL Y
  cases Y
  have S₀ := S
  replace S := S.le hgB
  replace X := S.k
  have T := topRead_of S.t
  replace hF := hF.leB hol hsB
  replace hall := hall.mono fun _ _ q => PairVal.leB hol hsB q
  replace hb := hb.leB hsB hbl
  replace ha := ha.leB hsB hal
  have hA := R.hh
  have hU := R.un
  simp only [List.nil_append] at N
  k_steps
  refine unhalt ?_
  refine wpAny_For ?_
  k_steps
  refine unhalt ?_
  obtain ⟨us, hus, hall2, hslen⟩ := hb
  generalize hm₀ : setAll _ _ _ = m₀ at F
  refine for_iterC (iter_list hA (isList_le F.keep hus)) (fun i m nx => (∀ z, z ∉ [Str.ofString "letter"] → m z = m₀ z) ∧ ∃ qs, PairsIn B l qs nx ∧ bothF (fun x qs => askF sidesOf TT n x above qs) (side.drop i) qs = bothF (fun x qs => askF sidesOf TT n x above qs) side ps) F N ⟨fun _ _ => rfl, ps, ⟨vs, n0, [], rfl, (fun _ h => nomatch h), hall.mono fun _ _ q => q.inB, hok⟩, rfl⟩ ?_ ?_ ?_
  · intro i m nx h _ F' _
    exact isList_le F'.keep hus
  · rintro i v m nx h tk I oI E' hv ⟨hm, qs, ⟨vs2, n2, pls, rfl, hpt, hvs2, hok2⟩, hrest⟩ F' N' hoff hcalm
    obtain ⟨x, hx, tx, rfl⟩ := hall2.get (by simpa using hv)
    rw [drop_step hx] at hrest
    have hxh := hs x (List.mem_of_getElem? hx)
    have hlI : @Ne Nat l I := hoff _ (.head _)
    subst hm₀
    refine wpAny_assign_Name (storeX_L (fr_over F' hm) N' fun h₂ F₃ N₃ => ?_)
    clear F' N' F N
    k_steps
    refine unhalt ?_
    have hol₃ := (N₃ _ (.tail _ (.head _))).1
    refine hask S₀ (by exact Le.trans hgB F₃.keep) hl R hT hH (by exact hF.le F₃.keep) (by exact ⟨vs2, n2, hol₃, hvs2.mono fun _ _ q => q.val F₃ N₃ fun p hp => .tail _ (.tail _ hp), Nat.le_trans hok2.len (by decide)⟩) hok2 hxh (by exact ha.le F₃.keep) hal hab hmi fun h₄ tk₄ hle₄ hP₄ hok₄ => ?_
    have hoI₃ := (N₃ _ (.head _)).1
    have hoI₄ := hle₄ _ _ (Ne.symm hlI) hoI₃
    have F₄ := fr_leB F₃ hle₄ hBl (Ne.symm (Nat.ne_of_lt hlL))
    have hIL := (N₃ _ (.head _)).2
    clear N₃ F₃
    rw [bothF_cons] at hrest
    generalize hr : askF sidesOf TT n x above qs = r at *
    obtain ⟨bl, qs'⟩ := r
    obtain ⟨nx', hPI, N₄, hoff'⟩ := hdrs_split F₄ hP₄ hok₄ hBl (Nat.ne_of_lt hlL)
    have hd₄ := hoff' I oI hoI₄ hcalm
    have N₅ : News B L h₄ ((I, oI) :: nx') := fun p hp => by
      rcases List.mem_cons.mp hp with rfl | hp
      · exact ⟨hoI₄, hIL⟩
      · exact N₄ p hp
    cases bl with
    | true =>
      dsimp only at hrest hPI ⊢
      k_steps
      exact ⟨_, _, _, nx', rfl, by assumption, N₅, hd₄, (fun z hz => set_ne (n := Str.ofString "letter") (.head _) hz |>.trans (over_ne hz)), qs', hPI, hrest⟩
    | false =>
      dsimp only at hrest hPI hP₄ hok₄ ⊢
      rw [← hrest] at ret
      k_steps
      exact ret _ _ (leB_end hsB F₄) hP₄ hok₄
  · rintro m nx h tk ⟨hm, qs, ⟨vs2, n2, pls, rfl, hpt, hvs2, hok2⟩, hrest⟩ F' N'
    rw [show us.toArray.size = side.length from by rw [List.size_toArray]; exact hall2.length, List.drop_length] at hrest
    rw [← hrest] at ret
    subst hm₀
    replace F' := fr_over F' hm
    clear F N
    k_steps
    exact ret _ _ (leB_end hsB F') ⟨vs2, n2, (N' _ (.head _)).1, hvs2.mono fun _ _ q => q.val F' N' fun p hp => .tail _ hp, Nat.le_trans hok2.len (by decide)⟩ hok2
end Mine
namespace Mine
local macro_rules | `(tactic| walk_at "eval ListComp") => `(tactic| refine halt ?_)
local macro_rules | `(tactic| walk_at "exec Assign cons ListComp") => `(tactic| refine halt ?_)
local macro_rules | `(tactic| walk_at "exec For") => `(tactic| refine halt ?_)
local macro_rules | `(tactic| walk_at "exec For Name Call cons nil") => `(tactic| refine halt ?_)
local macro_rules | `(tactic| walk_at "pyIter ref") => `(tactic| refine halt ?_)
local macro_rules | `(tactic| walk_at "pyIter str") => `(tactic| refine halt ?_)
local macro_rules | `(tactic| walk_at "compareOp Eq ref ref") => `(tactic| refine halt ?_)
local macro_rules | `(tactic| walk_at "compareOp NotEq ref ref") => `(tactic| refine halt ?_)
local macro_rules | `(tactic| walk_at "compareOp In str ref") => `(tactic| refine halt ?_)
local macro_rules | `(tactic| walk_at "compareOp NotIn str ref") => `(tactic| refine halt ?_)
local macro_rules | `(tactic| walk_at "call ref") => `(tactic| refine halt ?_)
local macro_rules | `(tactic| walk_at "call ref") => `(tactic| ((with_unfolding_all (refine conv_call (Stat.le (by assumption) (Fr.keep (by k_asm))) (Room.mono (by assumption) (by decide)) (by first | exact .inl ⟨rfl, by assumption⟩ | exact .inr ⟨rfl, by assumption⟩) ?_)); intro h' tk' hle'; walk_at "grown"))
local macro_rules | `(tactic| walk_at "grown") => `(tactic| ((rename Fr _ _ _ _ => kF); (rename News _ _ _ _ => kN); (rename Le _ _ => hle); k_dflt (replace kF := Fr.keeps kF hle; replace kN := News.grown kN hle; clear hle)))
local macro_rules | `(tactic| walk_at "call builtin:str.lower") => `(tactic| k_dflt (refine lower_call (by assumption) ?_))
local macro_rules | `(tactic| walk_at "call builtin:str.upper") => `(tactic| k_dflt (refine upper_call (by assumption) ?_))
local macro_rules | `(tactic| walk_at "setItem ref ref") => `(tactic| refine halt ?_)
local macro_rules | `(tactic| walk_at "eval Slice") => `(tactic| refine halt ?_)
local macro_rules | `(tactic| walk_at "delItem ref") => `(tactic| (k_dflt (refine' del_item ?F ?X ?I ?hQ ?hS ?hF ?_; (case F => k_asm); (case X => k_asm); (case I => k_inst); (case hS => k_is); (case hF => k_is); (case hQ => k_is))))
local macro_rules | `(tactic| walk_at "At") => `(tactic| exact ⟨_, _, _, rfl, by assumption, by assumption⟩)
local macro_rules | `(tactic| walk_at "StrVal") => `(tactic| exact ⟨_, rfl⟩)
local macro_rules | `(tactic| walk_at "eval Name") => `(tactic| ((with_reducible show wpAny _ _ (eval (Expr.Name _ _) (compEnvC _ _ _ _)) _ _ _); k_dflt (first
  | (refine' cn_local ?F ?v ?_ ?a ?b; (case F => k_asm); (case a => rfl); (case b => rfl); (case v => rfl); k_whole)
  | (refine' cn_cell ?F ?c ?v ?_ ?a ?b; (case a => rfl); (case b => rfl); (case F => k_asm); (case v => rfl); (case c => assumption); k_whole)
  | (refine' cn_global ?F ?X ?T ?e ?_ ?g ?a ?b; (case a => rfl); (case b => rfl); (case g => rfl); (case F => k_asm); (case X => k_asm); (case T => k_asm); (case e => k_is); k_whole))))
local macro_rules | `(tactic| walk_at "fn sides") => `(tactic| (
  (case o => k_dflt k_is)
  (case c => k_dflt k_is)
  (case b => first | exact BindsTo.of_eq rfl | exact binds_K (by assumption) rfl (by k_is) rfl rfl rfl)
  (case k => rfl)
  (case n => decide)
  (case hm => exact fun _ => rfl)
  (case c1 => rfl)
  (case c2 => rfl)
  (case c3 => rfl)))
local macro_rules | `(tactic| k_inst) => `(tactic| exact TableAt.inst (by k_asm) (by assumption))
local macro_rules | `(tactic| walk_at "subscriptTail Name Constant ref int") => `(tactic| (refine' tup_item ?F ?t ?a ?b ?c ?d ?_ ?e; (case F => k_asm); (case t => assumption); (case a => decide); (case b => decide); (case c => rfl); (case d => rfl); (case e => with_unfolding_all rfl)))
theorem texts_ok : texts.all (fun t => t.cps.toList.all (fun c => signs.contains c) && decide (t.cps.size ≤ 64) && (sidesOf t).all fun side => side.all fun x => heads.contains x) = true := by decide +kernel
theorem texts_signs {t : Str} (h : t ∈ texts) : (∀ c ∈ t.cps.toList, c ∈ signs) ∧ t.cps.size ≤ 64 ∧ ∀ side ∈ sidesOf t, ∀ x ∈ side, x ∈ heads := by
  have := List.all_eq_true.mp texts_ok t h
  simp only [Bool.and_eq_true, List.all_eq_true, decide_eq_true_eq, List.contains_iff_mem] at this
  exact ⟨this.1.1, this.1.2, this.2⟩
theorem textsF_cons (sd : Str → List (List Str)) (b : List Str → Ps → Bool × Ps) (x t : Str) (ts : List Str) (ps : Ps) : textsF sd b x (t :: ts) ps = match sidesF b (sd t) ps with
  | (true, ps') => (true, putF ps' x t)
  | (false, ps') => textsF sd b x ts ps' := rfl
theorem sidesF_cons (b : List Str → Ps → Bool × Ps) (s : List Str) (ss : List (List Str)) (ps : Ps) : sidesF b (s :: ss) ps = match b s ps with
  | (true, ps') => (true, ps')
  | (false, ps') => sidesF b ss ps' := rfl
local macro_rules | `(tactic| walk_at "binaryOp Add ref ref") => `(tactic| refine halt ?_)
set_option maxHeartbeats 4000000 in
theorem ask_succ {n k : Nat} {TT : Ps} (hTT : ∀ p ∈ TT, p.1 ∈ heads ∧ p.2 ∈ texts) (hk : 6 ≤ k) (hask : AskSpec n k TT) : AskSpec (n + 1) (k + 2) TT := by
  intro w A s Q E mean mg mb g t dt lt f df l a h1 h2 t1 t2 u ps x above S hg hl R hT hH hF hP hok hx ha hal hab hmi ret
  have X : (headK w.params).In g := S.k
  revert X
  k_fill
  intro X
  have hP₀ := hP
  obtain ⟨vs, n0, hol, hall, hlen⟩ := hP
  refine' enterW (args := ⟨[.ref t, .ref f, .str x u, .ref a], []⟩) (binds := [(Str.ofString "table", .ref t), (Str.ofString "found", .ref f), (Str.ofString "letter", .str x u), (Str.ofString "above", .ref a)]) (setAll [Str.ofString "table", Str.ofString "found", Str.ofString "letter", Str.ofString "above"] [.ref t, .ref f, .str x u, .ref a] fun _ => none) S hg hl hol R ?o ?c ?b ?k ?n ?hm ?_ ?c1 ?c2 ?c3
  walk_at "fn sides"
  intro L h₁ tk cells A B R hgB hsB hBs hBl F N hlL Y
  cases Y
  have S₀ := S
  replace S := S.le hgB
  replace X := S.k
  have T := topRead_of S.t
  replace hF := hF.leB hol hsB
  replace hall := hall.mono fun _ _ q => PairVal.leB hol hsB q
  replace ha := ha.leB hsB hal
  have hT₀ := hT
  have hH₀ := hH
  replace hT := hT.le hgB
  replace hH := hH.le hgB
  have hA := R.hh
  have hU := R.un
  simp only [List.nil_append] at N
  k_steps
  refine unhalt ?_
  refine get_call (by exact S.le F.keep) (R.mono (by omega)) (by exact hF.le F.keep) (by exact ⟨vs, n0, (N _ (.head _)).1, hall.mono fun _ _ q => q.le F.keep, hlen⟩) hok.heads hx fun v h₂ tk₂ hle hgot => ?_
  replace F := F.keeps hle
  replace N := N.grown hle
  clear hle
  cases hf : isFound ps x with
  | true =>
    have he : askF sidesOf TT (n + 1) x above ps = (true, ps) := by rw [askF, hf]; rfl
    rw [he] at ret
    have : ∃ y t, v = .str y t := by
      unfold GotVal at hgot
      unfold isFound at hf
      cases q : ps.find? fun p => low p.1 == low x with
      | none => rw [q] at hf; cases hf
      | some p => rw [q] at hgot; exact ⟨_, hgot⟩
    obtain ⟨y, ty, rfl⟩ := this
    clear hgot
    k_steps
    rename Fr _ _ _ _ => F₂
    rename News _ _ _ _ => N₂
    exact ret _ _ (leB_end hsB F₂) ⟨vs, n0, (N₂ _ (.head _)).1, hall.mono fun _ _ q => q.le F₂.keep, hlen⟩ hok
  | false =>
    have : v = .none := by
      unfold GotVal at hgot
      unfold isFound at hf
      cases q : ps.find? fun p => low p.1 == low x with
      | none => rw [q] at hgot; exact hgot
      | some p => rw [q] at hf; cases hf
    subst this
    clear hgot
    k_steps
    refine unhalt ?_
    refine in_strs (ha.le F.keep) ?_
    cases hin : above.contains (low x) with
    | true =>
      have he : askF sidesOf TT (n + 1) x above ps = (false, ps) := by rw [askF, hf, hin]; rfl
      rw [he] at ret
      k_steps
      rename Fr _ _ _ _ => F₂
      rename News _ _ _ _ => N₂
      exact ret _ _ (leB_end hsB F₂) ⟨vs, n0, (N₂ _ (.head _)).1, hall.mono fun _ _ q => q.le F₂.keep, hlen⟩ hok
    | false =>
      have he : askF sidesOf TT (n + 1) x above ps = textsF sidesOf (bothF fun y qs => askF sidesOf TT n y (above ++ [low x]) qs) x (getAll TT x) ps := by rw [askF, hf, hin]; rfl
      rw [he] at ret
      have hmi2 : miss (above ++ [low x]) ≤ n := by have := miss_add (low_abcd hx) hin; omega
      have hlx : low x ∈ heads := abcd_mem (low_abcd hx)
      k_steps
      refine unhalt ?_
      refine wpAny_For ?_
      k_steps
      refine unhalt ?_
      rename Fr _ _ _ _ => F₂
      rename News _ _ _ _ => N₂
      refine get_all_call (by exact S.le F₂.keep) (R.mono (by omega)) (by exact hT.le F₂.keep) (by exact hH.le F₂.keep) (fun p hp => (hTT p hp).1) hx fun D ys h₃ tk₃ hle hD hDn hys => ?_
      have hlD : @Ne Nat l D := fun q => by have := (N₂ _ (.head _)).1; rw [q, hDn] at this; cases this
      have hLD : @Ne Nat D L := fun q => by obtain ⟨oL, _, _, eL, _⟩ := F₂.ns; rw [q, eL] at hDn; cases hDn
      have hBD : B.get? D = none := by
        cases q : B.get? D with
        | none => rfl
        | some o => have := F₂.keep _ _ q; rw [hDn] at this; cases this
      replace F₂ := F₂.keeps hle
      replace N₂ := N₂.grown hle
      have N₃ : News B L h₃ [(l, W.listOf vs.toArray n0), (D, LCg.lst ys)] := fun p hp => by
        rcases List.mem_cons.mp hp with rfl | hp
        · exact N₂ _ (.head _)
        · cases List.mem_singleton.mp hp; exact ⟨hD, hLD, hBD⟩
      clear hle N₂
      k_steps
      refine unhalt ?_
      have hPI₀ : PairsIn B l ps [(l, W.listOf vs.toArray n0)] := ⟨vs, n0, [], rfl, (fun _ h => nomatch h), hall.mono fun _ _ q => q.inB, hok⟩
      generalize hm₀ : setAll _ _ _ = m₀ at F₂
      have N₄ : News B L h₃ ((D, LCg.lst ys) :: [(l, W.listOf vs.toArray n0)]) := fun p hp => by
        rcases List.mem_cons.mp hp with rfl | hp
        · exact N₃ _ (.tail _ (.head _))
        · cases List.mem_singleton.mp hp; exact N₃ _ (.head _)
      clear N₃
      refine for_iterC (iter_list (its := ys.toArray) hA (isList_lst hD)) (fun i m nx => (∀ z, z ∉ [Str.ofString "text", Str.ofString "side"] → m z = m₀ z) ∧ ∃ qs nx', nx = (D, LCg.lst ys) :: nx' ∧ PairsIn B l qs nx' ∧ textsF sidesOf (bothF fun y qs => askF sidesOf TT n y (above ++ [low x]) qs) x ((getAll TT x).drop i) qs = textsF sidesOf (bothF fun y qs => askF sidesOf TT n y (above ++ [low x]) qs) x (getAll TT x) ps) F₂ N₄ ⟨fun _ _ => rfl, ps, _, rfl, hPI₀, rfl⟩ ?_ ?_ ?_
      · rintro i m nx h ⟨_, qs, nx', rfl, _⟩ _ N'
        exact isList_lst (N' _ (.head _)).1
      · rintro i v m nx h tk I oI E' hv ⟨hm, qs, nx', rfl, hPI, hrest⟩ F' N' hoff hcalm
        obtain ⟨tx, htx, ttx, rfl⟩ := hys.get (by simpa using hv)
        change (getAll TT x)[i]? = some tx at htx
        rw [drop_step htx, textsF_cons] at hrest
        have htxt : tx ∈ texts := by
          obtain ⟨p, hp, e⟩ := List.mem_map.mp (List.mem_of_getElem? htx)
          rw [← e]; exact (hTT p (List.mem_filter.mp hp).1).2
        obtain ⟨hsg, hsl, hsd⟩ := texts_signs htxt
        subst hm₀
        refine wpAny_assign_Name (storeX_L (fr_over F' hm) N' fun h₂ F₃ N₃ => ?_)
        clear F' N' F₂ N₄
        k_steps
        refine unhalt ?_
        refine wpAny_For ?_
        k_steps
        refine unhalt ?_
        refine sides_call (by exact S.le F₃.keep) (R.mono (by omega)) hsg hsl fun D2 vs2 n2 olds2 h₄ tk₄ hle₄ hnew₄ hDo₄ hvs2 hvl2 => ?_
        have hLg : ∀ p ∈ (D2, W.listOf vs2.toArray n2) :: olds2, p.1 ≠ l := fun p hp q => by
          obtain ⟨o, ho⟩ := hPI.mem
          have := (N₃ _ (.tail _ (.tail _ ho))).1
          rw [← q, (hnew₄ p hp).2] at this; cases this
        have F₄ := F₃.keeps hle₄
        have N₄ := news_more F₃ N₃ hle₄ hnew₄
        have hoIl : @Ne Nat I l := by obtain ⟨o, ho⟩ := hPI.mem; exact Ne.symm (hoff _ (.tail _ ho))
        obtain ⟨FX, hFX⟩ : ∃ FX, (I, oI) :: (D, LCg.lst ys) :: (D2, W.listOf vs2.toArray n2) :: olds2 = FX := ⟨_, rfl⟩
        have hFl : ∀ p ∈ FX, p.1 ≠ l := fun p hp => by
          rw [← hFX] at hp
          rcases List.mem_cons.mp hp with rfl | hp
          · exact hoIl
          · rcases List.mem_cons.mp hp with rfl | hp
            · exact Ne.symm hlD
            · exact hLg p hp
        have hDI : @Ne Nat D I := hoff _ (.head _)
        have hFI : (I, oI) ∈ FX := hFX ▸ .head _
        have hFD : (D, LCg.lst ys) ∈ FX := hFX ▸ .tail _ (.head _)
        have hFD2 : (D2, W.listOf vs2.toArray n2) ∈ FX := hFX ▸ .tail _ (.tail _ (.head _))
        have hFo : ∀ p ∈ olds2, p ∈ FX := fun p hp => hFX ▸ .tail _ (.tail _ (.tail _ hp))
        have N₅ : News B L h₄ (FX ++ nx') := fun p hp => by
          rw [← hFX] at hp
          refine N₄ p ?_
          simp only [List.mem_append, List.mem_cons] at hp ⊢
          rcases hp with (h | h | h | h) | h
          · exact .inl (.inl h)
          · exact .inl (.inr (.inl h))
          · exact .inr (.inl h)
          · exact .inr (.inr h)
          · exact .inl (.inr (.inr h))
        clear N₄ N₃ F₃ hle₄ hnew₄ hDo₄
        generalize hr : sidesF _ (sidesOf tx) qs = r at hrest
        generalize hm₁ : (fun y => if y = Str.ofString "text" then some (Value.str tx ttx) else _) = m₁ at F₄
        have hm₁' : ∀ z, z ∉ [Str.ofString "text", Str.ofString "side"] → m₁ z = setAll [Str.ofString "table", Str.ofString "found", Str.ofString "letter", Str.ofString "above"] [Value.ref t, Value.ref f, Value.str x u, Value.ref a] (fun x => none) z := fun z hz => by
          subst hm₁
          exact (set_ne (n := Str.ofString "text") (.head _) hz).trans (over_ne hz)
        refine for_iterC (iter_list (its := vs2.toArray) hA (by exact ⟨_, (N₅ _ (List.mem_append_left _ hFD2)).1, rfl, _, rfl⟩)) (fun i m nx => (∀ z, z ∉ [Str.ofString "side"] → m z = m₁ z) ∧ ∃ qs nx', nx = FX ++ nx' ∧ PairsIn B l qs nx' ∧ sidesF (bothF fun y qs => askF sidesOf TT n y (above ++ [low x]) qs) ((sidesOf tx).drop i) qs = r) F₄ N₅ ⟨fun _ _ => rfl, qs, _, rfl, hPI, hr⟩ ?_ ?_ ?_
        · rintro i m nx h ⟨_, qs, nx', rfl, _⟩ _ N'
          exact ⟨_, (N' _ (List.mem_append_left _ hFD2)).1, rfl, _, rfl⟩
        · clear hPI hr qs nx' hoff F₄ N₅
          rintro j v m₂ nx h tk₂ I2 oI2 E2 hv2 ⟨hm2, qs, nx', rfl, hPI, hr⟩ F' N' hoff hcalm2
          obtain ⟨side, hside, bb, us, nu, rfl, hbo, hus, husl⟩ := hvs2.get (by simpa using hv2)
          rw [drop_step hside, sidesF_cons] at hr
          have hsideh := hsd side (List.mem_of_getElem? hside)
          subst hm₁
          refine wpAny_assign_Name (storeX_L (fr_over F' hm2) N' fun h₅ F₅ N₅ => ?_)
          clear F' N'
          k_steps
          refine unhalt ?_
          rename Fr _ _ _ _ => F₆
          rename News _ _ _ _ => N₆
          obtain ⟨as, has, hall3, hlen3⟩ := ha
          have hasl : as.length = above.length := hall3.length
          obtain ⟨ol6, hl6⟩ := hPI.mem
          have hcl := Nat.ne_of_gt (Heap.lt_size (N₆ _ (.tail _ (.tail _ (List.mem_append_right _ hl6)))).1)
          refine add_lists (vs := as) (ws := [.str (low x) _]) F₆ N₆ (isList_le F₆.keep has) (by exact ⟨_, (N₆ _ (.head _)).1, rfl, _, rfl⟩) (fun h₇ F₇ N₇ => ?_) (by rw [sizeLine_eq]; simp only [List.length_singleton]; omega)
          dsimp only at N₇ hcl ⊢
          generalize Array.size (Heap.objs _) = cc at N₇ hcl ⊢
          clear F₆ N₆
          k_steps
          refine unhalt ?_
          have hac : StrsAt h₇ cc (above ++ [low x]) := ⟨_, ⟨_, (N₇ _ (.head _)).1, rfl, _, rfl⟩, hall3.snoc ⟨_, rfl⟩, by simp; omega⟩
          have hbl : @Ne Nat bb l := hFl _ (hFo _ hbo)
          have hin7 : ∀ p ∈ FX ++ nx', h₇.get? p.1 = some p.2 := fun p hp => (N₇ p (.tail _ (.tail _ (.tail _ hp)))).1
          have hI7 : h₇.get? I2 = some oI2 := (N₇ _ (.tail _ (.tail _ (.head _)))).1
          refine both_call hask S₀ (by exact Le.trans hgB F₇.keep) hl R hT₀ hH₀ (by exact hF.le F₇.keep) (by exact hPI.hdrs F₇ N₇ fun p hp => .tail _ (.tail _ (.tail _ (List.mem_append_right _ hp)))) hPI.ok (by exact ⟨us, ⟨_, hin7 _ (List.mem_append_left _ (hFo _ hbo)), rfl, _, rfl⟩, hus, husl⟩) hbl hsideh (by exact hac) hcl (by simp; omega) hmi2 fun h₈ tk₈ hle₈ hP₈ hok₈ => ?_
          have F₈ := fr_leB F₇ hle₈ hBl (Ne.symm (Nat.ne_of_lt hlL))
          have hlI2 : @Ne Nat I2 l := Ne.symm (hoff _ (List.mem_append_right _ hl6))
          have hI8 := hle₈ _ _ hlI2 hI7
          have hNI := (N₇ _ (.tail _ (.tail _ (.head _)))).2
          have hNF : News B L h₈ FX := fun p hp => ⟨hle₈ _ _ (hFl p hp) (hin7 p (List.mem_append_left _ hp)), (N₇ p (.tail _ (.tail _ (.tail _ (List.mem_append_left _ hp))))).2⟩
          clear N₇ F₇ hin7 hI7 hac hle₈
          generalize hrb : bothF (fun y qs => askF sidesOf TT n y (above ++ [low x]) qs) side qs = rb at *
          obtain ⟨bl, qs'⟩ := rb
          obtain ⟨nx8, hPI8, N₈, hoff8⟩ := hdrs_split F₈ hP₈ hok₈ hBl (Nat.ne_of_lt hlL)
          have hd₈ := hoff8 I2 oI2 hI8 hcalm2
          have N₉ : News B L h₈ ((I2, oI2) :: (FX ++ nx8)) := fun p hp => by
            rcases List.mem_cons.mp hp with rfl | hp
            · exact ⟨hI8, hNI⟩
            · rcases List.mem_append.mp hp with hp | hp
              · exact hNF p hp
              · exact N₈ p hp
          clear N₈ hoff8 hNF
          cases bl with
          | true =>
            dsimp only at hr hPI8 hP₈ hok₈ ⊢
            rw [← hr] at hrest
            dsimp only at hrest
            rw [← hrest] at ret
            k_steps
            refine unhalt ?_
            refine setdef_call S₀ (by exact Le.trans hgB F₈.keep) hl (R.mono (by omega)) (by exact hF.le F₈.keep) hP₈ hok₈.heads (Nat.lt_of_le_of_lt hok₈.len (by decide)) hx htxt fun v9 h₉ tk₉ hle₉ hP₉ => ?_
            have F₉ := fr_leB F₈ hle₉ hBl (Ne.symm (Nat.ne_of_lt hlL))
            have N₁₀ : News B L h₉ [] := News.nil
            clear N₉ F₈ hle₉
            k_steps
            exact ret _ _ (leB_end hsB F₉) hP₉ (hok₈.put hx htxt)
          | false =>
            dsimp only at hr hPI8 hP₈ hok₈ ⊢
            k_steps
            exact ⟨_, _, _, FX ++ nx8, rfl, F₈, N₉, (fun p hp => (List.mem_append.mp hp).elim (fun hp => hoff p (List.mem_append_left _ hp)) (hd₈ p)), (fun z hz => (set_ne (n := Str.ofString "side") (.head _) hz).trans (over_ne hz)), qs', nx8, rfl, hPI8, hr⟩
        · clear hr hPI N₅ F₄ hoff qs nx'
          rintro m₂ nx h tk₂ ⟨hm2, qs, nx', rfl, hPI, hr2⟩ F' N'
          rw [show vs2.toArray.size = (sidesOf tx).length from by rw [List.size_toArray]; exact hvs2.length, List.drop_length] at hr2
          change (false, qs) = r at hr2
          rw [← hr2] at hrest
          dsimp only at hrest
          subst hm₁
          replace F' := fr_over F' hm2
          have hIh := (N' _ (List.mem_append_left _ hFI)).1
          have hoffI := pairs_off hPI (fun p hp => N' p (List.mem_append_right _ hp)) hIh hcalm
          k_steps
          refine ⟨_, _, _, (D, LCg.lst ys) :: nx', rfl, F', (fun p hp => N' p ?_), (fun p hp => ?_), (fun z hz => ?_), qs, nx', rfl, hPI, hrest⟩
          · rcases List.mem_cons.mp hp with rfl | hp
            · exact List.mem_append_left _ hFI
            · rcases List.mem_cons.mp hp with rfl | hp
              · exact List.mem_append_left _ hFD
              · exact List.mem_append_right _ hp
          · rcases List.mem_cons.mp hp with rfl | hp
            · exact hDI
            · exact hoffI p hp
          · refine (over_ne (ns := [Str.ofString "side"]) fun h => hz (.tail _ h)).trans (hm₁' z hz)
      · rintro m nx h tk ⟨hm, qs, nx', rfl, hPI, hrest⟩ F' N'
        rw [show ys.toArray.size = (getAll TT x).length from by rw [List.size_toArray]; exact hys.length, List.drop_length] at hrest
        change (false, qs) = _ at hrest
        rw [← hrest] at ret
        subst hm₀
        replace F' := fr_over F' hm
        clear F₂ N₄
        k_steps
        exact ret _ _ (leB_end hsB F') (hPI.hdrs F' N' fun p hp => .tail _ hp) hPI.ok
end Mine
namespace Mine
local macro_rules | `(tactic| walk_at "eval ListComp") => `(tactic| refine halt ?_)
local macro_rules | `(tactic| walk_at "exec Assign cons ListComp") => `(tactic| refine halt ?_)
local macro_rules | `(tactic| walk_at "exec For") => `(tactic| refine halt ?_)
local macro_rules | `(tactic| walk_at "exec For Name Call cons nil") => `(tactic| refine halt ?_)
local macro_rules | `(tactic| walk_at "pyIter ref") => `(tactic| refine halt ?_)
local macro_rules | `(tactic| walk_at "pyIter str") => `(tactic| refine halt ?_)
local macro_rules | `(tactic| walk_at "compareOp Eq ref ref") => `(tactic| refine halt ?_)
local macro_rules | `(tactic| walk_at "compareOp NotEq ref ref") => `(tactic| refine halt ?_)
local macro_rules | `(tactic| walk_at "compareOp In str ref") => `(tactic| refine halt ?_)
local macro_rules | `(tactic| walk_at "compareOp NotIn str ref") => `(tactic| refine halt ?_)
local macro_rules | `(tactic| walk_at "call ref") => `(tactic| refine halt ?_)
local macro_rules | `(tactic| walk_at "call ref") => `(tactic| ((with_unfolding_all (refine conv_call (Stat.le (by assumption) (Fr.keep (by k_asm))) (Room.mono (by assumption) (by decide)) (by first | exact .inl ⟨rfl, by assumption⟩ | exact .inr ⟨rfl, by assumption⟩) ?_)); intro h' tk' hle'; walk_at "grown"))
local macro_rules | `(tactic| walk_at "grown") => `(tactic| ((rename Fr _ _ _ _ => kF); (rename News _ _ _ _ => kN); (rename Le _ _ => hle); k_dflt (replace kF := Fr.keeps kF hle; replace kN := News.grown kN hle; clear hle)))
local macro_rules | `(tactic| walk_at "call builtin:str.lower") => `(tactic| k_dflt (refine lower_call (by assumption) ?_))
local macro_rules | `(tactic| walk_at "call builtin:str.upper") => `(tactic| k_dflt (refine upper_call (by assumption) ?_))
local macro_rules | `(tactic| walk_at "setItem ref ref") => `(tactic| refine halt ?_)
local macro_rules | `(tactic| walk_at "eval Slice") => `(tactic| refine halt ?_)
local macro_rules | `(tactic| walk_at "delItem ref") => `(tactic| (k_dflt (refine' del_item ?F ?X ?I ?hQ ?hS ?hF ?_; (case F => k_asm); (case X => k_asm); (case I => k_inst); (case hS => k_is); (case hF => k_is); (case hQ => k_is))))
local macro_rules | `(tactic| walk_at "At") => `(tactic| exact ⟨_, _, _, rfl, by assumption, by assumption⟩)
local macro_rules | `(tactic| walk_at "StrVal") => `(tactic| exact ⟨_, rfl⟩)
local macro_rules | `(tactic| walk_at "eval Name") => `(tactic| ((with_reducible show wpAny _ _ (eval (Expr.Name _ _) (compEnvC _ _ _ _)) _ _ _); k_dflt (first
  | (refine' cn_local ?F ?v ?_ ?a ?b; (case F => k_asm); (case a => rfl); (case b => rfl); (case v => rfl); k_whole)
  | (refine' cn_cell ?F ?c ?v ?_ ?a ?b; (case a => rfl); (case b => rfl); (case F => k_asm); (case v => rfl); (case c => assumption); k_whole)
  | (refine' cn_global ?F ?X ?T ?e ?_ ?g ?a ?b; (case a => rfl); (case b => rfl); (case g => rfl); (case F => k_asm); (case X => k_asm); (case T => k_asm); (case e => k_is); k_whole))))
local macro_rules | `(tactic| walk_at "fn sides") => `(tactic| (
  (case o => k_dflt k_is)
  (case c => k_dflt k_is)
  (case b => first | exact BindsTo.of_eq rfl | exact binds_K (by assumption) rfl (by k_is) rfl rfl rfl)
  (case k => rfl)
  (case n => decide)
  (case hm => exact fun _ => rfl)
  (case c1 => rfl)
  (case c2 => rfl)
  (case c3 => rfl)))
local macro_rules | `(tactic| k_inst) => `(tactic| exact TableAt.inst (by k_asm) (by assumption))
local macro_rules | `(tactic| walk_at "subscriptTail Name Constant ref int") => `(tactic| (refine' tup_item ?F ?t ?a ?b ?c ?d ?_ ?e; (case F => k_asm); (case t => assumption); (case a => decide); (case b => decide); (case c => rfl); (case d => rfl); (case e => with_unfolding_all rfl)))
set_option maxHeartbeats 4000000 in
theorem ask_zero {k : Nat} {TT : Ps} (hk : 5 ≤ k) : AskSpec 0 k TT := by
  intro w A s Q E mean mg mb g t dt lt f df l a h1 h2 t1 t2 u ps x above S hg hl R hT hH hF hP hok hx ha hal hab hmi ret
  have X : (headK w.params).In g := S.k
  revert X
  k_fill
  intro X
  obtain ⟨vs, n0, hol, hall, hlen⟩ := hP
  refine' enterW (k := 4) (args := ⟨[.ref t, .ref f, .str x u, .ref a], []⟩) (binds := [(Str.ofString "table", .ref t), (Str.ofString "found", .ref f), (Str.ofString "letter", .str x u), (Str.ofString "above", .ref a)]) (setAll [Str.ofString "table", Str.ofString "found", Str.ofString "letter", Str.ofString "above"] [.ref t, .ref f, .str x u, .ref a] fun _ => none) S hg hl hol (R.mono hk) ?o ?c ?b ?k ?n ?hm ?_ ?c1 ?c2 ?c3
  walk_at "fn sides"
  intro L h₁ tk cells A B R hgB hsB hBs hBl F N hlL Y
  cases Y
  replace S := S.le hgB
  replace X := S.k
  have T := topRead_of S.t
  replace hF := hF.leB hol hsB
  replace hall := hall.mono fun _ _ q => PairVal.leB hol hsB q
  replace ha := ha.leB hsB hal
  have hA := R.hh
  have hU := R.un
  simp only [List.nil_append] at N
  k_steps
  refine unhalt ?_
  refine get_call (by exact S.le F.keep) R (by exact hF.le F.keep) (by exact ⟨vs, n0, (N _ (.head _)).1, hall.mono fun _ _ q => q.le F.keep, hlen⟩) hok.heads hx fun v h₂ tk₂ hle hgot => ?_
  replace F := F.keeps hle
  replace N := N.grown hle
  clear hle
  cases hf : isFound ps x with
  | true =>
    have he : askF sidesOf TT 0 x above ps = (true, ps) := by rw [askF, hf]
    rw [he] at ret
    have : ∃ y t, v = .str y t := by
      unfold GotVal at hgot
      unfold isFound at hf
      cases q : ps.find? fun p => low p.1 == low x with
      | none => rw [q] at hf; cases hf
      | some p => rw [q] at hgot; exact ⟨_, hgot⟩
    obtain ⟨y, ty, rfl⟩ := this
    clear hgot
    k_steps
    rename Fr _ _ _ _ => F₂
    rename News _ _ _ _ => N₂
    exact ret _ _ (leB_end hsB F₂) ⟨vs, n0, (N₂ _ (.head _)).1, hall.mono fun _ _ q => q.le F₂.keep, hlen⟩ hok
  | false =>
    have : v = .none := by
      unfold GotVal at hgot
      unfold isFound at hf
      cases q : ps.find? fun p => low p.1 == low x with
      | none => rw [q] at hgot; exact hgot
      | some p => rw [q] at hf; cases hf
    subst this
    clear hgot
    have hin : above.contains (low x) = true := miss_zero (Nat.le_zero.mp hmi) (low_abcd hx)
    have he : askF sidesOf TT 0 x above ps = (false, ps) := by rw [askF, hf]
    rw [he] at ret
    k_steps
    refine unhalt ?_
    refine in_strs (ha.le F.keep) ?_
    rw [hin]
    k_steps
    rename Fr _ _ _ _ => F₂
    rename News _ _ _ _ => N₂
    exact ret _ _ (leB_end hsB F₂) ⟨vs, n0, (N₂ _ (.head _)).1, hall.mono fun _ _ q => q.le F₂.keep, hlen⟩ hok
theorem ask_all {TT : Ps} (hTT : ∀ p ∈ TT, p.1 ∈ heads ∧ p.2 ∈ texts) : ∀ n, AskSpec n (2 * n + 6) TT
  | 0 => ask_zero (by decide)
  | n + 1 => ask_succ hTT (by omega) (ask_all hTT n)
end Mine
namespace Mine
def LeX (X : List Addr) (h h' : Heap) : Prop := ∀ b o, b ∉ X → h.get? b = some o → h'.get? b = some o
def LeS (h h' : Heap) : Prop := ∀ b o its n, h.get? b = some o → o.data = .seq its n → h'.get? b = some o
theorem LeX.seq {X : List Addr} {h h' : Heap} (x : LeX X h h') (hd : ∀ a ∈ X, ∀ o its n, h.get? a = some o → o.data ≠ .seq its n) : LeS h h' := fun b o its n e d => x b o (fun q => hd b q o its n e d) e
theorem Le.leS {h h' : Heap} (x : Le h h') : LeS h h' := fun b o _ _ e _ => x b o e
theorem LeS.trans {a b c : Heap} (x : LeS a b) (y : LeS b c) : LeS a c := fun i o its n e d => y i o its n (x i o its n e d) d
theorem isList_leS {h h' : Heap} (l : LeS h h') {a : Addr} {its : Array Value} (x : h.IsList a its) : h'.IsList a its := let ⟨o, e, hc, n, hd⟩ := x; ⟨o, l _ _ _ _ e hd, hc, n, hd⟩
theorem isTuple_leS {h h' : Heap} (l : LeS h h') {a : Addr} {its : Array Value} (x : h.IsTuple a its) : h'.IsTuple a its := let ⟨o, e, hc, n, hd⟩ := x; ⟨o, l _ _ _ _ e hd, hc, n, hd⟩
theorem StrsAt.leS {h h' : Heap} (l : LeS h h') {a : Addr} {x : List Str} (y : StrsAt h a x) : StrsAt h' a x := let ⟨vs, e, r⟩ := y; ⟨vs, isList_leS l e, r⟩
theorem SideVal.leS {h h' : Heap} (l : LeS h h') {v : Value} {x : List Str} (y : SideVal h v x) : SideVal h' v x := let ⟨b, e, r⟩ := y; ⟨b, e, r.leS l⟩
theorem SidesAt.leS {h h' : Heap} (l : LeS h h') {a : Addr} {x : List (List Str)} (y : SidesAt h a x) : SidesAt h' a x := let ⟨vs, e, r⟩ := y; ⟨vs, isList_leS l e, r.1.mono fun _ _ q => q.leS l, r.2⟩
theorem RuleVal.leS {h h' : Heap} (l : LeS h h') {v : Value} {r : RuleD} (y : RuleVal h v r) : RuleVal h' v r := let ⟨a, t, u, b, e, q, z⟩ := y; ⟨a, t, u, b, e, isTuple_leS l q, z.leS l⟩
theorem RulesAt.leS {h h' : Heap} (l : LeS h h') {a : Addr} {x : List RuleD} (y : RulesAt h a x) : RulesAt h' a x := let ⟨vs, e, r⟩ := y; ⟨vs, isList_leS l e, r.1.mono fun _ _ q => q.leS l, r.2⟩
theorem CallVal.leS {h h' : Heap} (l : LeS h h') {v : Value} {r : CallD} (y : CallVal h v r) : CallVal h' v r := let ⟨a, t, u, x, b, e, q, z⟩ := y; ⟨a, t, u, x, b, e, isTuple_leS l q, z.leS l⟩
theorem CallsAt.leS {h h' : Heap} (l : LeS h h') {a : Addr} {x : List CallD} (y : CallsAt h a x) : CallsAt h' a x := let ⟨vs, e, r⟩ := y; ⟨vs, isList_leS l e, r.1.mono fun _ _ q => q.leS l, r.2⟩
theorem PairVal.leS {h h' : Heap} (l : LeS h h') {v : Value} {x : Str × Str} (y : PairVal h v x) : PairVal h' v x := let ⟨a, t, u, e, r⟩ := y; ⟨a, t, u, e, isTuple_leS l r⟩
theorem HdrsAt.leS {h h' : Heap} (l : LeS h h') {a : Addr} {x : List (Str × Str)} (y : HdrsAt h a x) : HdrsAt h' a x := let ⟨vs, n, e, r⟩ := y; ⟨vs, n, l _ _ _ _ e rfl, r.1.mono fun _ _ q => q.leS l, r.2⟩
theorem support {base h : Heap} {L : Addr} {m : Str → Option Value} (F : Fr base L h m) (X : List Addr) (hX : L ∈ X) : ∃ sup : List (Addr × Obj), News base L h sup ∧ (∀ p ∈ sup, p.1 ∉ X) ∧ (∀ b o, b ∉ X → h.get? b = some o → base.get? b = some o ∨ (b, o) ∈ sup) ∧ ∀ h', (∀ b o, base.get? b = some o → h'.get? b = some o) → (∀ p ∈ sup, h'.get? p.1 = some p.2) → LeX X h h' := by
  have hmem : ∀ b o, b ∉ X → h.get? b = some o → base.get? b = some o ∨ (b, o) ∈ (List.range h.objs.size).filterMap fun a => if a ∈ X then none else if (base.get? a).isSome then none else (h.get? a).map fun o => (a, o) := fun b o hn e => by
    cases q : base.get? b with
    | some o' =>
      have := F.keep _ _ q
      rw [e] at this; cases this
      exact .inl rfl
    | none =>
      refine .inr (List.mem_filterMap.mpr ⟨b, List.mem_range.mpr (Heap.lt_size e), ?_⟩)
      rw [if_neg hn, q, e]
      rfl
  refine ⟨(List.range h.objs.size).filterMap fun a => if a ∈ X then none else if (base.get? a).isSome then none else (h.get? a).map fun o => (a, o), fun p hp => ?_, fun p hp => ?_, hmem, fun h' hb hs b o hn e => (hmem b o hn e).elim (fun q => hb _ _ q) fun q => hs _ q⟩
  · obtain ⟨a, _, ha⟩ := List.mem_filterMap.mp hp
    split at ha
    · cases ha
    · rename_i haX
      split at ha
      · cases ha
      · rename_i hab
        obtain ⟨o, ho, e⟩ := Option.map_eq_some_iff.mp ha
        subst e
        refine ⟨ho, fun q => haX (by have q' : a = L := q; rw [q']; exact hX), ?_⟩
        simpa using hab
  · obtain ⟨a, _, ha⟩ := List.mem_filterMap.mp hp
    split at ha
    · cases ha
    · rename_i haX
      split at ha
      · cases ha
      · obtain ⟨o, ho, e⟩ := Option.map_eq_some_iff.mp ha
        subst e
        exact haX
theorem dict_not_seq {h : Heap} {L : Addr} {m : Str → Option Value} (x : h.Ns L m) : ∀ o its n, h.get? L = some o → o.data ≠ .seq its n := fun o its n e d => by
  obtain ⟨o', es, ep, e', d', _⟩ := x
  rw [e] at e'; cases e'
  rw [d] at d'; cases d'
theorem cell_not_seq {h : Heap} {a : Addr} {o1 : Obj} {v : Option Value} (e1 : h.get? a = some o1) (d1 : o1.data = .cell v) : ∀ o its n, h.get? a = some o → o.data ≠ .seq its n := fun o its n e d => by
  rw [e] at e1; cases e1
  rw [d] at d1; cases d1
/-- What a call made is carried on as the ledger. -/
theorem carry {base h : Heap} {L : Addr} {m : Str → Option Value} {o1 o2 o3 o4 : Obj} {v1 v2 v3 v4 : Option Value} {news : List (Addr × Obj)} (F : Fr base L h m) (N : News base L h ((L + 1 + 1 + 1 + 1, o4) :: (L + 1 + 1 + 1, o3) :: (L + 1 + 1, o2) :: (L + 1, o1) :: news)) (d1 : o1.data = .cell v1) (d2 : o2.data = .cell v2) (d3 : o3.data = .cell v3) (d4 : o4.data = .cell v4) :
    ∃ sup : List (Addr × Obj), News base L h ((L + 1 + 1 + 1 + 1, o4) :: (L + 1 + 1 + 1, o3) :: (L + 1 + 1, o2) :: (L + 1, o1) :: sup) ∧ (∀ p ∈ sup, p.1 ≠ L + 1) ∧ (∀ p ∈ sup, p.1 ≠ L + 1 + 1) ∧ (∀ p ∈ sup, p.1 ≠ L + 1 + 1 + 1) ∧ (∀ p ∈ sup, p.1 ≠ L + 1 + 1 + 1 + 1) ∧
      (∀ b o, b ∉ [L, L + 1, L + 1 + 1, L + 1 + 1 + 1, L + 1 + 1 + 1 + 1] → h.get? b = some o → base.get? b = some o ∨ (b, o) ∈ sup) ∧
      ∀ h' m' nw, Fr base L h' m' → News base L h' nw → (∀ p ∈ sup, p ∈ nw) → LeX [L, L + 1, L + 1 + 1, L + 1 + 1 + 1, L + 1 + 1 + 1 + 1] h h' ∧ LeS h h' := by
  obtain ⟨sup, Ns, hX, hmem, hs⟩ := support F [L, L + 1, L + 1 + 1, L + 1 + 1 + 1, L + 1 + 1 + 1 + 1] (.head _)
  refine ⟨sup, fun p hp => ?_, fun p hp q => hX p hp ?_, fun p hp q => hX p hp ?_, fun p hp q => hX p hp ?_, fun p hp q => hX p hp ?_, hmem, fun h' m' nw F' N' hm => ?_⟩
  · simp only [List.mem_cons] at hp
    rcases hp with rfl | rfl | rfl | rfl | hp
    · exact N _ (.head _)
    · exact N _ (.tail _ (.head _))
    · exact N _ (.tail _ (.tail _ (.head _)))
    · exact N _ (.tail _ (.tail _ (.tail _ (.head _))))
    · exact Ns p hp
  · rw [q]; exact .tail _ (.head _)
  · rw [q]; exact .tail _ (.tail _ (.head _))
  · rw [q]; exact .tail _ (.tail _ (.tail _ (.head _)))
  · rw [q]; exact .tail _ (.tail _ (.tail _ (.tail _ (.head _))))
  · have x := hs h' F'.keep fun p hp => (N' p (hm p hp)).1
    refine ⟨x, x.seq fun a ha => ?_⟩
    simp only [List.mem_cons, List.not_mem_nil, or_false] at ha
    rcases ha with rfl | rfl | rfl | rfl | rfl
    · exact dict_not_seq F.ns
    · exact cell_not_seq (N _ (.tail _ (.tail _ (.tail _ (.head _))))).1 d1
    · exact cell_not_seq (N _ (.tail _ (.tail _ (.head _)))).1 d2
    · exact cell_not_seq (N _ (.tail _ (.head _))).1 d3
    · exact cell_not_seq (N _ (.head _)).1 d4
theorem seq_notin {base h : Heap} {L b : Addr} {m : Str → Option Value} {o1 o2 o3 o4 o : Obj} {v1 v2 v3 v4 : Option Value} {news : List (Addr × Obj)} {its : Array Value} {n : Nat} (F : Fr base L h m) (N : News base L h ((L + 1 + 1 + 1 + 1, o4) :: (L + 1 + 1 + 1, o3) :: (L + 1 + 1, o2) :: (L + 1, o1) :: news)) (d1 : o1.data = .cell v1) (d2 : o2.data = .cell v2) (d3 : o3.data = .cell v3) (d4 : o4.data = .cell v4)
    (e : h.get? b = some o) (d : o.data = .seq its n) : b ∉ [L, L + 1, L + 1 + 1, L + 1 + 1 + 1, L + 1 + 1 + 1 + 1] := fun ha => by
  simp only [List.mem_cons, List.not_mem_nil, or_false] at ha
  rcases ha with rfl | rfl | rfl | rfl | rfl
  · exact dict_not_seq F.ns _ _ _ e d
  · exact cell_not_seq (N _ (.tail _ (.tail _ (.tail _ (.head _))))).1 d1 _ _ _ e d
  · exact cell_not_seq (N _ (.tail _ (.tail _ (.head _)))).1 d2 _ _ _ e d
  · exact cell_not_seq (N _ (.tail _ (.head _))).1 d3 _ _ _ e d
  · exact cell_not_seq (N _ (.head _)).1 d4 _ _ _ e d
theorem notin_X {base h : Heap} {L x : Addr} {m : Str → Option Value} {o1 o2 o3 o4 : Obj} {news : List (Addr × Obj)} (F : Fr base L h m) (N : News base L h ((L + 1 + 1 + 1 + 1, o4) :: (L + 1 + 1 + 1, o3) :: (L + 1 + 1, o2) :: (L + 1, o1) :: news)) (hx : h.get? x = none) : x ∉ [L, L + 1, L + 1 + 1, L + 1 + 1 + 1, L + 1 + 1 + 1 + 1] := fun q => by
  simp only [List.mem_cons, List.not_mem_nil, or_false] at q
  rcases q with rfl | rfl | rfl | rfl | rfl
  · obtain ⟨o, _, _, e, _⟩ := F.ns
    rw [hx] at e; cases e
  · have := (N _ (.tail _ (.tail _ (.tail _ (.head _))))).1; rw [hx] at this; cases this
  · have := (N _ (.tail _ (.tail _ (.head _)))).1; rw [hx] at this; cases this
  · have := (N _ (.tail _ (.head _))).1; rw [hx] at this; cases this
  · have := (N _ (.head _)).1; rw [hx] at this; cases this
theorem TableAt.leX {X : List Addr} {h h' : Heap} {t dx l : Addr} {hh : Int} {tk : Tok} (y : TableAt h t dx l hh tk) (e : LeX X h h') (h1 : t ∉ X) (h2 : dx ∉ X) : TableAt h' t dx l hh tk := ⟨e _ _ h1 y.1, e _ _ h2 y.2⟩
end Mine
namespace Mine
theorem textAt_texts : ((List.range 4).all fun k => (List.range 4).all fun a => (List.range 4).all fun b => [true, false].all fun c => [true, false].all fun d => texts.contains (textAt k (upIf c (letN a)) (upIf d (letN b)))) = true := by decide +kernel
theorem textAt_mem {k a b : Nat} (c d : Bool) (hk : k < 4) (ha : a < 4) (hb : b < 4) : textAt k (upIf c (letN a)) (upIf d (letN b)) ∈ texts := by
  have h1 := List.all_eq_true.mp textAt_texts k (List.mem_range.mpr hk)
  have h2 := List.all_eq_true.mp h1 a (List.mem_range.mpr ha)
  have h3 := List.all_eq_true.mp h2 b (List.mem_range.mpr hb)
  have h4 := List.all_eq_true.mp h3 c (by cases c <;> simp)
  have h5 := List.all_eq_true.mp h4 d (by cases d <;> simp)
  simpa using h5
theorem callOf_ok (n : Nat) : CallOk (callOf n) := by
  refine ⟨?_, upIf_heads (letN_heads (Nat.mod_lt _ (by decide))), textAt_mem _ _ (Nat.mod_lt _ (by decide)) (Nat.mod_lt _ (by decide)) (Nat.mod_lt _ (by decide))⟩
  show ((n % 4 : Nat) : Int) = 0 ∨ ((n % 4 : Nat) : Int) = 1 ∨ ((n % 4 : Nat) : Int) = 2 ∨ ((n % 4 : Nat) : Int) = 3
  omega
theorem callsF_ok (ns : List Int) : ∀ c ∈ callsF ns, CallOk c := fun c hc => by
  obtain ⟨n, _, rfl⟩ := List.mem_map.mp hc
  exact callOf_ok n
theorem callsF_len (ns : List Int) : (callsF ns).length ≤ 6 := by
  unfold callsF; rw [List.length_map]; exact ksOf_len ns
def saidF (T : Ps) : List Str → Ps → List Bool × Ps
  | [], ps => ([], ps)
  | x :: xs, ps => ((askF sidesOf T 4 x [] ps).1 :: (saidF T xs (askF sidesOf T 4 x [] ps).2).1, (saidF T xs (askF sidesOf T 4 x [] ps).2).2)
def AbCd : List Str := [st [65], st [98], st [67], st [100]]
/-- The plain law. -/
structure Plain (ns : List Int) : Prop where
  told : abcd.map (fun c => getAll (tableF (callsF ns)) (up c)) = abcd.map (textsOf (rulesF (callsF ns)))
  said : (saidF (tableF (callsF ns)) AbCd []).1 = abcd.map fun c => (dueF (rulesF (callsF ns))).contains c
  proof : ∀ b, ProofRes (proofF (rulesF (callsF ns)) (saidF (tableF (callsF ns)) AbCd []).2 []) (dueF (rulesF (callsF ns))) b → b = true
theorem getAll_len (ns : List Int) (x : Str) : (getAll (tableF (callsF ns)) x).length ≤ 4096 := by
  unfold getAll
  rw [List.length_map]
  have := foldT_len (callsF ns) []
  have := callsF_len ns
  have h2 := List.length_filter_le (fun p : Str × Str => low p.1 == low x) (tableF (callsF ns))
  unfold tableF at *
  simp only [List.length_nil] at *
  omega
theorem textsOf_len (ns : List Int) (x : Str) : (textsOf (rulesF (callsF ns)) x).length ≤ 4096 := by
  unfold textsOf
  rw [List.length_map]
  have := foldR_len (callsF ns) []
  have := callsF_len ns
  have h2 := List.length_filter_le (fun r : RuleD => r.1 == x) (rulesF (callsF ns))
  unfold rulesF at *
  simp only [List.length_nil] at *
  omega
theorem sideIn_val {h : Heap} {nx : List (Addr × Obj)} (hn : ∀ p ∈ nx, h.get? p.1 = some p.2) {v : Value} {l : List Str} (x : SideIn nx v l) : SideVal h v l := by
  obtain ⟨b, vs, n, e, m, q⟩ := x
  exact ⟨b, e, vs, ⟨_, hn _ m, rfl, _, rfl⟩, q⟩
theorem told_signs (ns : List Int) (h : Plain ns) : ([97, 98, 99, 100].map fun c => getAll (tableF (callsF ns)) (up (st [c]))) = [97, 98, 99, 100].map fun c => textsOf (rulesF (callsF ns)) (st [c]) := h.told
theorem pairs_offD {B h : Heap} {L l D : Addr} {ps : Ps} {nx : List (Addr × Obj)} {ys : List Value} (hP : PairsIn B l ps nx) (N : News B L h nx) (hD : h.get? D = some (LCg.lst ys)) (hl : @Ne Nat l D) : ∀ p ∈ nx, p.1 ≠ D := by
  obtain ⟨vs, n, pls, rfl, ht, _, _⟩ := hP
  intro p hp q
  rcases List.mem_cons.mp hp with rfl | hp
  · exact hl q
  · have := (N p (.tail _ hp)).1
    rw [q, hD] at this
    obtain ⟨its, hc, _⟩ := ht p hp
    rw [← Option.some.inj this] at hc
    exact absurd hc (by simp)
theorem pairs_hdrs {B h : Heap} {l : Addr} {ps : Ps} {nx : List (Addr × Obj)} (hP : PairsIn B l ps nx) (hl : LeS B h) (hn : ∀ p ∈ nx, h.get? p.1 = some p.2) : HdrsAt h l ps := by
  obtain ⟨vs, n, pls, rfl, _, ha, hok⟩ := hP
  refine ⟨vs, n, hn _ (.head _), ha.mono fun v p q => ?_, Nat.le_trans hok.len (by decide)⟩
  obtain ⟨a, t, u, e, x⟩ := q
  refine ⟨a, t, u, e, ?_⟩
  rcases x with x | ⟨o, hm, q⟩
  · exact isTuple_leS hl x
  · exact ⟨o, hn _ (.tail _ hm), q⟩
theorem ok_nil : FdOk [] := ⟨(fun _ h => nomatch h), by decide +kernel⟩
theorem AbCd_at {i d : Nat} (h : [65, 98, 67, 100][i]? = some d) : AbCd[i]? = some (st [d]) := by
  have e : AbCd = [65, 98, 67, 100].map fun c => st [c] := rfl
  rw [e, List.getElem?_map, h]; rfl
theorem saidF_cons (T : Ps) (x : Str) (xs : List Str) (ps : Ps) : saidF T (x :: xs) ps = ((askF sidesOf T 4 x [] ps).1 :: (saidF T xs (askF sidesOf T 4 x [] ps).2).1, (saidF T xs (askF sidesOf T 4 x [] ps).2).2) := rfl
/-- What holds between the turns of the asking. -/
def SaidJ (T : Ps) (B : Heap) (lf : Addr) (i : Nat) (ys : List Value) (nx : List (Addr × Obj)) : Prop := ∃ bs qs, PairsIn B lf qs nx ∧ All2 BoolVal ys bs ∧ bs ++ (saidF T (AbCd.drop i) qs).1 = (saidF T AbCd []).1 ∧ (saidF T (AbCd.drop i) qs).2 = (saidF T AbCd []).2
theorem miss_nil : miss [] ≤ 4 := by decide +kernel
end Mine
namespace Mine
/-- A new list of strs lies ahead of the ledger. -/
def Made (s : Shared) (C : Addr) (nx : List (Addr × Obj)) (l : List Str) (y : Value) (s' : Shared) : Prop :=
  ∃ D us n h tk m, y = .ref D ∧ s' = { s with heap := h, toks := tk } ∧ Fr s.heap C h m ∧ News s.heap C h ((D, W.listOf us.toArray n) :: nx) ∧ (∀ p ∈ nx, p.1 ≠ D) ∧ All2 StrVal us l ∧ l.length ≤ 4096
def MakeTurn {α : Type} (w : World) (A : Around) (env : Env) (target elt : Expr) (scope : Scope) (cl : List (Str × Addr)) (s : Shared) (R : Value → α → Prop) (g : α → List Str) (ds : List α) : Prop :=
  ∀ v d C m nx h tk (E' : Value → Shared → Prop), d ∈ ds → R v d → Fr s.heap C h m → News s.heap C h nx →
    wpAny (model PySem.Challenge.rw_pe0251_01.row.prog w) A (assign target (compEnvC scope cl C env) v) (fun _ s₂ =>
      wpAny (model PySem.Challenge.rw_pe0251_01.row.prog w) A (eval elt (compEnvC scope cl C env)) (Made s C nx (g d)) E' s₂) E' { s with heap := h, toks := tk }
theorem made_of {s s' : Shared} {C D : Addr} {h h' : Heap} {m : Str → Option Value} {nx : List (Addr × Obj)} {ys : List Value} {l : List Str} {tk : Nat} (F : Fr s.heap C h m) (N : News s.heap C h nx) (hle : Le h h') (hD : h'.get? D = some (LCg.lst ys)) (hn : h.get? D = none) (hys : All2 StrVal ys l) (hl : l.length ≤ 4096) (hs : s' = { s with heap := h', toks := tk }) : Made s C nx l (.ref D) s' := by
  refine ⟨D, ys, ys.length, h', tk, m, rfl, hs, F.keeps hle, fun p hp => ?_, fun p hp q => ?_, hys, hl⟩
  · rcases List.mem_cons.mp hp with rfl | hp
    · refine ⟨hD, fun q => ?_, ?_⟩
      · obtain ⟨o, _, _, e, _⟩ := F.ns
        have q' : D = C := q
        rw [q', e] at hn; cases hn
      · cases q : s.heap.get? D with
        | none => rfl
        | some o => rw [F.keep _ _ q] at hn; cases hn
    · exact ⟨hle _ _ (N p hp).1, (N p hp).2⟩
  · have := (N p hp).1
    rw [q, hn] at this; cases this
section
variable {w : World} {A : Around} {s : Shared} {E : Value → Shared → Prop} {env : Env} {target elt iter : Expr} {scope : Scope} {cl : List (Str × Addr)} {pos : Pos}
/-- A comprehension that makes a new list of strs for each item. -/
theorem comp_make {α : Type} {Q : Value → Shared → Prop} {R : Value → α → Prop} {g : α → List Str} {ds : List α}
    (hclos : closureFor scope env = pure cl) (hcell : ∀ y ∈ scope.names, y.2 ≠ .cell) (hkind : scope.kind = .function)
    (hnames : ∀ y ∈ scope.names, y.2 = .local → scope.names.lookup y.1 = some .local)
    (h : wpAny (model PySem.Challenge.rw_pe0251_01.row.prog w) A (eval iter env) (fun xv s₁ => Halt (∃ S n P, IterOf w A xv s₁ S n P ∧ (∀ h', Le s₁.heap h' → S h') ∧ n = ds.length ∧ n ≤ 4096 ∧ (∀ i v, P i v → ∃ d, ds[i]? = some d ∧ R v d) ∧ MakeTurn w A env target elt scope cl s₁ R g ds ∧
      ∀ D ys nx h tk, Le s₁.heap h → h.get? D = some (LCg.lst ys) → s₁.heap.objs.size ≤ D → (∀ p ∈ nx, h.get? p.1 = some p.2 ∧ p.1 ≠ D ∧ s₁.heap.get? p.1 = none) → All2 (SideIn nx) ys (ds.map g) → Q (.ref D) { s₁ with heap := h, toks := tk })) E s)
    (hs : ∀ x, foldedSetIterable iter env x = pure x := by intro _; rfl) :
    wpAny (model PySem.Challenge.rw_pe0251_01.row.prog w) A (eval (.ListComp elt [⟨target, iter, [], 0⟩] scope pos) env) Q E s := by
  refine comp_eval hclos hcell hkind hnames (wpAny_mono h (fun xv s₁ h₁ => ?_) fun _ _ e => e) hs
  obtain ⟨S, n, P, it, hS, hn, hsz, hP, t, ret⟩ := h₁
  refine ⟨S, n, P, fun i ys nx => All2 (SideIn nx) ys ((ds.take i).map g), [], it, by rw [sizeLine_eq]; omega, fun p hp => (nomatch hp), .nil, fun i ys nx C m h _ F _ => hS h F.keep, ?_, ?_⟩
  · intro g' i v ys C I D m nx h tk oI E' hv hJ hyl F N hID off _
    obtain ⟨d, hd, hR⟩ := hP i v hv
    refine wpAny_mono (t v d C m _ h tk E' (List.mem_of_getElem? hd) hR F N) (fun _ s₂ h₂ => ?_) fun _ _ e => e
    rw [List.forIn_nil]
    refine wpAny_pure ?_
    rw [if_pos rfl]
    refine wpAny_mono h₂ (fun y s₄ h₄ => ?_) fun _ _ e => e
    obtain ⟨D', us, k, h₅, tk₅, m₅, rfl, rfl, F₅, N₅, ho, hus, hl⟩ := h₄
    refine ⟨h₅, tk₅, m₅, (D', W.listOf us.toArray k) :: nx, rfl, F₅, fun p hp => N₅ p ?_, fun p hp => ?_, ?_⟩
    · simp only [List.mem_cons] at hp ⊢
      rcases hp with h | h | h | h <;> simp [h]
    · rcases List.mem_cons.mp hp with rfl | hp
      · exact ⟨Ne.symm (ho _ (.head _)), Ne.symm (ho _ (.tail _ (.head _)))⟩
      · exact off p hp
    · show All2 _ _ _
      rw [take_step hd, List.map_append]
      refine (hJ.mono fun _ _ q => ?_).snoc (b := g d) ⟨D', us, k, rfl, .head _, hus, hl⟩
      obtain ⟨b, vs, j, e1, e2, e3⟩ := q
      exact ⟨b, vs, j, e1, .tail _ e2, e3⟩
  · rintro D ys nx h tk hk hD hle hyl hnx hJ
    rw [hn, List.take_length] at hJ
    exact ret D ys nx h tk hk hD hle hnx hJ
end
def sAbcd : Str := Str.ofString "abcd"
def sAbCd : Str := Str.ofString "AbCd"
theorem abcd_signs : (Str.ofString "abcd").cps.toList = [97, 98, 99, 100] := by decide +kernel
theorem AbCd_signs : (Str.ofString "AbCd").cps.toList = [65, 98, 67, 100] := by decide +kernel
def SignVal (v : Value) (c : Nat) : Prop := ∃ u, v = .str (st [c]) u
theorem sign_at {x : Str} {l : List Nat} (hx : x.cps.toList = l) {i : Nat} {v : Value} (h : SignAt x i v) : ∃ d, l[i]? = some d ∧ SignVal v d := by
  obtain ⟨c, u, hc, rfl⟩ := h
  exact ⟨c, by rw [← hx]; simpa using hc, u, rfl⟩
theorem signs_len {x : Str} {l : List Nat} (hx : x.cps.toList = l) : x.cps.size = l.length := by rw [← hx]; simp
theorem abcd_sign_heads {c : Nat} (h : c ∈ [97, 98, 99, 100]) : st [c] ∈ heads := by
  simp only [List.mem_cons, List.not_mem_nil, or_false] at h
  rcases h with rfl | rfl | rfl | rfl <;> decide +kernel
theorem AbCd_sign_heads {c : Nat} (h : c ∈ [65, 98, 67, 100]) : st [c] ∈ heads := by
  simp only [List.mem_cons, List.not_mem_nil, or_false] at h
  rcases h with rfl | rfl | rfl | rfl <;> decide +kernel
end Mine
namespace Mine
def lowS (ss : List (List Str)) : List (List Str) := ss.map fun s => s.map low
def toRule (p : Str × Str) : RuleD := (low p.1, p.2, lowS (sidesOf p.2))
theorem sides_low : ((List.range 4).all fun k => (List.range 4).all fun a => (List.range 4).all fun b => [true, false].all fun c => [true, false].all fun d => lowS (sidesOf (textAt k (upIf c (letN a)) (upIf d (letN b)))) == sidesAt k (letN a) (letN b)) = true := by decide +kernel
theorem callOf_sides (n : Nat) : (callOf n).2.2.2 = lowS (sidesOf (callOf n).2.2.1) := by
  have h1 := List.all_eq_true.mp sides_low (n / 32 % 4) (List.mem_range.mpr (Nat.mod_lt _ (by decide)))
  have h2 := List.all_eq_true.mp h1 (n / 128 % 4) (List.mem_range.mpr (Nat.mod_lt _ (by decide)))
  have h3 := List.all_eq_true.mp h2 (n / 1024 % 4) (List.mem_range.mpr (Nat.mod_lt _ (by decide)))
  have h4 := List.all_eq_true.mp h3 (n / 512 % 2 == 1) (by cases (n / 512 % 2 == 1) <;> simp)
  have h5 := List.all_eq_true.mp h4 (n / 4096 % 2 == 1) (by cases (n / 4096 % 2 == 1) <;> simp)
  exact (beq_iff_eq.mp h5).symm
theorem find_filter {α : Type} (p : α → Bool) : ∀ l : List α, (l.find? p).isSome = !(l.filter p).isEmpty
  | [] => rfl
  | a :: l => by
    rw [List.find?_cons, List.filter_cons]
    cases p a
    · exact find_filter p l
    · rfl
theorem filter_rule (q : Str → Bool) (T : Ps) : (T.map toRule).filter (fun r => q r.1) = (T.filter fun p => q (low p.1)).map toRule := by
  rw [List.filter_map]; rfl
theorem step_corr (T : Ps) (c : CallD) (hk : CallOk c) (hs : c.2.2.2 = lowS (sidesOf c.2.2.1)) : stepR (T.map toRule) c = (stepT T c).map toRule := by
  obtain ⟨k, h, t, sd⟩ := c
  have hk' : k = 0 ∨ k = 1 ∨ k = 2 ∨ k = 3 := hk.1
  have hs' : sd = lowS (sidesOf t) := hs
  subst hs'
  rcases hk' with rfl | rfl | rfl | rfl
  · rw [stepR0, stepT0, List.map_append]; rfl
  · have e : ((T.map toRule).filter fun r => r.1 == low h).isEmpty = (T.filter fun p => low p.1 == low h).isEmpty := by
      rw [filter_rule fun c => c == low h, List.isEmpty_map]
    rw [stepT1]
    unfold setDef
    rw [find_filter]
    cases q : (T.filter fun p => low p.1 == low h).isEmpty with
    | true =>
      rw [stepR1a _ _ _ _ (e.trans q), if_neg (by simp), List.map_append]; rfl
    | false =>
      rw [stepR1b _ _ _ _ (e.trans q), if_pos (by simp)]
  · rw [stepR2, stepT2, filter_rule fun c => c != low h, List.map_append]; rfl
  · rw [stepR3, stepT3, filter_rule fun c => c != low h]
theorem fold_corr : ∀ (cs : List CallD) (T : Ps), (∀ c ∈ cs, CallOk c ∧ c.2.2.2 = lowS (sidesOf c.2.2.1)) → cs.foldl stepR (T.map toRule) = (cs.foldl stepT T).map toRule
  | [], _, _ => rfl
  | c :: cs, T, h => by
    rw [List.foldl_cons, List.foldl_cons, step_corr T c (h c (.head _)).1 (h c (.head _)).2]
    exact fold_corr cs _ fun d hd => h d (.tail _ hd)
theorem rules_table (ns : List Int) : rulesF (callsF ns) = (tableF (callsF ns)).map toRule := by
  refine fold_corr (callsF ns) [] fun c hc => ?_
  obtain ⟨n, _, rfl⟩ := List.mem_map.mp hc
  exact ⟨callOf_ok n, callOf_sides n⟩
theorem low_up : abcd.all (fun c => low (up c) == c && low c == c) = true := by decide +kernel
theorem told_eq (T : Ps) : abcd.map (fun c => getAll T (up c)) = abcd.map (textsOf (T.map toRule)) := by
  refine List.map_congr_left fun c hc => ?_
  have := List.all_eq_true.mp low_up c hc
  rw [Bool.and_eq_true, beq_iff_eq] at this
  unfold getAll textsOf
  rw [this.1, filter_rule fun d => d == c, List.map_map]
  rfl

inductive Der (R : List RuleD) (above F : List Str) : Str → Prop
  | base {c : Str} : c ∈ F → Der R above F c
  | rule {r : RuleD} {side : List Str} : r ∈ R → r.1 ∉ above → side ∈ r.2.2 → (∀ l ∈ side, Der R above F l) → Der R above F r.1
theorem Der.mono {R : List RuleD} {ab ab' F F' : List Str} (ha : ∀ c ∈ ab', c ∈ ab) (hF : ∀ c ∈ F, Der R ab' F' c) {c : Str} (h : Der R ab F c) : Der R ab' F' c := by
  induction h with
  | base h => exact hF _ h
  | rule hr hn hs _ ih => exact .rule hr (fun q => hn (ha _ q)) hs ih
theorem Der.inv {R : List RuleD} {ab F : List Str} {c : Str} (h : Der R ab F c) : c ∈ F ∨ (c ∉ ab ∧ ∃ r ∈ R, r.1 = c ∧ ∃ side ∈ r.2.2, ∀ l ∈ side, Der R ab F l) := by
  cases h with
  | base h => exact .inl h
  | rule hr hn hs h => exact .inr ⟨hn, _, hr, rfl, _, hs, h⟩
theorem Der.not {R : List RuleD} {ab F : List Str} {c : Str} (hF : c ∉ F) (ha : c ∈ ab) : ¬ Der R ab F c := fun h => h.inv.elim hF fun q => q.1 ha
/-- Where no rule for c holds without c, c itself is out of reach. -/
theorem Der.cut {R : List RuleD} {ab F : List Str} {c : Str} (hF : c ∉ F) (h : ∀ r ∈ R, r.1 = c → ∀ side ∈ r.2.2, ¬ ∀ l ∈ side, Der R (ab ++ [c]) F l) : ¬ Der R ab F c := by
  have aux : ∀ d, Der R ab F d → Der R (ab ++ [c]) F d := by
    intro d hd
    induction hd with
    | base h => exact .base h
    | @rule r side hr hn hs _ ih =>
      refine .rule hr (fun q => ?_) hs ih
      rcases List.mem_append.mp q with q | q
      · exact hn q
      · exact h _ hr (List.mem_singleton.mp q) _ hs ih
  exact fun hd => Der.not hF (List.mem_append_right _ (.head _)) (aux c hd)
def FL (ps : Ps) : List Str := ps.map fun p => low p.1
def Inv (R : List RuleD) (ps : Ps) : Prop := proofF R ps [] = some (FL ps) ∧ (FL ps).Nodup
theorem isFound_iff {ps : Ps} {x : Str} : isFound ps x = true ↔ low x ∈ FL ps := by
  unfold isFound
  rw [List.find?_isSome]
  constructor
  · rintro ⟨p, hp, e⟩
    exact List.mem_map.mpr ⟨p, hp, by simpa using e⟩
  · intro h
    obtain ⟨p, hp, e⟩ := List.mem_map.mp h
    exact ⟨p, hp, by simpa using e⟩
structure Step (R : List RuleD) (ab : List Str) (ps : Ps) (r : Bool × Ps) (good : Prop) (got : Ps → Prop) : Prop where
  iff : r.1 = true ↔ good
  up : ∀ c ∈ FL ps, c ∈ FL r.2
  sound : ∀ c ∈ FL r.2, Der R ab (FL ps) c
  got : r.1 = true → got r.2
  inv : Inv R r.2
/-- What is derived from what an asking leaves is derived from what it found. -/
theorem der_same {R : List RuleD} {ab : List Str} {ps ps' : Ps} (h1 : ∀ c ∈ FL ps, c ∈ FL ps') (h2 : ∀ c ∈ FL ps', Der R ab (FL ps) c) (c : Str) : Der R ab (FL ps') c ↔ Der R ab (FL ps) c :=
  ⟨fun h => h.mono (fun _ q => q) h2, fun h => h.mono (fun _ q => q) fun d hd => .base (h1 d hd)⟩
theorem bothF_step {R : List RuleD} {ab : List Str} {ask : Str → Ps → Bool × Ps} : ∀ {side : List Str}, (∀ l ∈ side, ∀ ps, Inv R ps → Step R ab ps (ask l ps) (Der R ab (FL ps) (low l)) fun q => low l ∈ FL q) → ∀ ps, Inv R ps →
    Step R ab ps (bothF ask side ps) (∀ l ∈ side, Der R ab (FL ps) (low l)) fun q => ∀ l ∈ side, low l ∈ FL q
  | [], _, ps, hi => ⟨⟨(fun _ _ h => nomatch h), fun _ => rfl⟩, fun _ h => h, fun _ h => .base h, (fun _ _ h => nomatch h), hi⟩
  | l :: ls, h, ps, hi => by
    rw [bothF_cons]
    have S := h l (.head _) ps hi
    generalize ask l ps = r at S
    obtain ⟨b, ps'⟩ := r
    cases b with
    | false =>
      have := S.iff
      exact ⟨⟨(fun q => nomatch q), (fun q => nomatch S.iff.mpr (q l (.head _)))⟩, S.up, S.sound, (fun q => nomatch q), S.inv⟩
    | true =>
      have S2 := bothF_step (fun k hk => h k (.tail _ hk)) ps' S.inv
      have hs := der_same (R := R) (ab := ab) S.up S.sound
      refine ⟨⟨fun q k hk => ?_, fun q => S2.iff.mpr fun k hk => (hs _).mpr (q k (.tail _ hk))⟩, fun c hc => S2.up c (S.up c hc), fun c hc => (hs c).mp (S2.sound c hc), fun q k hk => ?_, S2.inv⟩
      · rcases List.mem_cons.mp hk with rfl | hk
        · exact S.iff.mp rfl
        · exact (hs _).mp (S2.iff.mp q k hk)
      · rcases List.mem_cons.mp hk with rfl | hk
        · exact S2.up _ (S.got rfl)
        · exact S2.got q k hk
theorem sidesF_step {R : List RuleD} {ab : List Str} {b : List Str → Ps → Bool × Ps} : ∀ {ss : List (List Str)}, (∀ side ∈ ss, ∀ ps, Inv R ps → Step R ab ps (b side ps) (∀ l ∈ side, Der R ab (FL ps) (low l)) fun q => ∀ l ∈ side, low l ∈ FL q) → ∀ ps, Inv R ps →
    Step R ab ps (sidesF b ss ps) (∃ side ∈ ss, ∀ l ∈ side, Der R ab (FL ps) (low l)) fun q => ∃ side ∈ ss, ∀ l ∈ side, low l ∈ FL q
  | [], _, ps, hi => ⟨⟨(fun h => nomatch h), (fun ⟨_, h, _⟩ => nomatch h)⟩, fun _ h => h, fun _ h => .base h, (fun h => nomatch h), hi⟩
  | s :: ss, h, ps, hi => by
    rw [sidesF_cons]
    have S := h s (.head _) ps hi
    generalize b s ps = r at S
    obtain ⟨b', ps'⟩ := r
    cases b' with
    | true => exact ⟨⟨fun _ => ⟨s, .head _, S.iff.mp rfl⟩, fun _ => rfl⟩, S.up, S.sound, fun _ => ⟨s, .head _, S.got rfl⟩, S.inv⟩
    | false =>
      have S2 := sidesF_step (fun k hk => h k (.tail _ hk)) ps' S.inv
      have hs := der_same (R := R) (ab := ab) S.up S.sound
      refine ⟨⟨fun q => ?_, fun ⟨k, hk, q⟩ => ?_⟩, fun c hc => S2.up c (S.up c hc), fun c hc => (hs c).mp (S2.sound c hc), fun q => ?_, S2.inv⟩
      · obtain ⟨k, hk, q⟩ := S2.iff.mp q
        exact ⟨k, .tail _ hk, fun l hl => (hs _).mp (q l hl)⟩
      · rcases List.mem_cons.mp hk with rfl | hk
        · have := S.iff.mpr q; cases this
        · exact S2.iff.mpr ⟨k, hk, fun l hl => (hs _).mpr (q l hl)⟩
      · obtain ⟨k, hk, q⟩ := S2.got q
        exact ⟨k, .tail _ hk, q⟩
theorem proofF_snoc (R : List RuleD) (p : Str × Str) : ∀ (ps : Ps) (a : List Str), proofF R (ps ++ [p]) a = match proofF R ps a with
    | none => none
    | some b => if (R.filter fun r => r.1 == low p.1 && (r.2.1 == p.2 && holdsF r.2.2 b)).isEmpty then none else some (b ++ [low p.1])
  | [], a => rfl
  | q :: ps, a => by
    show (if _ then _ else proofF R (ps ++ [p]) _) = _
    rw [proofF_snoc R p ps]
    show _ = match (if (R.filter fun r : RuleD => r.1 == low q.1 && (r.2.1 == q.2 && holdsF r.2.2 a)).isEmpty then none else proofF R ps (a ++ [low q.1])) with
      | none => none
      | some b => if (R.filter fun r : RuleD => r.1 == low p.1 && (r.2.1 == p.2 && holdsF r.2.2 b)).isEmpty then none else some (b ++ [low p.1])
    split <;> rfl
theorem holdsF_of {ss : List (List Str)} {F : List Str} {side : List Str} (hs : side ∈ ss) (h : ∀ l ∈ side, low l ∈ F) : holdsF (lowS ss) F = true := by
  unfold holdsF lowS
  rw [List.any_map, List.any_eq_true]
  refine ⟨side, hs, ?_⟩
  show (side.map low).all _ = true
  rw [List.all_map, List.all_eq_true]
  intro l hl
  simpa using h l hl
theorem Inv.put {R : List RuleD} {ps : Ps} {x t : Str} {side : List Str} (h : Inv R ps) (hr : (low x, t, lowS (sidesOf t)) ∈ R) (hn : low x ∉ FL ps) (hs : side ∈ sidesOf t) (hl : ∀ l ∈ side, low l ∈ FL ps) : Inv R (ps ++ [(x, t)]) := by
  have e : FL (ps ++ [(x, t)]) = FL ps ++ [low x] := by unfold FL; rw [List.map_append]; rfl
  refine ⟨?_, ?_⟩
  · rw [proofF_snoc, h.1, e]
    dsimp only
    rw [if_neg]
    intro q
    have := List.isEmpty_iff.mp q
    have := List.filter_eq_nil_iff.mp this _ hr
    simp [holdsF_of hs hl] at this
  · rw [e, List.nodup_append]
    refine ⟨h.2, by simp, fun a ha b hb => ?_⟩
    rw [List.mem_singleton.mp hb]
    exact fun q => hn (q ▸ ha)
theorem textsF_step {R : List RuleD} {ab : List Str} {x : Str} {b : List Str → Ps → Bool × Ps} (hx : low x ∉ ab) : ∀ {ts : List Str}, (∀ t ∈ ts, (low x, t, lowS (sidesOf t)) ∈ R) →
    (∀ t ∈ ts, ∀ side ∈ sidesOf t, ∀ ps, Inv R ps → Step R (ab ++ [low x]) ps (b side ps) (∀ l ∈ side, Der R (ab ++ [low x]) (FL ps) (low l)) fun q => ∀ l ∈ side, low l ∈ FL q) → ∀ ps, Inv R ps → low x ∉ FL ps →
    Step R ab ps (textsF sidesOf b x ts ps) (∃ t ∈ ts, ∃ side ∈ sidesOf t, ∀ l ∈ side, Der R (ab ++ [low x]) (FL ps) (low l)) fun q => low x ∈ FL q
  | [], _, _, ps, hi, _ => ⟨⟨(fun h => nomatch h), (fun ⟨_, h, _⟩ => nomatch h)⟩, fun _ h => h, fun _ h => .base h, (fun h => nomatch h), hi⟩
  | t :: ts, ht, h, ps, hi, hn => by
    rw [textsF_cons]
    have S := sidesF_step (h t (.head _)) ps hi
    generalize sidesF b (sidesOf t) ps = r at S
    obtain ⟨b', ps'⟩ := r
    have hmono : ∀ {F : List Str} {c : Str}, Der R (ab ++ [low x]) F c → Der R ab F c := fun h => h.mono (fun _ q => List.mem_append_left _ q) fun _ q => .base q
    have hn' : low x ∉ FL ps' := fun q => Der.not hn (List.mem_append_right _ (.head _)) (S.sound _ q)
    cases b' with
    | true =>
      have hf : isFound ps' x = false := by
        cases q : isFound ps' x with
        | false => rfl
        | true => exact absurd (isFound_iff.mp q) hn'
      obtain ⟨side, hs, hd⟩ := S.iff.mp rfl
      obtain ⟨side2, hs2, hd2⟩ := S.got rfl
      have e : putF ps' x t = ps' ++ [(x, t)] := by unfold putF; rw [hf]; rfl
      have eF : FL (ps' ++ [(x, t)]) = FL ps' ++ [low x] := by unfold FL; rw [List.map_append]; rfl
      dsimp only
      rw [e]
      refine ⟨⟨fun _ => ⟨t, .head _, side, hs, hd⟩, fun _ => rfl⟩, fun c hc => ?_, fun c hc => ?_, fun _ => ?_, S.inv.put (ht t (.head _)) hn' hs2 hd2⟩
      · rw [eF]; exact List.mem_append_left _ (S.up c hc)
      · rw [eF] at hc
        rcases List.mem_append.mp hc with hc | hc
        · exact hmono (S.sound c hc)
        · rw [List.mem_singleton.mp hc]
          refine Der.rule (ht t (.head _)) hx (List.mem_map_of_mem (f := fun s : List Str => s.map low) hs) fun l hl => ?_
          obtain ⟨k, hk, rfl⟩ := List.mem_map.mp hl
          exact hmono (hd k hk)
      · rw [eF]; exact List.mem_append_right _ (.head _)
    | false =>
      have S2 := textsF_step hx (fun k hk => ht k (.tail _ hk)) (fun k hk => h k (.tail _ hk)) ps' S.inv hn'
      have hs := der_same (R := R) (ab := ab ++ [low x]) S.up S.sound
      have hs' := der_same (R := R) (ab := ab) S.up fun c hc => hmono (S.sound c hc)
      refine ⟨⟨fun q => ?_, fun ⟨k, hk, side, hsd, q⟩ => ?_⟩, fun c hc => S2.up c (S.up c hc), fun c hc => (hs' c).mp (S2.sound c hc), S2.got, S2.inv⟩
      · obtain ⟨k, hk, side, hsd, q⟩ := S2.iff.mp q
        exact ⟨k, .tail _ hk, side, hsd, fun l hl => (hs _).mp (q l hl)⟩
      · rcases List.mem_cons.mp hk with rfl | hk
        · exact nomatch S.iff.mpr ⟨side, hsd, q⟩
        · exact S2.iff.mpr ⟨k, hk, side, hsd, fun l hl => (hs _).mpr (q l hl)⟩
theorem getAll_rule {T : Ps} {x t : Str} (h : t ∈ getAll T x) : (low x, t, lowS (sidesOf t)) ∈ T.map toRule := by
  obtain ⟨p, hp, rfl⟩ := List.mem_map.mp h
  obtain ⟨hp, e⟩ := List.mem_filter.mp hp
  have e' : low p.1 = low x := by simpa using e
  exact List.mem_map.mpr ⟨p, hp, by unfold toRule; rw [e']⟩
theorem askF_step {T : Ps} (hT : PsOk T) : ∀ (n : Nat) (x : Str) (ab : List Str) (ps : Ps), x ∈ heads → miss ab ≤ n → Inv (T.map toRule) ps →
    Step (T.map toRule) ab ps (askF sidesOf T n x ab ps) (Der (T.map toRule) ab (FL ps) (low x)) fun q => low x ∈ FL q
  | n, x, ab, ps, hx, hm, hi => by
    cases hf : isFound ps x with
    | true =>
      have e : askF sidesOf T n x ab ps = (true, ps) := by cases n <;> simp [askF, hf]
      rw [e]
      have := isFound_iff.mp hf
      exact ⟨⟨fun _ => .base this, fun _ => rfl⟩, fun _ h => h, fun _ h => .base h, fun _ => this, hi⟩
    | false =>
      have hn : low x ∉ FL ps := fun q => by have := isFound_iff.mpr q; rw [hf] at this; cases this
      cases hc : ab.contains (low x) with
      | true =>
        have e : askF sidesOf T n x ab ps = (false, ps) := by
          cases n with
          | zero => rw [askF, hf]
          | succ n => rw [askF, hf, hc]; rfl
        rw [e]
        exact ⟨⟨(fun h => nomatch h), fun h => absurd h (Der.not hn (by simpa using hc))⟩, fun _ h => h, fun _ h => .base h, (fun h => nomatch h), hi⟩
      | false =>
        cases n with
        | zero => have := miss_zero (Nat.le_zero.mp hm) (low_abcd hx); rw [hc] at this; cases this
        | succ n =>
          have e : askF sidesOf T (n + 1) x ab ps = textsF sidesOf (bothF fun y qs => askF sidesOf T n y (ab ++ [low x]) qs) x (getAll T x) ps := by rw [askF, hf, hc]; rfl
          rw [e]
          have hxa : low x ∉ ab := by simpa using hc
          have hm2 : miss (ab ++ [low x]) ≤ n := by have := miss_add (low_abcd hx) hc; omega
          have S := textsF_step (R := T.map toRule) (b := bothF fun y qs => askF sidesOf T n y (ab ++ [low x]) qs) hxa (ts := getAll T x) (fun t ht => getAll_rule ht) (fun t ht side hs ps' hi' => bothF_step (fun l hl ps'' hi'' => by
            obtain ⟨p, hp, rfl⟩ := List.mem_map.mp ht
            exact askF_step hT n l _ ps'' ((texts_signs (hT p (List.mem_filter.mp hp).1).2).2.2 side hs l hl) hm2 hi'') ps' hi') ps hi hn
          refine ⟨⟨fun q => ?_, fun q => ?_⟩, S.up, S.sound, S.got, S.inv⟩
          · obtain ⟨t, ht, side, hs, hd⟩ := S.iff.mp q
            refine Der.rule (getAll_rule ht) hxa (List.mem_map_of_mem (f := fun s : List Str => s.map low) hs) fun l hl => ?_
            obtain ⟨k, hk, rfl⟩ := List.mem_map.mp hl
            exact (hd k hk).mono (fun _ q => List.mem_append_left _ q) fun _ q => .base q
          · refine Classical.byContradiction fun hno => Der.cut hn (fun r hr hr1 side hs hd => hno (S.iff.mpr ?_)) q
            obtain ⟨p, hp, rfl⟩ := List.mem_map.mp hr
            obtain ⟨s, hs', rfl⟩ := List.mem_map.mp hs
            refine ⟨p.2, List.mem_map.mpr ⟨p, List.mem_filter.mpr ⟨hp, beq_iff_eq.mpr hr1⟩, rfl⟩, s, hs', fun l hl => hd _ (List.mem_map_of_mem hl)⟩
theorem heldOf_bits : ∀ a b c d : Bool, heldOf (a.toNat + 2 * b.toNat + 4 * c.toNat + 8 * d.toNat) = abcd.filter fun x => (x == st [97] && a) || (x == st [98] && b) || (x == st [99] && c) || (x == st [100] && d) := by decide +kernel
theorem heldOf_sub : (List.range 16).all (fun i => (heldOf i).all fun c => abcd.contains c) = true := by decide +kernel
def Closed (R : List RuleD) (i : Nat) : Prop := (R.filter fun r => !(heldOf i).contains r.1 && holdsF r.2.2 (heldOf i)).isEmpty = true
theorem due_mem (R : List RuleD) (c : Str) : ∀ (l : List Nat) (d : List Str), c ∈ l.foldl (stepD R) d ↔ c ∈ d ∧ ∀ i ∈ l, Closed R i → c ∈ heldOf i
  | [], d => ⟨fun h => ⟨h, fun _ h => nomatch h⟩, fun h => h.1⟩
  | i :: l, d => by
    rw [List.foldl_cons, due_mem R c l]
    have e : c ∈ stepD R d i ↔ c ∈ d ∧ (Closed R i → c ∈ heldOf i) := by
      unfold stepD Closed
      split
      · rename_i q
        rw [List.mem_filter]
        exact ⟨fun h => ⟨h.1, fun _ => by simpa using h.2⟩, fun h => ⟨h.1, by simpa using h.2 q⟩⟩
      · rename_i q
        exact ⟨fun h => ⟨h, fun z => absurd z q⟩, fun h => h.1⟩
    rw [e]
    exact ⟨fun h => ⟨h.1.1, fun j hj => by
      rcases List.mem_cons.mp hj with rfl | hj
      · exact h.1.2
      · exact h.2 j hj⟩, fun h => ⟨⟨h.1, h.2 i (.head _)⟩, fun j hj => h.2 j (.tail _ hj)⟩⟩
theorem due_sub (R : List RuleD) : ∀ (l : List Nat) (d : List Str), (l.foldl (stepD R) d).Sublist d
  | [], d => List.Sublist.refl d
  | i :: l, d => by
    rw [List.foldl_cons]
    refine (due_sub R l _).trans ?_
    unfold stepD
    split
    · exact List.filter_sublist
    · exact List.Sublist.refl d
theorem closed_der {R : List RuleD} {i : Nat} (h : Closed R i) {c : Str} (d : Der R [] [] c) : c ∈ heldOf i := by
  induction d with
  | base h => cases h
  | @rule r side hr _ hs _ ih =>
    refine Classical.byContradiction fun hn => ?_
    have := List.filter_eq_nil_iff.mp (List.isEmpty_iff.mp h) r hr
    have hh : holdsF r.2.2 (heldOf i) = true := List.any_eq_true.mpr ⟨side, hs, List.all_eq_true.mpr fun l hl => by simpa using ih l hl⟩
    have hc : (heldOf i).contains r.1 = false := by simpa using hn
    rw [hh, hc] at this
    exact this rfl
open Classical in
theorem due_iff (R : List RuleD) (hR : ∀ r ∈ R, r.1 ∈ abcd) {c : Str} (hc : c ∈ abcd) : c ∈ dueF R ↔ Der R [] [] c := by
  unfold dueF
  rw [due_mem]
  constructor
  · rintro ⟨_, h⟩
    have e := heldOf_bits (decide (Der R [] [] (st [97]))) (decide (Der R [] [] (st [98]))) (decide (Der R [] [] (st [99]))) (decide (Der R [] [] (st [100])))
    generalize hi : (decide (Der R [] [] (st [97]))).toNat + 2 * (decide (Der R [] [] (st [98]))).toNat + 4 * (decide (Der R [] [] (st [99]))).toNat + 8 * (decide (Der R [] [] (st [100]))).toNat = i at e
    have hi16 : i < 16 := by
      have t := fun b : Bool => (by cases b <;> decide : b.toNat ≤ 1)
      have := t (decide (Der R [] [] (st [97])))
      have := t (decide (Der R [] [] (st [98])))
      have := t (decide (Der R [] [] (st [99])))
      have := t (decide (Der R [] [] (st [100])))
      omega
    have held : ∀ d, d ∈ heldOf i → Der R [] [] d := fun d hd => by
      rw [e] at hd
      have := (List.mem_filter.mp hd).2
      simp only [Bool.or_eq_true, Bool.and_eq_true, beq_iff_eq, decide_eq_true_eq] at this
      rcases this with ((⟨rfl, h⟩ | ⟨rfl, h⟩) | ⟨rfl, h⟩) | ⟨rfl, h⟩ <;> exact h
    have hold : ∀ d ∈ abcd, Der R [] [] d → d ∈ heldOf i := fun d hd h => by
      rw [e]
      refine List.mem_filter.mpr ⟨hd, ?_⟩
      simp only [abcd, List.mem_cons, List.not_mem_nil, or_false] at hd
      rcases hd with rfl | rfl | rfl | rfl <;> simp [h]
    refine held c (h i (List.mem_range.mpr hi16) ?_)
    unfold Closed
    rw [List.isEmpty_iff, List.filter_eq_nil_iff]
    intro r hr hq
    rw [Bool.and_eq_true] at hq
    obtain ⟨side, hs, ha⟩ := List.any_eq_true.mp hq.2
    have hd : Der R [] [] r.1 := Der.rule hr (fun h => nomatch h) hs fun l hl => held l (by simpa using List.all_eq_true.mp ha l hl)
    have h2 := hold r.1 (hR r hr) hd
    have h3 : (heldOf i).contains r.1 = false := by simpa using hq.1
    rw [List.contains_iff_mem.mpr h2] at h3
    cases h3
  · exact fun d => ⟨hc, fun i _ h => closed_der h d⟩
/-- The letters' numbers. -/
def rk (x : Str) : Nat := x.cps.toList.headD 0
theorem rk_back : abcd.all (fun c => st [rk c] == c) = true := by decide +kernel
theorem rk_lt : abcd.all (fun a => abcd.all fun b => ltCps a.cps.toList b.cps.toList == decide (rk a < rk b)) = true := by decide +kernel
theorem lt_rk {a b : Str} (ha : a ∈ abcd) (hb : b ∈ abcd) : ltCps a.cps.toList b.cps.toList = decide (rk a < rk b) := beq_iff_eq.mp (List.all_eq_true.mp (List.all_eq_true.mp rk_lt a ha) b hb)
theorem rk_inj {a b : Str} (ha : a ∈ abcd) (hb : b ∈ abcd) (h : rk a = rk b) : a = b := by
  have h1 := beq_iff_eq.mp (List.all_eq_true.mp rk_back a ha)
  have h2 := beq_iff_eq.mp (List.all_eq_true.mp rk_back b hb)
  rw [← h1, h, h2]
theorem rising_pairs : ∀ (l : List Str) (p : Str), (∀ x ∈ p :: l, x ∈ abcd) → (p :: l).Nodup → risingS p l = true → (p :: l).Pairwise fun a b => rk a < rk b
  | [], p, _, _, _ => by simp
  | x :: r, p, ha, hn, hr => by
    have hr' : (!ltCps x.cps.toList p.cps.toList && risingS x r) = true := hr
    rw [Bool.and_eq_true] at hr'
    have hp := ha p (.head _)
    have hx := ha x (.tail _ (.head _))
    rw [List.nodup_cons] at hn
    have ih := rising_pairs r x (fun y hy => ha y (.tail _ hy)) hn.2 hr'.2
    have hlt : rk p < rk x := by
      have h1 := hr'.1
      rw [lt_rk hx hp] at h1
      have h2 : ¬ rk x < rk p := by simpa using h1
      have h3 : rk p ≠ rk x := fun q => hn.1 (rk_inj hp hx q ▸ .head _)
      omega
    refine List.pairwise_cons.mpr ⟨fun y hy => ?_, ih⟩
    rcases List.mem_cons.mp hy with rfl | hy
    · exact hlt
    · exact Nat.lt_trans hlt (List.rel_of_pairwise_cons ih hy)
theorem sorted_pairs {l : List Str} (ha : ∀ x ∈ l, x ∈ abcd) (hn : l.Nodup) (hs : sortedS l = true) : l.Pairwise fun a b => rk a < rk b := by
  cases l with
  | nil => exact .nil
  | cons p l => exact rising_pairs l p ha hn hs
theorem same_list : ∀ {a b : List Str}, (∀ x ∈ a, x ∈ abcd) → (∀ x ∈ b, x ∈ abcd) → a.Pairwise (fun x y => rk x < rk y) → b.Pairwise (fun x y => rk x < rk y) → (∀ x, x ∈ a ↔ x ∈ b) → a = b
  | [], [], _, _, _, _, _ => rfl
  | [], y :: b, _, _, _, _, h => nomatch (h y).mpr (.head _)
  | x :: a, [], _, _, _, _, h => nomatch (h x).mp (.head _)
  | x :: a, y :: b, ha, hb, pa, pb, h => by
    have pa1 := fun z hz => List.rel_of_pairwise_cons pa (a' := z) hz
    have pb1 := fun z hz => List.rel_of_pairwise_cons pb (a' := z) hz
    have hxy : x = y := by
      rcases List.mem_cons.mp ((h x).mp (.head _)) with q | q
      · exact q
      · rcases List.mem_cons.mp ((h y).mpr (.head _)) with q2 | q2
        · exact q2.symm
        · have := pa1 y q2; have := pb1 x q; omega
    subst hxy
    congr 1
    refine same_list (fun z hz => ha z (.tail _ hz)) (fun z hz => hb z (.tail _ hz)) (List.pairwise_cons.mp pa).2 (List.pairwise_cons.mp pb).2 fun z => ⟨fun hz => ?_, fun hz => ?_⟩
    · rcases List.mem_cons.mp ((h z).mp (.tail _ hz)) with rfl | q
      · exact absurd (pa1 z hz) (Nat.lt_irrefl _)
      · exact q
    · rcases List.mem_cons.mp ((h z).mpr (.tail _ hz)) with rfl | q
      · exact absurd (pb1 z hz) (Nat.lt_irrefl _)
      · exact q
theorem abcd_pairs : abcd.Pairwise fun x y => rk x < rk y := by decide +kernel
open Classical in
theorem saidF_step {T : Ps} (hT : PsOk T) : ∀ (xs : List Str) (ps : Ps), (∀ x ∈ xs, x ∈ heads) → Inv (T.map toRule) ps → (∀ c ∈ FL ps, Der (T.map toRule) [] [] c) →
    (saidF T xs ps).1 = xs.map (fun x => decide (Der (T.map toRule) [] [] (low x))) ∧ (∀ c ∈ FL ps, c ∈ FL (saidF T xs ps).2) ∧ (∀ c ∈ FL (saidF T xs ps).2, Der (T.map toRule) [] [] c) ∧ (∀ x ∈ xs, Der (T.map toRule) [] [] (low x) → low x ∈ FL (saidF T xs ps).2) ∧ Inv (T.map toRule) (saidF T xs ps).2
  | [], ps, _, hi, hd => ⟨rfl, fun _ h => h, hd, (fun _ h => nomatch h), hi⟩
  | x :: xs, ps, hx, hi, hd => by
    rw [saidF_cons]
    have S := askF_step hT 4 x [] ps (hx x (.head _)) miss_nil hi
    generalize askF sidesOf T 4 x [] ps = r at S
    have same : ∀ c, Der (T.map toRule) [] (FL ps) c ↔ Der (T.map toRule) [] [] c := fun c => ⟨fun h => h.mono (fun _ q => q) hd, fun h => h.mono (fun _ q => q) fun _ q => absurd q List.not_mem_nil⟩
    obtain ⟨h1, h2, h3, h4, h5⟩ := saidF_step hT xs r.2 (fun y hy => hx y (.tail _ hy)) S.inv (fun c hc => (same c).mp (S.sound c hc))
    refine ⟨?_, fun c hc => h2 c (S.up c hc), h3, fun y hy hdy => ?_, h5⟩
    · show r.1 :: _ = _
      rw [h1, List.map_cons]
      congr 1
      rw [Bool.eq_iff_iff, decide_eq_true_iff, ← same]
      exact S.iff
    · rcases List.mem_cons.mp hy with rfl | hy
      · exact h2 _ (S.got (S.iff.mpr ((same _).mpr hdy)))
      · exact h4 y hy hdy
theorem AbCd_low : AbCd.map low = abcd := by decide +kernel
theorem AbCd_heads : ∀ x ∈ AbCd, x ∈ heads := fun x hx => by
  have : AbCd.all (fun x => heads.contains x) = true := by decide +kernel
  simpa using List.all_eq_true.mp this x hx
theorem inv_nil (R : List RuleD) : Inv R [] := ⟨rfl, .nil⟩
open Classical in
theorem plain (ns : List Int) : Plain ns := by
  have hT : PsOk (tableF (callsF ns)) := foldT_ok _ (fun _ h => nomatch h) (callsF_ok ns)
  have hR := rules_table ns
  generalize hTT : tableF (callsF ns) = T at *
  have hRa : ∀ r ∈ T.map toRule, r.1 ∈ abcd := fun r hr => by
    obtain ⟨p, hp, rfl⟩ := List.mem_map.mp hr
    exact low_abcd (hT p hp).1
  obtain ⟨h1, _, h3, h4, h5⟩ := saidF_step hT AbCd [] AbCd_heads (inv_nil _) (fun _ h => nomatch h)
  have hin : ∀ c, Der (T.map toRule) [] [] c → c ∈ abcd := fun c hc => by
    rcases hc.inv with h | ⟨_, r, hr, rfl, _⟩
    · cases h
    · exact hRa r hr
  refine ⟨?_, ?_, fun b hb => ?_⟩
  · rw [hTT, hR]; exact told_eq T
  · rw [hTT, hR, h1, ← AbCd_low, List.map_map]
    refine List.map_congr_left fun x hx => ?_
    have hx' : low x ∈ abcd := AbCd_low ▸ List.mem_map_of_mem hx
    rw [Bool.eq_iff_iff, decide_eq_true_iff, ← due_iff _ hRa hx']
    show _ ↔ (dueF _).contains (low x) = true
    rw [List.contains_iff_mem]
  · rw [hTT, hR, h5.1] at hb
    obtain ⟨l, hp, hs, rfl⟩ := hb
    have hl : ∀ x ∈ l, x ∈ abcd := fun x hx => hin x (h3 x (hp.mem_iff.mp hx))
    have hsub := due_sub (T.map toRule) (List.range 16) abcd
    have e : l = dueF (T.map toRule) := by
      refine same_list hl (fun x hx => hsub.subset hx) (sorted_pairs hl (hp.nodup_iff.mpr h5.2) hs) (List.Pairwise.sublist hsub abcd_pairs) fun x => ?_
      rw [hp.mem_iff]
      constructor
      · intro hx
        exact (due_iff _ hRa (hin x (h3 x hx))).mpr (h3 x hx)
      · intro hx
        have hxa := hsub.subset hx
        have hd := (due_iff _ hRa hxa).mp hx
        rw [← AbCd_low] at hxa
        obtain ⟨y, hy, rfl⟩ := List.mem_map.mp hxa
        exact h4 y hy hd
    rw [e, beq_self_eq_true]
end Mine
namespace Mine
local macro_rules | `(tactic| walk_at "eval ListComp") => `(tactic| refine halt ?_)
local macro_rules | `(tactic| walk_at "exec Assign cons ListComp") => `(tactic| refine halt ?_)
local macro_rules | `(tactic| walk_at "exec For") => `(tactic| refine halt ?_)
local macro_rules | `(tactic| walk_at "exec For Name Call cons nil") => `(tactic| refine halt ?_)
local macro_rules | `(tactic| walk_at "pyIter ref") => `(tactic| refine halt ?_)
local macro_rules | `(tactic| walk_at "pyIter str") => `(tactic| refine halt ?_)
local macro_rules | `(tactic| walk_at "compareOp Eq ref ref") => `(tactic| refine halt ?_)
local macro_rules | `(tactic| walk_at "compareOp NotEq ref ref") => `(tactic| refine halt ?_)
local macro_rules | `(tactic| walk_at "compareOp In str ref") => `(tactic| refine halt ?_)
local macro_rules | `(tactic| walk_at "compareOp NotIn str ref") => `(tactic| refine halt ?_)
local macro_rules | `(tactic| walk_at "call ref") => `(tactic| refine halt ?_)
local macro_rules | `(tactic| walk_at "call ref") => `(tactic| ((with_unfolding_all (refine conv_call (Stat.le (by assumption) (Fr.keep (by k_asm))) (Room.mono (by assumption) (by decide)) (by first | exact .inl ⟨rfl, by assumption⟩ | exact .inr ⟨rfl, by assumption⟩) ?_)); intro h' tk' hle'; walk_at "grown"))
local macro_rules | `(tactic| walk_at "grown") => `(tactic| ((rename Fr _ _ _ _ => kF); (rename News _ _ _ _ => kN); (rename Le _ _ => hle); k_dflt (replace kF := Fr.keeps kF hle; replace kN := News.grown kN hle; clear hle)))
local macro_rules | `(tactic| walk_at "call builtin:str.lower") => `(tactic| k_dflt (refine lower_call (by assumption) ?_))
local macro_rules | `(tactic| walk_at "call builtin:str.upper") => `(tactic| k_dflt (refine upper_call (by assumption) ?_))
local macro_rules | `(tactic| walk_at "setItem ref ref") => `(tactic| refine halt ?_)
local macro_rules | `(tactic| walk_at "eval Slice") => `(tactic| refine halt ?_)
local macro_rules | `(tactic| walk_at "delItem ref") => `(tactic| (k_dflt (refine' del_item ?F ?X ?I ?hQ ?hS ?hF ?_; (case F => k_asm); (case X => k_asm); (case I => k_inst); (case hS => k_is); (case hF => k_is); (case hQ => k_is))))
local macro_rules | `(tactic| walk_at "At") => `(tactic| exact ⟨_, _, _, rfl, by assumption, by assumption⟩)
local macro_rules | `(tactic| walk_at "StrVal") => `(tactic| exact ⟨_, rfl⟩)
local macro_rules | `(tactic| walk_at "eval Name") => `(tactic| ((with_reducible show wpAny _ _ (eval (Expr.Name _ _) (compEnvC _ _ _ _)) _ _ _); k_dflt (first
  | (refine' cn_local ?F ?v ?_ ?a ?b; (case F => k_asm); (case a => rfl); (case b => rfl); (case v => rfl); k_whole)
  | (refine' cn_cell ?F ?c ?v ?_ ?a ?b; (case a => rfl); (case b => rfl); (case F => k_asm); (case v => rfl); (case c => assumption); k_whole)
  | (refine' cn_global ?F ?X ?T ?e ?_ ?g ?a ?b; (case a => rfl); (case b => rfl); (case g => rfl); (case F => k_asm); (case X => k_asm); (case T => k_asm); (case e => k_is); k_whole))))
local macro_rules | `(tactic| walk_at "fn sides") => `(tactic| (
  (case o => k_dflt k_is)
  (case c => k_dflt k_is)
  (case b => first | exact BindsTo.of_eq rfl | exact binds_K (by assumption) rfl (by k_is) rfl rfl rfl)
  (case k => rfl)
  (case n => decide)
  (case hm => exact fun _ => rfl)
  (case c1 => rfl)
  (case c2 => rfl)
  (case c3 => rfl)))
local macro_rules | `(tactic| k_inst) => `(tactic| exact TableAt.inst (by k_asm) (by assumption))
local macro_rules | `(tactic| walk_at "subscriptTail Name Constant ref int") => `(tactic| (refine' tup_item ?F ?t ?a ?b ?c ?d ?_ ?e; (case F => k_asm); (case t => assumption); (case a => decide); (case b => decide); (case c => rfl); (case d => rfl); (case e => with_unfolding_all rfl)))
local macro_rules | `(tactic| k_all) => `(tactic| assumption)
set_option maxHeartbeats 8000000 in
theorem law_holds : PySem.Challenge.rw_pe0251_01.Holds := hd (by rfl) (by rfl) (by rfl) (by
  k_go0
  all_goals try k_fold
  k_steps
  rename Fr _ _ _ _ => F
  rename News _ _ _ _ => N
  rename Top _ _ _ _ _ _ => T
  rename Frag.In _ _ => X
  rename World => w
  rename Shared => s1
  rename List Int => ns
  rename IntsAre _ _ => hI
  rename Heap.IsList _ _ _ => hL
  have hlen : ns.length ≤ 63 := by
    rename (¬ _) => hq
    have := hq
    omega
  have fin : ∀ (h' : Heap) (tk : Tok) (m : Str → Option Value) (s' : Shared), s' = { s1 with heap := h', toks := tk } → Fr s1.heap s1.heap.objs.size h' m → qk (.ret (.bool true)) s' := by
    rintro h' tk m s' rfl F'
    clear F N
    have hg' : s1.gens = #[] := by assumption
    show GoodW _ _ _ _ _ _ _
    refine goodW_bool (by exact F') (by exact hg') ?_ ?_
    · exact fun _ => rfl
    · exact postW_of (by wrow_shape) (w_eq_bool (w_res rfl) w_lit) (by decide)
  have S : Stat w (ExcName.means _) _ _ s1.heap := ⟨by assumption, by assumption⟩
  have RR : ∀ env, Room (callerA.deeper env) 30 := fun env => ⟨rfl, by show 1 + claimMargin + 1 + 30 < recursionLimit; decide +kernel, by show 4 + 3 + 8 * 30 < cLine; decide +kernel⟩
  clear_value qk ek
  rename_i sa w0 q0 q1 q2 q3 q4 q5 q6 q7 q8 h₁ p0 o4 o3 o2 o1 d4 d3 d2 d1 p9
  clear q1 q2 q3 q4 q5 q6 q8 p9
  change Fr s1.heap s1.heap.objs.size h₁ (setAll [Str.ofString "script"] [.ref sa] fun _ => none) at F
  have P := plain ns
  have T := topRead_of S.t
  generalize s1.heap.objs.size = L at F N fin ⊢
  generalize hA' : callerA.deeper _ = A
  have R : Room A 30 := hA' ▸ RR _
  clear hA' RR
  have hA := R.hh
  have hU := R.un
  refine unhalt ?_
  refine calls_call (by exact S.le F.keep) (R.mono (by decide)) (isList_le F.keep hL) (by exact hI) (by omega) fun Dc h₂ tk₂ hle₂ hCalls => ?_
  replace F := F.keeps hle₂
  replace N := N.grown hle₂
  clear hle₂
  obtain ⟨sup, N₂, c1, c2, c3, c4, -, hcar⟩ := carry F N d1 d2 d3 d4
  clear N
  k_steps
  rename Fr _ _ _ _ => F₂
  rename News _ _ _ _ => N₃
  replace hCalls := hCalls.leS (hcar _ _ _ F₂ N₃ fun p hp => .tail _ (.tail _ (.tail _ (.tail _ hp)))).2
  clear hcar
  refine unhalt ?_
  refine rules_call (by exact S.le F₂.keep) (R.mono (by decide)) (by exact hCalls) (callsF_ok ns) fun Dr h₃ tk₃ hle₃ hRules => ?_
  replace F₂ := F₂.keeps hle₃
  replace N₃ := N₃.grown hle₃
  replace hCalls := hCalls.le hle₃
  clear hle₃ c1 c2 c3 c4
  obtain ⟨sup2, N₄, c1, c2, c3, c4, -, hcar⟩ := carry F₂ N₃ d1 d2 d3 d4
  clear N₃ sup
  k_steps
  rename Fr _ _ _ _ => F₃
  rename News _ _ _ _ => N₅
  rename Obj => o1'
  have d1' : o1'.data = .cell (some (.ref Dr)) := by assumption
  have hX := (hcar _ _ _ F₃ N₅ fun p hp => .tail _ (.tail _ (.tail _ (.tail _ hp)))).2
  replace hCalls := hCalls.leS hX
  replace hRules := hRules.leS hX
  clear hcar hX d1 o1
  refine unhalt ?_
  refine due_call (by exact S.le F₃.keep) (R.mono (by decide)) (by exact hRules) fun Dd h₄ tk₄ hle₄ _ hDue => ?_
  replace F₃ := F₃.keeps hle₄
  replace N₅ := N₅.grown hle₄
  replace hCalls := hCalls.le hle₄
  replace hRules := hRules.le hle₄
  clear hle₄ c1 c2 c3 c4
  obtain ⟨sup3, N₆, c1, c2, c3, c4, -, hcar⟩ := carry F₃ N₅ d1' d2 d3 d4
  clear N₅ sup2
  k_steps
  rename Fr _ _ _ _ => F₄
  rename News _ _ _ _ => N₇
  rename Obj => o2'
  have d2' : o2'.data = .cell (some (.ref Dd)) := by assumption
  have hX := (hcar _ _ _ F₄ N₇ fun p hp => .tail _ (.tail _ (.tail _ (.tail _ hp)))).2
  replace hCalls := hCalls.leS hX
  replace hRules := hRules.leS hX
  replace hDue := hDue.leS hX
  clear hcar hX d2 o2
  refine unhalt ?_
  refine table_call (by exact S.le F₄.keep) (R.mono (by decide)) (by exact hCalls) (callsF_ok ns) fun tx tdx tl thh ttk h₅ tk₅ hle₅ hxn hdn hTab hHdr => ?_
  have hxX := notin_X F₄ N₇ hxn
  have hdX := notin_X F₄ N₇ hdn
  replace F₄ := F₄.keeps hle₅
  replace N₇ := N₇.grown hle₅
  replace hRules := hRules.le hle₅
  replace hDue := hDue.le hle₅
  clear hle₅ c1 c2 c3 c4 hCalls hxn hdn
  obtain ⟨sup4, N₈, c1, c2, c3, c4, hmem, hcar⟩ := carry F₄ N₇ d1' d2' d3 d4
  have hsq : ∀ b o its n, h₅.get? b = some o → o.data = .seq its n → b ∉ [L, L + 1, L + 1 + 1, L + 1 + 1 + 1, L + 1 + 1 + 1 + 1] := fun b o its n e d => seq_notin F₄ N₈ d1' d2' d3 d4 e d
  have hR5 := hRules
  have hD5 := hDue
  have hT5 := hTab
  have hH5 := hHdr
  clear N₇ sup3
  k_steps
  rename Fr _ _ _ _ => F₅
  rename News _ _ _ _ => N₉
  rename Obj => o3'
  have d3' : o3'.data = .cell (some (.ref tx)) := by assumption
  refine unhalt ?_
  refine headers_call S (R.mono (by decide)) F₅ N₉ (.head _) fun fx fdx h₆ tk₆ fhh ftk F₆ N₁₀ hl1 hl2 => ?_
  rename_i lf g0 g1
  have g2 := ltN (hl1 _ (.head _))
  have g3 := ltN (hl1 _ (.tail _ (.head _)))
  dsimp only at g2 g3
  have hne : ∀ b o, b ∉ [L, L + 1, L + 1 + 1, L + 1 + 1 + 1, L + 1 + 1 + 1 + 1] → h₅.get? b = some o → b ≠ lf := fun b o hb e q => (hmem b o hb e).elim (fun z => by rw [q, (N₉ _ (.head _)).2.2] at z; cases z) (fun z => absurd q (Nat.ne_of_lt (allLt_memC g1.2.2.2.2 _ z)))
  have hlfb := (N₉ _ (.head _)).2.2
  have g4 : @LT.lt Nat _ (L + 1 + 1 + 1 + 1) lf := g1.1
  clear hl1 F₅ N₉ d3 o3
  k_steps
  rename Fr _ _ _ _ => F₇
  rename News _ _ _ _ => N₁₁
  rename Obj => o4'
  have d4' : o4'.data = .cell (some (.ref fx)) := by assumption
  have hX := hcar _ _ _ F₇ N₁₁ fun p hp => .tail _ (.tail _ (.tail _ (.tail _ (.tail _ (.tail _ (.tail _ hp))))))
  replace hRules := hRules.leS hX.2
  replace hDue := hDue.leS hX.2
  replace hTab := hTab.leX hX.1 hxX hdX
  replace hHdr := hHdr.leS hX.2
  clear hX d4 o4
  refine unhalt ?_
  have htc : Heap.IsCell _ (L + 1 + 1 + 1) (some (.ref tx)) := ⟨_, (N₁₁ _ (.tail _ (.tail _ (.tail _ (.tail _ (.head _)))))).1, d3'⟩
  have X₂ := X.keeps F₇.keep
  have T₂ := T.keeps F₇.keep
  have S₂ : Stat w (ExcName.means _) _ _ _ := S.le F₇.keep
  have hTok : PsOk (tableF (callsF ns)) := foldT_ok _ (fun _ h => nomatch h) (callsF_ok ns)
  refine comp_make (ds := [97, 98, 99, 100]) (R := SignVal) (g := fun c => getAll (tableF (callsF ns)) (up (st [c]))) rfl (by decide) rfl (by decide) ?_
  k_steps
  refine unhalt ?_
  refine ⟨_, _, _, iter_str hA, fun _ _ => trivial, signs_len abcd_signs, by rw [signs_len abcd_signs]; decide, fun i v h => sign_at abcd_signs h, ?_, ?_⟩
  · rintro v c C m₃ nx h₃ tk₃ E₃ hc ⟨t, rfl⟩ F₈ N₈
    have hch := abcd_sign_heads hc
    refine ca_name F₈ N₈ rfl rfl fun h₇ tk₇ F₉ N₉ => ?_
    clear F₈ N₈
    clear F₇ N₁₁
    k_steps
    refine unhalt ?_
    refine get_all_call (by exact S₂.le F₉.keep) (R.mono (by decide)) (by exact hTab.le F₉.keep) (by exact hHdr.le F₉.keep) (fun p hp => (hTok p hp).1) (up_mem hch) fun D ys h' tk' hle hD hn hys => ?_
    exact made_of F₉ N₉ hle hD hn hys (getAll_len ns _) rfl
  · intro M1 ys1 nx1 h₈ tk₈ hle₈ hM1 hM1s hnx1 hys1
    dsimp only at hle₈
    replace hRules := hRules.le hle₈
    replace hDue := hDue.le hle₈
    replace hTab := hTab.le hle₈
    replace hHdr := hHdr.le hle₈
    replace F₇ := F₇.keeps hle₈
    replace N₁₁ := N₁₁.grown hle₈
    have hv1 := hys1.mono fun _ _ q => sideIn_val (fun p hp => (hnx1 p hp).1) q
    clear hys1 hnx1 hM1s hle₈ S₂ T₂ X₂ htc
    have hrc : Heap.IsCell _ (L + 1) (some (.ref Dr)) := ⟨_, (N₁₁ _ (.tail _ (.tail _ (.tail _ (.tail _ (.tail _ (.tail _ (.head _)))))))).1, d1'⟩
    have X₂ := X.keeps F₇.keep
    have T₂ := T.keeps F₇.keep
    have S₂ : Stat w (ExcName.means _) _ _ _ := S.le F₇.keep
    k_steps
    refine unhalt ?_
    refine comp_make (ds := [97, 98, 99, 100]) (R := SignVal) (g := fun c => textsOf (rulesF (callsF ns)) (st [c])) rfl (by decide) rfl (by decide) ?_
    k_steps
    refine unhalt ?_
    refine ⟨_, _, _, iter_str hA, fun _ _ => trivial, signs_len abcd_signs, by rw [signs_len abcd_signs]; decide, fun i v h => sign_at abcd_signs h, ?_, ?_⟩
    · rintro v c C m₃ nx h₃ tk₃ E₃ hc ⟨t, rfl⟩ F₈ N₈
      refine ca_name F₈ N₈ rfl rfl fun h₇ tk₇ F₉ N₉ => ?_
      clear F₈ N₈
      clear F₇ N₁₁
      k_steps
      refine unhalt ?_
      refine texts_call (by exact S₂.le F₉.keep) (R.mono (by decide)) (by exact hRules.le F₉.keep) fun D ys h' tk' hle hD hn hys => ?_
      exact made_of F₉ N₉ hle hD hn hys (textsOf_len ns _) rfl
    · intro M2 ys2 nx2 h₉ tk₉ hle₉ hM2 hM2s hnx2 hys2
      dsimp only at hle₉ ⊢
      replace F₇ := F₇.keeps hle₉
      replace N₁₁ := N₁₁.grown hle₉
      have hM1' := hle₉ _ _ hM1
      replace hv1 := hv1.mono fun _ _ q => q.le hle₉
      have hv2 := hys2.mono fun _ _ q => sideIn_val (fun p hp => (hnx2 p hp).1) q
      clear hys2 hnx2 hM2s hle₉ S₂ T₂ X₂ hrc hRules hDue hTab hHdr hM1
      k_steps
      refine unhalt ?_
      refine ne_sides (by omega) (by show A.units + 1 < cLine; omega) (isList_lst hM1') (isList_lst hM2) hv1 hv2 ?_
      rw [told_signs ns P, beq_self_eq_true]
      clear hv1 hv2
      k_steps
      refine unhalt ?_
      obtain ⟨hX9, hS9⟩ := hcar _ _ _ F₇ N₁₁ (fun p hp => .tail _ (.tail _ (.tail _ (.tail _ (.tail _ (.tail _ (.tail _ hp)))))))
      have hlf9 : h₉.get? lf = some (W.listOf #[] 0) := (N₁₁ _ (.tail _ (.tail _ (.head _)))).1
      have hB : ∀ b o, b ≠ lf → h₉.get? b = some o → (hideAll h₉ [lf]).get? b = some o := fun b o n e => hideAll_get _ e (fun q => n (List.mem_singleton.mp q))
      have hSB : LeS h₅ (hideAll h₉ [lf]) := fun b o its n e d => hB b o (hne b o (hsq b o its n e d) e) (hS9 b o its n e d)
      have hSt : Stat w (ExcName.means _) _ _ (hideAll h₉ [lf]) := S.le (fun b o e => hB b o (fun q => by rw [q] at e; exact absurd (hlfb.symm.trans e) (by simp)) (F₇.keep b o e))
      have hTB : TableAt (hideAll h₉ [lf]) tx tdx tl thh ttk := ⟨hB _ _ (hne _ _ hxX hT5.1) (hX9 _ _ hxX hT5.1), hB _ _ (hne _ _ hdX hT5.2) (hX9 _ _ hdX hT5.2)⟩
      have hHB := hH5.leS hSB
      have hFB : TableAt (hideAll h₉ [lf]) fx fdx lf fhh ftk := ⟨hB _ _ (Nat.ne_of_gt (Nat.lt_trans g2 hl2)) (N₁₁ _ (.head _)).1, hB _ _ (Nat.ne_of_gt g2) (N₁₁ _ (.tail _ (.head _))).1⟩
      have htc : Heap.IsCell (hideAll h₉ [lf]) (L + 1 + 1 + 1) (some (.ref tx)) := ⟨_, hB _ _ (neN (by omega)) (N₁₁ _ (.tail _ (.tail _ (.tail _ (.tail _ (.head _)))))).1, d3'⟩
      have hfc : Heap.IsCell (hideAll h₉ [lf]) (L + 1 + 1 + 1 + 1) (some (.ref fx)) := ⟨_, hB _ _ (neN (by omega)) (N₁₁ _ (.tail _ (.tail _ (.tail _ (.head _))))).1, d4'⟩
      have hBl : (hideAll h₉ [lf]).get? lf = none := hideAll_none _ (.head _)
      have X₂ := hSt.k
      have T₂ := topRead_of hSt.t
      refine comp_assign rfl rfl (by decide) rfl (by decide) rfl rfl ?_
      refine Calls.Constant_str ?_
      refine ⟨_, _, _, SaidJ (tableF (callsF ns)) (hideAll h₉ [lf]) lf, [(lf, W.listOf #[] 0)], _, F₇.ns, (fun q => by have q' : L = lf := List.mem_singleton.mp q; omega), iter_str hA, (by rw [signs_len AbCd_signs]; decide), (fun p hp => by cases List.mem_singleton.mp hp; exact hlf9), ⟨[], [], ⟨[], 0, [], rfl, (fun _ h => nomatch h), .nil, ok_nil⟩, .nil, rfl, rfl⟩, (fun _ _ _ _ _ _ _ _ _ => trivial), ?_, ?_⟩
      · intro g' i v ys C I D m nx h tk oI E' hv hJ hyl F N hID off hcalm
        change Fr (hideAll h₉ [lf]) C h m at F
        change News (hideAll h₉ [lf]) C h _ at N
        obtain ⟨d, hdd, t, rfl⟩ := sign_at AbCd_signs hv
        obtain ⟨bs, qs, hPI, hbs, e1, e2⟩ := hJ
        have hdh := AbCd_sign_heads (List.mem_of_getElem? hdd)
        rw [drop_step (AbCd_at hdd), saidF_cons] at e1 e2
        obtain ⟨ol, hol⟩ := hPI.mem
        have hCl : @Ne Nat C lf := Ne.symm (N _ (.tail _ (.tail _ hol))).2.1
        have hIl : @Ne Nat I lf := Ne.symm (off _ hol).1
        have hDl : @Ne Nat lf D := (off _ hol).2
        refine ca_name F N rfl rfl fun h₇ tk₇ F₈ N₈ => ?_
        clear F N
        rw [List.forIn_nil]
        refine wpAny_pure ?_
        rw [if_pos rfl]
        clear F₇ N₁₁ hM1' hM2
        k_steps
        refine unhalt ?_
        rename Fr _ _ _ _ => F₉
        rename News _ _ _ _ => N₉
        rename_i cl9 hq9 l9
        have hlcl : @Ne Nat cl9 lf := Nat.ne_of_gt (allLt_memC l9.2.2 _ hol)
        have hin9 : ∀ p ∈ nx, p ∈ (cl9, W.listOf #[] 0) :: (I, oI) :: (D, LCg.lst ys) :: nx := fun p hp => .tail _ (.tail _ (.tail _ hp))
        refine ask_all hTok 4 hSt (by exact F₉.keep) hBl (R.mono (by decide)) hTB hHB (by exact hFB.le F₉.keep) (by exact hPI.hdrs F₉ N₉ hin9) hPI.ok hdh (by exact ⟨[], ⟨_, (N₉ _ (.head _)).1, rfl, _, rfl⟩, .nil, by decide⟩) hlcl (by decide) miss_nil fun h' tk' hle hP' hok' => ?_
        have F' := fr_leB F₉ hle hBl hCl
        obtain ⟨nx', hPI', N', hoff'⟩ := hdrs_split F' hP' hok' hBl (Ne.symm hCl)
        have hI' := hle _ _ hIl (N₉ _ (.tail _ (.head _))).1
        have hD' := hle _ _ (Ne.symm hDl) (N₉ _ (.tail _ (.tail _ (.head _)))).1
        have ho1 := hoff' I oI hI' hcalm
        have ho2 := pairs_offD hPI' N' hD' hDl
        exact ⟨h', tk', _, nx', rfl, F', (fun p hp => by
          rcases List.mem_cons.mp hp with rfl | hp
          · exact ⟨hI', (N₉ _ (.tail _ (.head _))).2⟩
          · rcases List.mem_cons.mp hp with rfl | hp
            · exact ⟨hD', (N₉ _ (.tail _ (.tail _ (.head _)))).2⟩
            · exact N' p hp), (fun p hp => ⟨ho1 p hp, ho2 p hp⟩), bs ++ [_], _, hPI', hbs.snoc (show BoolVal _ _ from rfl), by rw [List.append_assoc]; exact e1, e2⟩
      · rintro SD ys nx h tk hns hk hSD hsz hyl hnx ⟨bs, qs, hPI, hbs, e1, e2⟩
        rw [signs_len AbCd_signs] at e1 e2
        change bs ++ [] = _ at e1
        change qs = _ at e2
        rw [List.append_nil, P.said] at e1
        clear hyl hsz hM1' hM2
        change Heap.Ns h L _ at hns
        have hkL : ∀ b o, b ≠ L → (hideAll h₉ [lf]).get? b = some o → h.get? b = some o := hk
        have hnx' : ∀ p ∈ nx, h.get? p.1 = some p.2 := fun p hp => (hnx p hp).1
        clear hk hnx
        have hLS : LeS (hideAll h₉ [lf]) h := fun b o its n e d => hkL b o (fun q => dict_not_seq F₇.ns o its n (by rw [← q]; exact of_hideAll _ e) d) e
        have hR10 := (hR5.leS hSB).leS hLS
        have hD10 := (hD5.leS hSB).leS hLS
        have hq10 := pairs_hdrs hPI hLS hnx'
        have hqok := hPI.ok
        have F10 : Fr s1.heap L h _ := ⟨hns, fun b o e => hkL b o (Nat.ne_of_lt (Nat.lt_of_lt_of_le (Heap.lt_size e) F₇.above)) (hB b o (fun q => by rw [q] at e; exact absurd (hlfb.symm.trans e) (by simp)) (F₇.keep b o e)), F₇.above⟩
        have hup : ∀ p : Addr × Obj, @Ne Nat p.1 lf → p ∈ _ → h.get? p.1 = some p.2 ∧ p.1 ≠ L ∧ s1.heap.get? p.1 = none := fun p hn hp => ⟨hkL _ _ (N₁₁ p hp).2.1 (hB _ _ hn (N₁₁ p hp).1), (N₁₁ p hp).2⟩
        have N10 : News s1.heap L h [(fx, instObj 175 fdx), (fdx, dictOf [⟨fhh, .str (Str.ofString "_headers") ftk, .ref lf⟩] 1), (L + 1 + 1 + 1 + 1, o4'), (L + 1 + 1 + 1, o3'), (L + 1 + 1, o2'), (L + 1, o1')] := fun p hp => by
          simp only [List.mem_cons, List.not_mem_nil, or_false] at hp
          rcases hp with rfl | rfl | rfl | rfl | rfl | rfl
          · exact hup _ (neN (by omega)) (.head _)
          · exact hup _ (neN (by omega)) (.tail _ (.head _))
          · exact hup _ (neN (by omega)) (.tail _ (.tail _ (.tail _ (.head _))))
          · exact hup _ (neN (by omega)) (.tail _ (.tail _ (.tail _ (.tail _ (.head _)))))
          · exact hup _ (neN (by omega)) (.tail _ (.tail _ (.tail _ (.tail _ (.tail _ (.head _))))))
          · exact hup _ (neN (by omega)) (.tail _ (.tail _ (.tail _ (.tail _ (.tail _ (.tail _ (.head _)))))))
        clear hup hns hkL hLS hPI hnx' F₇ N₁₁ hSB hB hSt hTB hHB hFB htc hfc hBl X₂ T₂ hlf9 hX9 hS9 hR5 hD5 hT5 hH5 hcar hne hsq hmem
        k_steps
        refine unhalt ?_
        have hdc : Heap.IsCell h (L + 1 + 1) (some (.ref Dd)) := ⟨_, (N10 _ (.tail _ (.tail _ (.tail _ (.tail _ (.head _)))))).1, d2'⟩
        have X₂ := X.keeps F10.keep
        have T₂ := T.keeps F10.keep
        refine comp_pureI (α := Nat) (β := Bool) (ds := [97, 98, 99, 100]) (R := SignVal) (p := fun _ => true) (g := fun c => (dueF (rulesF (callsF ns))).contains (st [c])) (R' := BoolVal) rfl (by decide) rfl (by decide) ?_
        k_steps
        refine unhalt ?_
        refine ⟨_, _, _, iter_str hA, fun _ _ => trivial, signs_len abcd_signs, by rw [signs_len abcd_signs]; decide, fun i v h => sign_at abcd_signs h, ?_, ?_⟩
        · rintro v c C m₃ nx3 h₃ tk₃ E₃ hc ⟨t, rfl⟩ F₈ N₈
          refine ca_name F₈ N₈ rfl rfl fun h₇ tk₇ F₉ N₉ => ?_
          clear F₈ N₈
          clear F10 N10
          rw [List.forIn_nil]
          refine wpAny_pure ?_
          k_steps
          refine in_strs (hD10.le F₉.keep) ?_
          k_steps
          exact rfl
        · intro M3 ys3 nh nt hle₃ hM3 _ hys3
          dsimp only at hle₃ ⊢
          rw [List.filter_eq_self.mpr (fun _ _ => rfl)] at hys3
          replace F10 := F10.keeps hle₃
          replace N10 := N10.grown hle₃
          replace hR10 := hR10.le hle₃
          replace hD10 := hD10.le hle₃
          replace hq10 := hq10.le hle₃
          replace hSD := hle₃ _ _ hSD
          clear hle₃ hdc X₂ T₂
          k_steps
          refine unhalt ?_
          refine ne_bools (by omega) (isList_lst hSD) (isList_lst hM3) hbs hys3 ?_
          rw [e1, show ([97, 98, 99, 100].map fun c => (dueF (rulesF (callsF ns))).contains (st [c])) = abcd.map fun c => (dueF (rulesF (callsF ns))).contains c from rfl, beq_self_eq_true]
          clear hbs hys3 hSD hM3
          k_steps
          refine unhalt ?_
          refine items_call (by exact S.le F10.keep) (R.mono (by decide)) (by exact ⟨(N10 _ (.head _)).1, (N10 _ (.tail _ (.head _))).1⟩) (by exact hq10) fun Dq h₁₂ tk₁₂ hle₂ hq => ?_
          replace F10 := F10.keeps hle₂
          replace N10 := N10.grown hle₂
          replace hR10 := hR10.le hle₂
          replace hD10 := hD10.le hle₂
          clear hle₂ hq10
          k_steps
          refine unhalt ?_
          refine proof_call (by exact S.le F10.keep) (R.mono (by decide)) hq (Nat.lt_of_le_of_lt hqok.len (by decide)) hqok.heads hR10 hD10 fun b h₁₃ tk₁₃ hle₃ hres => ?_
          rw [e2] at hres
          have hb := P.proof b hres
          subst hb
          have F13 := F10.keeps hle₃
          clear F10 hle₃ hres
          exact fin _ _ _ _ rfl F13)
end Mine
theorem PySem.Challenge.cw_pe0251_01_holds : PySem.Challenge.rw_pe0251_01.Holds := by
  exact Mine.law_holds
