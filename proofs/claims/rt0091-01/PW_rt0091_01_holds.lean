import PyProof.Rows.All
import Wide.All
import OpenK.AllK
import Wide.FinOn
import PySem.Challenge.RW_rt0091_01
open PySem PySem.W PySem.Calls PyProof.Rows PySem.W.X
set_option Elab.async false
set_option maxRecDepth 100000
set_option maxHeartbeats 40000000
set_option linter.unusedVariables false
namespace Nine
namespace hd
open PySem.Spec
/-! ## the head: the text's top, statement by statement -/
noncomputable abbrev pw : Program := PySem.Challenge.rw_rt0091_01.row.prog
noncomputable def nth : List Stmt → Nat → Stmt
  | [], _ => .Pass ⟨0, 0, 0, 0⟩
  | s :: _, 0 => s
  | _ :: l, n + 1 => nth l n
noncomputable def st (k : Nat) : Stmt := nth pw.main.body k
noncomputable def fA : Stmt → Arguments
  | .FunctionDef _ a _ _ _ _ _ _ _ _ => a
  | _ => ⟨[], [], none, [], [], none, []⟩
noncomputable def fB : Stmt → List Stmt
  | .FunctionDef _ _ b _ _ _ _ _ _ _ => b
  | _ => []
noncomputable def fS : Stmt → Scope
  | .FunctionDef _ _ _ _ _ _ s _ _ _ => s
  | _ => pw.main.scope
noncomputable def cB : Stmt → List Stmt
  | .ClassDef _ _ _ b _ _ _ _ _ _ _ => b
  | _ => []
noncomputable def en (P : Params) (s : PySem.Str) (t : Tok) (v : Value) : DictEntry := ⟨PyData.keyHash P s, .str s t, v⟩
noncomputable def alt : List Obj → List Obj
  | [] => []
  | [a] => [a]
  | a :: _ :: l => a :: alt l
noncomputable def treeOf : Nat → List Obj → BT
  | 0, _ => .nil
  | _ + 1, [] => .nil
  | n + 1, o :: l => .node o (treeOf n (alt l)) (treeOf n (alt l.tail))
noncomputable def St (n k : Nat) (l : List Obj) (os : OsState) : SharedT := ⟨treeOf 12 l, n, {}, #[], {}, k, os⟩
noncomputable def pA1 : Arguments := (fun (g : Arguments) (_ : fA (st 1) = g) => g) _ (by conv => lhs; whnf)
noncomputable def pB1 : List Stmt := (fun (g : List Stmt) (_ : fB (st 1) = g) => g) _ (by conv => lhs; whnf)
noncomputable def pS1 : Scope := (fun (g : Scope) (_ : fS (st 1) = g) => g) _ (by conv => lhs; whnf)
noncomputable def pA3 : Arguments := (fun (g : Arguments) (_ : fA (st 3) = g) => g) _ (by conv => lhs; whnf)
noncomputable def pB3 : List Stmt := (fun (g : List Stmt) (_ : fB (st 3) = g) => g) _ (by conv => lhs; whnf)
noncomputable def pS3 : Scope := (fun (g : Scope) (_ : fS (st 3) = g) => g) _ (by conv => lhs; whnf)
noncomputable def pA5_0 : Arguments := (fun (g : Arguments) (_ : fA (nth (cB (st 5)) 0) = g) => g) _ (by conv => lhs; whnf)
noncomputable def pB5_0 : List Stmt := (fun (g : List Stmt) (_ : fB (nth (cB (st 5)) 0) = g) => g) _ (by conv => lhs; whnf)
noncomputable def pS5_0 : Scope := (fun (g : Scope) (_ : fS (nth (cB (st 5)) 0) = g) => g) _ (by conv => lhs; whnf)
noncomputable def pA7_0 : Arguments := (fun (g : Arguments) (_ : fA (nth (cB (st 7)) 0) = g) => g) _ (by conv => lhs; whnf)
noncomputable def pB7_0 : List Stmt := (fun (g : List Stmt) (_ : fB (nth (cB (st 7)) 0) = g) => g) _ (by conv => lhs; whnf)
noncomputable def pS7_0 : Scope := (fun (g : Scope) (_ : fS (nth (cB (st 7)) 0) = g) => g) _ (by conv => lhs; whnf)
noncomputable def pA7_1 : Arguments := (fun (g : Arguments) (_ : fA (nth (cB (st 7)) 1) = g) => g) _ (by conv => lhs; whnf)
noncomputable def pB7_1 : List Stmt := (fun (g : List Stmt) (_ : fB (nth (cB (st 7)) 1) = g) => g) _ (by conv => lhs; whnf)
noncomputable def pS7_1 : Scope := (fun (g : Scope) (_ : fS (nth (cB (st 7)) 1) = g) => g) _ (by conv => lhs; whnf)
noncomputable def pA7_2 : Arguments := (fun (g : Arguments) (_ : fA (nth (cB (st 7)) 2) = g) => g) _ (by conv => lhs; whnf)
noncomputable def pB7_2 : List Stmt := (fun (g : List Stmt) (_ : fB (nth (cB (st 7)) 2) = g) => g) _ (by conv => lhs; whnf)
noncomputable def pS7_2 : Scope := (fun (g : Scope) (_ : fS (nth (cB (st 7)) 2) = g) => g) _ (by conv => lhs; whnf)
noncomputable def pA8 : Arguments := (fun (g : Arguments) (_ : fA (st 8) = g) => g) _ (by conv => lhs; whnf)
noncomputable def pB8 : List Stmt := (fun (g : List Stmt) (_ : fB (st 8) = g) => g) _ (by conv => lhs; whnf)
noncomputable def pS8 : Scope := (fun (g : Scope) (_ : fS (st 8) = g) => g) _ (by conv => lhs; whnf)
noncomputable def pA10 : Arguments := (fun (g : Arguments) (_ : fA (st 10) = g) => g) _ (by conv => lhs; whnf)
noncomputable def pB10 : List Stmt := (fun (g : List Stmt) (_ : fB (st 10) = g) => g) _ (by conv => lhs; whnf)
noncomputable def pS10 : Scope := (fun (g : Scope) (_ : fS (st 10) = g) => g) _ (by conv => lhs; whnf)
noncomputable def pA12 : Arguments := (fun (g : Arguments) (_ : fA (st 12) = g) => g) _ (by conv => lhs; whnf)
noncomputable def pB12 : List Stmt := (fun (g : List Stmt) (_ : fB (st 12) = g) => g) _ (by conv => lhs; whnf)
noncomputable def pS12 : Scope := (fun (g : Scope) (_ : fS (st 12) = g) => g) _ (by conv => lhs; whnf)
noncomputable def pA14 : Arguments := (fun (g : Arguments) (_ : fA (st 14) = g) => g) _ (by conv => lhs; whnf)
noncomputable def pB14 : List Stmt := (fun (g : List Stmt) (_ : fB (st 14) = g) => g) _ (by conv => lhs; whnf)
noncomputable def pS14 : Scope := (fun (g : Scope) (_ : fS (st 14) = g) => g) _ (by conv => lhs; whnf)
noncomputable def pA15 : Arguments := (fun (g : Arguments) (_ : fA (st 15) = g) => g) _ (by conv => lhs; whnf)
noncomputable def pB15 : List Stmt := (fun (g : List Stmt) (_ : fB (st 15) = g) => g) _ (by conv => lhs; whnf)
noncomputable def pS15 : Scope := (fun (g : Scope) (_ : fS (st 15) = g) => g) _ (by conv => lhs; whnf)
noncomputable def pA16 : Arguments := (fun (g : Arguments) (_ : fA (st 16) = g) => g) _ (by conv => lhs; whnf)
noncomputable def pB16 : List Stmt := (fun (g : List Stmt) (_ : fB (st 16) = g) => g) _ (by conv => lhs; whnf)
noncomputable def pS16 : Scope := (fun (g : Scope) (_ : fS (st 16) = g) => g) _ (by conv => lhs; whnf)
noncomputable def pA17 : Arguments := (fun (g : Arguments) (_ : fA (st 17) = g) => g) _ (by conv => lhs; whnf)
noncomputable def pB17 : List Stmt := (fun (g : List Stmt) (_ : fB (st 17) = g) => g) _ (by conv => lhs; whnf)
noncomputable def pS17 : Scope := (fun (g : Scope) (_ : fS (st 17) = g) => g) _ (by conv => lhs; whnf)
noncomputable def pA31 : Arguments := (fun (g : Arguments) (_ : fA (st 31) = g) => g) _ (by conv => lhs; whnf)
noncomputable def pB31 : List Stmt := (fun (g : List Stmt) (_ : fB (st 31) = g) => g) _ (by conv => lhs; whnf)
noncomputable def pS31 : Scope := (fun (g : Scope) (_ : fS (st 31) = g) => g) _ (by conv => lhs; whnf)
noncomputable def pA32 : Arguments := (fun (g : Arguments) (_ : fA (st 32) = g) => g) _ (by conv => lhs; whnf)
noncomputable def pB32 : List Stmt := (fun (g : List Stmt) (_ : fB (st 32) = g) => g) _ (by conv => lhs; whnf)
noncomputable def pS32 : Scope := (fun (g : Scope) (_ : fS (st 32) = g) => g) _ (by conv => lhs; whnf)
noncomputable def pA36 : Arguments := (fun (g : Arguments) (_ : fA (st 36) = g) => g) _ (by conv => lhs; whnf)
noncomputable def pB36 : List Stmt := (fun (g : List Stmt) (_ : fB (st 36) = g) => g) _ (by conv => lhs; whnf)
noncomputable def pS36 : Scope := (fun (g : Scope) (_ : fS (st 36) = g) => g) _ (by conv => lhs; whnf)
noncomputable def pA39 : Arguments := (fun (g : Arguments) (_ : fA (st 39) = g) => g) _ (by conv => lhs; whnf)
noncomputable def pB39 : List Stmt := (fun (g : List Stmt) (_ : fB (st 39) = g) => g) _ (by conv => lhs; whnf)
noncomputable def pS39 : Scope := (fun (g : Scope) (_ : fS (st 39) = g) => g) _ (by conv => lhs; whnf)
noncomputable def pA42 : Arguments := (fun (g : Arguments) (_ : fA (st 42) = g) => g) _ (by conv => lhs; whnf)
noncomputable def pB42 : List Stmt := (fun (g : List Stmt) (_ : fB (st 42) = g) => g) _ (by conv => lhs; whnf)
noncomputable def pS42 : Scope := (fun (g : Scope) (_ : fS (st 42) = g) => g) _ (by conv => lhs; whnf)
noncomputable def pA44 : Arguments := (fun (g : Arguments) (_ : fA (st 44) = g) => g) _ (by conv => lhs; whnf)
noncomputable def pB44 : List Stmt := (fun (g : List Stmt) (_ : fB (st 44) = g) => g) _ (by conv => lhs; whnf)
noncomputable def pS44 : Scope := (fun (g : Scope) (_ : fS (st 44) = g) => g) _ (by conv => lhs; whnf)
noncomputable def pA45 : Arguments := (fun (g : Arguments) (_ : fA (st 45) = g) => g) _ (by conv => lhs; whnf)
noncomputable def pB45 : List Stmt := (fun (g : List Stmt) (_ : fB (st 45) = g) => g) _ (by conv => lhs; whnf)
noncomputable def pS45 : Scope := (fun (g : Scope) (_ : fS (st 45) = g) => g) _ (by conv => lhs; whnf)
noncomputable def pA47 : Arguments := (fun (g : Arguments) (_ : fA (st 47) = g) => g) _ (by conv => lhs; whnf)
noncomputable def pB47 : List Stmt := (fun (g : List Stmt) (_ : fB (st 47) = g) => g) _ (by conv => lhs; whnf)
noncomputable def pS47 : Scope := (fun (g : Scope) (_ : fS (st 47) = g) => g) _ (by conv => lhs; whnf)
noncomputable def pA48 : Arguments := (fun (g : Arguments) (_ : fA (st 48) = g) => g) _ (by conv => lhs; whnf)
noncomputable def pB48 : List Stmt := (fun (g : List Stmt) (_ : fB (st 48) = g) => g) _ (by conv => lhs; whnf)
noncomputable def pS48 : Scope := (fun (g : Scope) (_ : fS (st 48) = g) => g) _ (by conv => lhs; whnf)
noncomputable def pA49 : Arguments := (fun (g : Arguments) (_ : fA (st 49) = g) => g) _ (by conv => lhs; whnf)
noncomputable def pB49 : List Stmt := (fun (g : List Stmt) (_ : fB (st 49) = g) => g) _ (by conv => lhs; whnf)
noncomputable def pS49 : Scope := (fun (g : Scope) (_ : fS (st 49) = g) => g) _ (by conv => lhs; whnf)
noncomputable def pA50 : Arguments := (fun (g : Arguments) (_ : fA (st 50) = g) => g) _ (by conv => lhs; whnf)
noncomputable def pB50 : List Stmt := (fun (g : List Stmt) (_ : fB (st 50) = g) => g) _ (by conv => lhs; whnf)
noncomputable def pS50 : Scope := (fun (g : Scope) (_ : fS (st 50) = g) => g) _ (by conv => lhs; whnf)
noncomputable def pA51 : Arguments := (fun (g : Arguments) (_ : fA (st 51) = g) => g) _ (by conv => lhs; whnf)
noncomputable def pB51 : List Stmt := (fun (g : List Stmt) (_ : fB (st 51) = g) => g) _ (by conv => lhs; whnf)
noncomputable def pS51 : Scope := (fun (g : Scope) (_ : fS (st 51) = g) => g) _ (by conv => lhs; whnf)
noncomputable def x0_E (P : Params) : Obj := ⟨.type "dict", none, .dict #[en P (Str.ofString "__name__") 1 (.str (Str.ofString "builtins") 160), en P (Str.ofString "__doc__") 2 (.builtin "builtins.__doc__:str#opaque"), en P (Str.ofString "__package__") 3 (.builtin "builtins.__package__:str#opaque"), en P (Str.ofString "__loader__") 4 (.builtin "builtins.__loader__:shared#opaque"), en P (Str.ofString "__spec__") 5 (.builtin "builtins.__spec__#opaque"), en P (Str.ofString "__build_class__") 6 (.builtin "__build_class__"), en P (Str.ofString "__import__") 7 (.builtin "__import__"), en P (Str.ofString "abs") 8 (.builtin "abs"), en P (Str.ofString "all") 9 (.builtin "all"), en P (Str.ofString "any") 10 (.builtin "any"), en P (Str.ofString "ascii") 11 (.builtin "ascii"), en P (Str.ofString "bin") 12 (.builtin "bin"), en P (Str.ofString "breakpoint") 13 (.builtin "breakpoint"), en P (Str.ofString "callable") 14 (.builtin "callable"), en P (Str.ofString "chr") 15 (.builtin "chr"), en P (Str.ofString "compile") 16 (.builtin "compile"), en P (Str.ofString "delattr") 17 (.builtin "delattr"), en P (Str.ofString "dir") 18 (.builtin "dir"), en P (Str.ofString "divmod") 19 (.builtin "divmod"), en P (Str.ofString "eval") 20 (.builtin "eval"), en P (Str.ofString "exec") 21 (.builtin "exec"), en P (Str.ofString "format") 22 (.builtin "format"), en P (Str.ofString "getattr") 23 (.builtin "getattr"), en P (Str.ofString "globals") 24 (.builtin "globals"), en P (Str.ofString "hasattr") 25 (.builtin "hasattr"), en P (Str.ofString "hash") 26 (.builtin "hash"), en P (Str.ofString "hex") 27 (.builtin "hex"), en P (Str.ofString "id") 28 (.builtin "id"), en P (Str.ofString "input") 29 (.builtin "input"), en P (Str.ofString "isinstance") 30 (.builtin "isinstance"), en P (Str.ofString "issubclass") 31 (.builtin "issubclass"), en P (Str.ofString "iter") 32 (.builtin "iter"), en P (Str.ofString "aiter") 33 (.builtin "aiter"), en P (Str.ofString "len") 34 (.builtin "len"), en P (Str.ofString "locals") 35 (.builtin "locals"), en P (Str.ofString "max") 36 (.builtin "max"), en P (Str.ofString "min") 37 (.builtin "min"), en P (Str.ofString "next") 38 (.builtin "next"), en P (Str.ofString "anext") 39 (.builtin "anext"), en P (Str.ofString "oct") 40 (.builtin "oct"), en P (Str.ofString "ord") 41 (.builtin "ord"), en P (Str.ofString "pow") 42 (.builtin "pow"), en P (Str.ofString "print") 43 (.builtin "print"), en P (Str.ofString "repr") 44 (.builtin "repr"), en P (Str.ofString "round") 45 (.builtin "round"), en P (Str.ofString "setattr") 46 (.builtin "setattr"), en P (Str.ofString "sorted") 47 (.builtin "sorted"), en P (Str.ofString "sum") 48 (.builtin "sum"), en P (Str.ofString "vars") 49 (.builtin "vars"), en P (Str.ofString "None") 50 (.none), en P (Str.ofString "Ellipsis") 51 (.ellipsis), en P (Str.ofString "NotImplemented") 52 (.notImplemented), en P (Str.ofString "False") 53 (.bool false), en P (Str.ofString "True") 54 (.bool true), en P (Str.ofString "bool") 55 (.type "bool"), en P (Str.ofString "memoryview") 56 (.type "memoryview"), en P (Str.ofString "bytearray") 57 (.type "bytearray"), en P (Str.ofString "bytes") 58 (.type "bytes"), en P (Str.ofString "classmethod") 59 (.type "classmethod"), en P (Str.ofString "complex") 60 (.type "complex"), en P (Str.ofString "dict") 61 (.type "dict"), en P (Str.ofString "enumerate") 62 (.type "enumerate"), en P (Str.ofString "filter") 63 (.type "filter"), en P (Str.ofString "float") 64 (.type "float"), en P (Str.ofString "frozenset") 65 (.type "frozenset"), en P (Str.ofString "property") 66 (.type "property"), en P (Str.ofString "int") 67 (.type "int"), en P (Str.ofString "list") 68 (.type "list"), en P (Str.ofString "map") 69 (.type "map"), en P (Str.ofString "object") 70 (.type "object"), en P (Str.ofString "range") 71 (.type "range"), en P (Str.ofString "reversed") 72 (.type "reversed"), en P (Str.ofString "set") 73 (.type "set"), en P (Str.ofString "slice") 74 (.type "slice"), en P (Str.ofString "staticmethod") 75 (.type "staticmethod"), en P (Str.ofString "str") 76 (.type "str"), en P (Str.ofString "super") 77 (.type "super"), en P (Str.ofString "tuple") 78 (.type "tuple"), en P (Str.ofString "type") 79 (.type "type"), en P (Str.ofString "zip") 80 (.type "zip"), en P (Str.ofString "__debug__") 81 (.bool true), en P (Str.ofString "BaseException") 82 (.type "BaseException"), en P (Str.ofString "BaseExceptionGroup") 83 (.type "BaseExceptionGroup"), en P (Str.ofString "Exception") 84 (.type "Exception"), en P (Str.ofString "GeneratorExit") 85 (.type "GeneratorExit"), en P (Str.ofString "KeyboardInterrupt") 86 (.type "KeyboardInterrupt"), en P (Str.ofString "SystemExit") 87 (.type "SystemExit"), en P (Str.ofString "ArithmeticError") 88 (.type "ArithmeticError"), en P (Str.ofString "AssertionError") 89 (.type "AssertionError"), en P (Str.ofString "AttributeError") 90 (.type "AttributeError"), en P (Str.ofString "BufferError") 91 (.type "BufferError"), en P (Str.ofString "EOFError") 92 (.type "EOFError"), en P (Str.ofString "ImportError") 93 (.type "ImportError"), en P (Str.ofString "LookupError") 94 (.type "LookupError"), en P (Str.ofString "MemoryError") 95 (.type "MemoryError"), en P (Str.ofString "NameError") 96 (.type "NameError"), en P (Str.ofString "OSError") 97 (.type "OSError"), en P (Str.ofString "ReferenceError") 98 (.type "ReferenceError"), en P (Str.ofString "RuntimeError") 99 (.type "RuntimeError"), en P (Str.ofString "StopAsyncIteration") 100 (.type "StopAsyncIteration"), en P (Str.ofString "StopIteration") 101 (.type "StopIteration"), en P (Str.ofString "SyntaxError") 102 (.type "SyntaxError"), en P (Str.ofString "SystemError") 103 (.type "SystemError"), en P (Str.ofString "TypeError") 104 (.type "TypeError"), en P (Str.ofString "ValueError") 105 (.type "ValueError"), en P (Str.ofString "Warning") 106 (.type "Warning"), en P (Str.ofString "FloatingPointError") 107 (.type "FloatingPointError"), en P (Str.ofString "OverflowError") 108 (.type "OverflowError"), en P (Str.ofString "ZeroDivisionError") 109 (.type "ZeroDivisionError"), en P (Str.ofString "BytesWarning") 110 (.type "BytesWarning"), en P (Str.ofString "DeprecationWarning") 111 (.type "DeprecationWarning"), en P (Str.ofString "EncodingWarning") 112 (.type "EncodingWarning"), en P (Str.ofString "FutureWarning") 113 (.type "FutureWarning"), en P (Str.ofString "ImportWarning") 114 (.type "ImportWarning"), en P (Str.ofString "PendingDeprecationWarning") 115 (.type "PendingDeprecationWarning"), en P (Str.ofString "ResourceWarning") 116 (.type "ResourceWarning"), en P (Str.ofString "RuntimeWarning") 117 (.type "RuntimeWarning"), en P (Str.ofString "SyntaxWarning") 118 (.type "SyntaxWarning"), en P (Str.ofString "UnicodeWarning") 119 (.type "UnicodeWarning"), en P (Str.ofString "UserWarning") 120 (.type "UserWarning"), en P (Str.ofString "BlockingIOError") 121 (.type "BlockingIOError"), en P (Str.ofString "ChildProcessError") 122 (.type "ChildProcessError"), en P (Str.ofString "ConnectionError") 123 (.type "ConnectionError"), en P (Str.ofString "FileExistsError") 124 (.type "FileExistsError"), en P (Str.ofString "FileNotFoundError") 125 (.type "FileNotFoundError"), en P (Str.ofString "InterruptedError") 126 (.type "InterruptedError"), en P (Str.ofString "IsADirectoryError") 127 (.type "IsADirectoryError"), en P (Str.ofString "NotADirectoryError") 128 (.type "NotADirectoryError"), en P (Str.ofString "PermissionError") 129 (.type "PermissionError"), en P (Str.ofString "ProcessLookupError") 130 (.type "ProcessLookupError"), en P (Str.ofString "TimeoutError") 131 (.type "TimeoutError"), en P (Str.ofString "IndentationError") 132 (.type "IndentationError"), en P (Str.ofString "_IncompleteInputError") 133 (.type "_IncompleteInputError"), en P (Str.ofString "IndexError") 134 (.type "IndexError"), en P (Str.ofString "KeyError") 135 (.type "KeyError"), en P (Str.ofString "ModuleNotFoundError") 136 (.type "ModuleNotFoundError"), en P (Str.ofString "NotImplementedError") 137 (.type "NotImplementedError"), en P (Str.ofString "PythonFinalizationError") 138 (.type "PythonFinalizationError"), en P (Str.ofString "RecursionError") 139 (.type "RecursionError"), en P (Str.ofString "UnboundLocalError") 140 (.type "UnboundLocalError"), en P (Str.ofString "UnicodeError") 141 (.type "UnicodeError"), en P (Str.ofString "BrokenPipeError") 142 (.type "BrokenPipeError"), en P (Str.ofString "ConnectionAbortedError") 143 (.type "ConnectionAbortedError"), en P (Str.ofString "ConnectionRefusedError") 144 (.type "ConnectionRefusedError"), en P (Str.ofString "ConnectionResetError") 145 (.type "ConnectionResetError"), en P (Str.ofString "TabError") 146 (.type "TabError"), en P (Str.ofString "UnicodeDecodeError") 147 (.type "UnicodeDecodeError"), en P (Str.ofString "UnicodeEncodeError") 148 (.type "UnicodeEncodeError"), en P (Str.ofString "UnicodeTranslateError") 149 (.type "UnicodeTranslateError"), en P (Str.ofString "ExceptionGroup") 150 (.type "ExceptionGroup"), en P (Str.ofString "EnvironmentError") 151 (.type "OSError"), en P (Str.ofString "IOError") 152 (.type "OSError"), en P (Str.ofString "open") 153 (.builtin "open"), en P (Str.ofString "quit") 154 (.builtin "builtins.quit#opaque"), en P (Str.ofString "exit") 155 (.builtin "builtins.exit#opaque"), en P (Str.ofString "copyright") 156 (.builtin "builtins.copyright#opaque"), en P (Str.ofString "credits") 157 (.builtin "builtins.credits#opaque"), en P (Str.ofString "license") 158 (.builtin "builtins.license#opaque"), en P (Str.ofString "help") 159 (.builtin "builtins.help#opaque")] 159, #[]⟩
noncomputable def x1_E (P : Params) : Obj := ⟨.type "dict", none, .dict #[en P (Str.ofString "builtins") 162 (.ref 4), en P (Str.ofString "__main__") 163 (.ref 5), en P (Str.ofString "_sre") 244 (.ref 12)] 3, #[]⟩
noncomputable def x2_E (P : Params) : Obj := ⟨.none, none, .dict #[en P (Str.ofString "imp\x6frt.loaded._sre") 183 (.bool true), en P (Str.ofString "class._frozen_importlib.BuiltinImporter") 185 (.ref 14), en P (Str.ofString "watched.imp\x6frt") 206 (.ref 18), en P (Str.ofString "class._frozen_importlib.ModuleSpec") 216 (.ref 22), en P (Str.ofString "sys.modules.booked-epoch") 245 (.int 3 0), en P (Str.ofString "imp\x6frt.later-laid._sre") 270 (.bool true), en P (Str.ofString "watched.library") 272 (.ref 27), en P (Str.ofString "watched.library-objects") 0 (.str (Str.ofString "\x0c") 0), en P (Str.ofString "watched.library-deep._sre") 273 (.str (⟨#[4, 0, 0, 11, 4, 0, 0, 11, 4, 0, 0, 3, 4, 0, 0, 11, 8, 4, 100, 105, 99, 116, 2]⟩) 0)] 9, #[]⟩
noncomputable def x3_E (P : Params) : Obj := ⟨.type "dict", none, .dict #[en P (Str.ofString "__name__") 165 (.str (Str.ofString "__main__") 164), en P (Str.ofString "__doc__") 166 (.none), en P (Str.ofString "__package__") 167 (.none), en P (Str.ofString "__loader__") 168 (.builtin "__main__.__loader__#opaque"), en P (Str.ofString "__spec__") 169 (.none), en P (Str.ofString "__annotations__") 170 (.ref 6), en P (Str.ofString "__builtins__") 171 (.ref 4), en P (Str.ofString "__file__") 173 (.str (Str.ofString "/claim/cut.py") 172), en P (Str.ofString "__cached__") 174 (.none), en P (Str.ofString "_sre") 275 (.ref 12)] 10, #[]⟩
noncomputable def x4_E (P : Params) : Obj := ⟨.type "module", (some 0), .plain, #[]⟩
noncomputable def x5_E (P : Params) : Obj := ⟨.type "module", (some 3), .plain, #[]⟩
noncomputable def x6_E (P : Params) : Obj := ⟨.type "dict", none, .dict #[] 0, #[]⟩
noncomputable def x7_E (P : Params) : Obj := ⟨.type "tuple", none, .seq #[] 0, #[]⟩
noncomputable def x8_E (P : Params) : Obj := ⟨.none, none, .fields #[], #[]⟩
noncomputable def x9_E (P : Params) : Obj := ⟨.type "code", none, .fields #[.str (Str.ofString "<module>") 176, .str (Str.ofString "<module>") 177, .str (Str.ofString "/claim/cut.py") 178, .int 1 0, .int 0 0, .int 0 0, .int 0 0, .int 0 0, .ref 7, .bool false, .int 175 0, .ref 8, .none, .none, .none, .none, .int 179 0, .int 1 0, .str (Str.ofString "/claim/cut.py") 180], #[]⟩
noncomputable def x10_E (P : Params) : Obj := ⟨.type "frame", none, .plain, #[some (.ref 9), some (.ref 3), some (.ref 3), none, some (.str (Str.ofString "__main__") 164), none, some (.ref 0)]⟩
noncomputable def x11_E (P : Params) : Obj := ⟨.type "dict", none, .dict #[en P (Str.ofString "__name__") 247 (.str (Str.ofString "_sre") 246), en P (Str.ofString "__doc__") 248 (.none), en P (Str.ofString "__package__") 250 (.str (Str.ofString "") 249), en P (Str.ofString "__loader__") 251 (.ref 14), en P (Str.ofString "__spec__") 252 (.ref 26), en P (Str.ofString "compile") 253 (.builtin "_sre.compile"), en P (Str.ofString "template") 254 (.builtin "_sre.template"), en P (Str.ofString "getcodesize") 255 (.builtin "_sre.getcodesize"), en P (Str.ofString "ascii_iscased") 256 (.builtin "_sre.ascii_iscased"), en P (Str.ofString "unicode_iscased") 257 (.builtin "_sre.unicode_iscased"), en P (Str.ofString "ascii_tolower") 258 (.builtin "_sre.ascii_tolower"), en P (Str.ofString "unicode_tolower") 259 (.builtin "_sre.unicode_tolower"), en P (Str.ofString "MAGIC") 261 (.int 20230612 260), en P (Str.ofString "CODESIZE") 263 (.int 4 262), en P (Str.ofString "MAXREPEAT") 265 (.int 4294967295 264), en P (Str.ofString "MAXGROUPS") 267 (.int 1073741823 266), en P (Str.ofString "copyright") 269 (.str (Str.ofString " SRE 2.2.2 Copyright (c) 1997-2002 by Secret Labs AB ") 268)] 17, #[]⟩
noncomputable def x12_E (P : Params) : Obj := ⟨.type "module", (some 11), .plain, #[]⟩
noncomputable def x13_E (P : Params) : Obj := ⟨.type "dict", none, .dict #[en P (Str.ofString "__module__") 189 (.str (Str.ofString "_frozen_importlib") 186), en P (Str.ofString "__firstlineno__") 190 (.int 971 187), en P (Str.ofString "__doc__") 191 (.builtin "_frozen_importlib.BuiltinImporter.__doc__:str#opaque"), en P (Str.ofString "_ORIGIN") 192 (.str (Str.ofString "built-in") 188), en P (Str.ofString "find_spec") 193 (.builtin "_frozen_importlib.BuiltinImporter.find_spec#opaque"), en P (Str.ofString "create_module") 194 (.builtin "_frozen_importlib.BuiltinImporter.create_module#opaque"), en P (Str.ofString "exec_module") 195 (.builtin "_frozen_importlib.BuiltinImporter.exec_module#opaque"), en P (Str.ofString "get_code") 196 (.builtin "_frozen_importlib.BuiltinImporter.get_code#opaque"), en P (Str.ofString "get_source") 197 (.builtin "_frozen_importlib.BuiltinImporter.get_source#opaque"), en P (Str.ofString "is_package") 198 (.builtin "_frozen_importlib.BuiltinImporter.is_package#opaque"), en P (Str.ofString "load_module") 199 (.builtin "_frozen_importlib.BuiltinImporter.load_module#opaque"), en P (Str.ofString "__static_attributes__") 200 (.ref 15), en P (Str.ofString "__dict__") 202 (.ref 16), en P (Str.ofString "__weakref__") 204 (.ref 17)] 14, #[]⟩
noncomputable def x14_E (P : Params) : Obj := ⟨.type "type", none, .cls { name := Str.ofString "BuiltinImporter", bases := [.type "object"], mro := [.ref 14, .type "object"], ns := 13, qualname := Str.ofString "BuiltinImporter", hasDict := true, slotNames := [], subclasses := [], abstract := false, collection := none, hasDel := false }, #[]⟩
noncomputable def x16_E (P : Params) : Obj := ⟨.type "getset_descriptor", none, .fields #[.str (Str.ofString "__dict__") 201, .ref 14, .builtin "function.__dict__", .builtin "function.__dict__#set"], #[]⟩
noncomputable def x17_E (P : Params) : Obj := ⟨.type "getset_descriptor", none, .fields #[.str (Str.ofString "__weakref__") 203, .ref 14, .builtin "ExceptionGroup.__weakref__", .none], #[]⟩
noncomputable def x18_E (P : Params) : Obj := ⟨.none, none, .seq #[.int 13 0, .str (⟨#[6, 189, 10, 95, 95, 109, 111, 100, 117, 108, 101, 95, 95, 6, 186, 17, 95, 102, 114, 111, 122, 101, 110, 95, 105, 109, 112, 111, 114, 116, 108, 105, 98, 6, 190, 15, 95, 95, 102, 105, 114, 115, 116, 108, 105, 110, 101, 110, 111, 95, 95, 4, 187, 0, 971, 6, 191, 7, 95, 95, 100, 111, 99, 95, 95, 9, 52, 95, 102, 114, 111, 122, 101, 110, 95, 105, 109, 112, 111, 114, 116, 108, 105, 98, 46, 66, 117, 105, 108, 116, 105, 110, 73, 109, 112, 111, 114, 116, 101, 114, 46, 95, 95, 100, 111, 99, 95, 95, 58, 115, 116, 114, 35, 111, 112, 97, 113, 117, 101, 6, 192, 7, 95, 79, 82, 73, 71, 73, 78, 6, 188, 8, 98, 117, 105, 108, 116, 45, 105, 110, 6, 193, 9, 102, 105, 110, 100, 95, 115, 112, 101, 99, 9, 50, 95, 102, 114, 111, 122, 101, 110, 95, 105, 109, 112, 111, 114, 116, 108, 105, 98, 46, 66, 117, 105, 108, 116, 105, 110, 73, 109, 112, 111, 114, 116, 101, 114, 46, 102, 105, 110, 100, 95, 115, 112, 101, 99, 35, 111, 112, 97, 113, 117, 101, 6, 194, 13, 99, 114, 101, 97, 116, 101, 95, 109, 111, 100, 117, 108, 101, 9, 54, 95, 102, 114, 111, 122, 101, 110, 95, 105, 109, 112, 111, 114, 116, 108, 105, 98, 46, 66, 117, 105, 108, 116, 105, 110, 73, 109, 112, 111, 114, 116, 101, 114, 46, 99, 114, 101, 97, 116, 101, 95, 109, 111, 100, 117, 108, 101, 35, 111, 112, 97, 113, 117, 101, 6, 195, 11, 101, 120, 101, 99, 95, 109, 111, 100, 117, 108, 101, 9, 52, 95, 102, 114, 111, 122, 101, 110, 95, 105, 109, 112, 111, 114, 116, 108, 105, 98, 46, 66, 117, 105, 108, 116, 105, 110, 73, 109, 112, 111, 114, 116, 101, 114, 46, 101, 120, 101, 99, 95, 109, 111, 100, 117, 108, 101, 35, 111, 112, 97, 113, 117, 101, 6, 196, 8, 103, 101, 116, 95, 99, 111, 100, 101, 9, 49, 95, 102, 114, 111, 122, 101, 110, 95, 105, 109, 112, 111, 114, 116, 108, 105, 98, 46, 66, 117, 105, 108, 116, 105, 110, 73, 109, 112, 111, 114, 116, 101, 114, 46, 103, 101, 116, 95, 99, 111, 100, 101, 35, 111, 112, 97, 113, 117, 101, 6, 197, 10, 103, 101, 116, 95, 115, 111, 117, 114, 99, 101, 9, 51, 95, 102, 114, 111, 122, 101, 110, 95, 105, 109, 112, 111, 114, 116, 108, 105, 98, 46, 66, 117, 105, 108, 116, 105, 110, 73, 109, 112, 111, 114, 116, 101, 114, 46, 103, 101, 116, 95, 115, 111, 117, 114, 99, 101, 35, 111, 112, 97, 113, 117, 101, 6, 198, 10, 105, 115, 95, 112, 97, 99, 107, 97, 103, 101, 9, 51, 95, 102, 114, 111, 122, 101, 110, 95, 105, 109, 112, 111, 114, 116, 108, 105, 98, 46, 66, 117, 105, 108, 116, 105, 110, 73, 109, 112, 111, 114, 116, 101, 114, 46, 105, 115, 95, 112, 97, 99, 107, 97, 103, 101, 35, 111, 112, 97, 113, 117, 101, 6, 199, 11, 108, 111, 97, 100, 95, 109, 111, 100, 117, 108, 101, 9, 52, 95, 102, 114, 111, 122, 101, 110, 95, 105, 109, 112, 111, 114, 116, 108, 105, 98, 46, 66, 117, 105, 108, 116, 105, 110, 73, 109, 112, 111, 114, 116, 101, 114, 46, 108, 111, 97, 100, 95, 109, 111, 100, 117, 108, 101, 35, 111, 112, 97, 113, 117, 101, 6, 200, 21, 95, 95, 115, 116, 97, 116, 105, 99, 95, 97, 116, 116, 114, 105, 98, 117, 116, 101, 115, 95, 95, 4, 0, 0, 15, 6, 202, 8, 95, 95, 100, 105, 99, 116, 95, 95, 4, 0, 0, 16, 6, 204, 11, 95, 95, 119, 101, 97, 107, 114, 101, 102, 95, 95, 4, 0, 0, 17]⟩) 0, .bool true, .bool true, .str (Str.ofString "") 205, .int 21 0, .str (⟨#[6, 227, 10, 95, 95, 109, 111, 100, 117, 108, 101, 95, 95, 6, 217, 17, 95, 102, 114, 111, 122, 101, 110, 95, 105, 109, 112, 111, 114, 116, 108, 105, 98, 6, 228, 15, 95, 95, 102, 105, 114, 115, 116, 108, 105, 110, 101, 110, 111, 95, 95, 4, 218, 0, 562, 6, 229, 7, 95, 95, 100, 111, 99, 95, 95, 9, 47, 95, 102, 114, 111, 122, 101, 110, 95, 105, 109, 112, 111, 114, 116, 108, 105, 98, 46, 77, 111, 100, 117, 108, 101, 83, 112, 101, 99, 46, 95, 95, 100, 111, 99, 95, 95, 58, 115, 116, 114, 35, 111, 112, 97, 113, 117, 101, 6, 230, 8, 95, 95, 105, 110, 105, 116, 95, 95, 9, 44, 95, 102, 114, 111, 122, 101, 110, 95, 105, 109, 112, 111, 114, 116, 108, 105, 98, 46, 77, 111, 100, 117, 108, 101, 83, 112, 101, 99, 46, 95, 95, 105, 110, 105, 116, 95, 95, 35, 111, 112, 97, 113, 117, 101, 6, 231, 8, 95, 95, 114, 101, 112, 114, 95, 95, 9, 44, 95, 102, 114, 111, 122, 101, 110, 95, 105, 109, 112, 111, 114, 116, 108, 105, 98, 46, 77, 111, 100, 117, 108, 101, 83, 112, 101, 99, 46, 95, 95, 114, 101, 112, 114, 95, 95, 35, 111, 112, 97, 113, 117, 101, 6, 232, 6, 95, 95, 101, 113, 95, 95, 9, 42, 95, 102, 114, 111, 122, 101, 110, 95, 105, 109, 112, 111, 114, 116, 108, 105, 98, 46, 77, 111, 100, 117, 108, 101, 83, 112, 101, 99, 46, 95, 95, 101, 113, 95, 95, 35, 111, 112, 97, 113, 117, 101, 6, 233, 6, 99, 97, 99, 104, 101, 100, 9, 42, 95, 102, 114, 111, 122, 101, 110, 95, 105, 109, 112, 111, 114, 116, 108, 105, 98, 46, 77, 111, 100, 117, 108, 101, 83, 112, 101, 99, 46, 99, 97, 99, 104, 101, 100, 35, 111, 112, 97, 113, 117, 101, 6, 234, 6, 112, 97, 114, 101, 110, 116, 9, 42, 95, 102, 114, 111, 122, 101, 110, 95, 105, 109, 112, 111, 114, 116, 108, 105, 98, 46, 77, 111, 100, 117, 108, 101, 83, 112, 101, 99, 46, 112, 97, 114, 101, 110, 116, 35, 111, 112, 97, 113, 117, 101, 6, 235, 12, 104, 97, 115, 95, 108, 111, 99, 97, 116, 105, 111, 110, 9, 48, 95, 102, 114, 111, 122, 101, 110, 95, 105, 109, 112, 111, 114, 116, 108, 105, 98, 46, 77, 111, 100, 117, 108, 101, 83, 112, 101, 99, 46, 104, 97, 115, 95, 108, 111, 99, 97, 116, 105, 111, 110, 35, 111, 112, 97, 113, 117, 101, 6, 236, 21, 95, 95, 115, 116, 97, 116, 105, 99, 95, 97, 116, 116, 114, 105, 98, 117, 116, 101, 115, 95, 95, 4, 0, 0, 23, 6, 238, 8, 95, 95, 100, 105, 99, 116, 95, 95, 4, 0, 0, 24, 6, 240, 11, 95, 95, 119, 101, 97, 107, 114, 101, 102, 95, 95, 4, 0, 0, 25, 6, 241, 8, 95, 95, 104, 97, 115, 104, 95, 95, 0]⟩) 0, .bool true, .bool true, .str (Str.ofString "") 242] 1, #[]⟩
noncomputable def x19_E (P : Params) : Obj := ⟨.type "list", none, .seq #[] 0, #[]⟩
noncomputable def x20_E (P : Params) : Obj := ⟨.type "dict", none, .dict #[en P (Str.ofString "name") 208 (.str (Str.ofString "_sre") 207), en P (Str.ofString "loader") 209 (.ref 14), en P (Str.ofString "origin") 210 (.str (Str.ofString "built-in") 184), en P (Str.ofString "loader_state") 211 (.none), en P (Str.ofString "submodule_search_locations") 212 (.none), en P (Str.ofString "_uninitialized_submodules") 213 (.ref 19), en P (Str.ofString "_set_fileattr") 214 (.bool false), en P (Str.ofString "_cached") 215 (.none), en P (Str.ofString "_initializing") 243 (.bool false)] 9, #[]⟩
noncomputable def x21_E (P : Params) : Obj := ⟨.type "dict", none, .dict #[en P (Str.ofString "__module__") 227 (.str (Str.ofString "_frozen_importlib") 217), en P (Str.ofString "__firstlineno__") 228 (.int 562 218), en P (Str.ofString "__doc__") 229 (.builtin "_frozen_importlib.ModuleSpec.__doc__:str#opaque"), en P (Str.ofString "__init__") 230 (.builtin "_frozen_importlib.ModuleSpec.__init__#opaque"), en P (Str.ofString "__repr__") 231 (.builtin "_frozen_importlib.ModuleSpec.__repr__#opaque"), en P (Str.ofString "__eq__") 232 (.builtin "_frozen_importlib.ModuleSpec.__eq__#opaque"), en P (Str.ofString "cached") 233 (.builtin "_frozen_importlib.ModuleSpec.cached#opaque"), en P (Str.ofString "parent") 234 (.builtin "_frozen_importlib.ModuleSpec.parent#opaque"), en P (Str.ofString "has_location") 235 (.builtin "_frozen_importlib.ModuleSpec.has_location#opaque"), en P (Str.ofString "__static_attributes__") 236 (.ref 23), en P (Str.ofString "__dict__") 238 (.ref 24), en P (Str.ofString "__weakref__") 240 (.ref 25), en P (Str.ofString "__hash__") 241 (.none)] 13, #[]⟩
noncomputable def x22_E (P : Params) : Obj := ⟨.type "type", none, .cls { name := Str.ofString "ModuleSpec", bases := [.type "object"], mro := [.ref 22, .type "object"], ns := 21, qualname := Str.ofString "ModuleSpec", hasDict := true, slotNames := [], subclasses := [], abstract := false, collection := none, hasDel := false }, #[]⟩
noncomputable def x23_E (P : Params) : Obj := ⟨.type "tuple", none, .seq #[.str (Str.ofString "_cached") 219, .str (Str.ofString "_set_fileattr") 220, .str (Str.ofString "_uninitialized_submodules") 221, .str (Str.ofString "loader") 222, .str (Str.ofString "loader_state") 223, .str (Str.ofString "name") 224, .str (Str.ofString "origin") 225, .str (Str.ofString "submodule_search_locations") 226] 0, #[]⟩
noncomputable def x24_E (P : Params) : Obj := ⟨.type "getset_descriptor", none, .fields #[.str (Str.ofString "__dict__") 237, .ref 22, .builtin "function.__dict__", .builtin "function.__dict__#set"], #[]⟩
noncomputable def x25_E (P : Params) : Obj := ⟨.type "getset_descriptor", none, .fields #[.str (Str.ofString "__weakref__") 239, .ref 22, .builtin "ExceptionGroup.__weakref__", .none], #[]⟩
noncomputable def x26_E (P : Params) : Obj := ⟨.ref 22, (some 20), .plain, #[]⟩
noncomputable def x27_E (P : Params) : Obj := ⟨.none, none, .seq #[.int 11 0, .str (⟨#[6, 247, 8, 95, 95, 110, 97, 109, 101, 95, 95, 6, 246, 4, 95, 115, 114, 101, 6, 248, 7, 95, 95, 100, 111, 99, 95, 95,
  0, 6, 250, 11, 95, 95, 112, 97, 99, 107, 97, 103, 101, 95, 95, 6, 249, 0, 6, 251, 10, 95, 95, 108, 111, 97, 100, 101,
  114, 95, 95, 4, 0, 0, 14, 6, 252, 8, 95, 95, 115, 112, 101, 99, 95, 95, 4, 0, 0, 26, 6, 253, 7, 99, 111, 109, 112,
  105, 108, 101, 9, 12, 95, 115, 114, 101, 46, 99, 111, 109, 112, 105, 108, 101, 6, 254, 8, 116, 101, 109, 112, 108, 97,
  116, 101, 9, 13, 95, 115, 114, 101, 46, 116, 101, 109, 112, 108, 97, 116, 101, 6, 255, 11, 103, 101, 116, 99, 111,
  100, 101, 115, 105, 122, 101, 9, 16, 95, 115, 114, 101, 46, 103, 101, 116, 99, 111, 100, 101, 115, 105, 122, 101, 6,
  256, 13, 97, 115, 99, 105, 105, 95, 105, 115, 99, 97, 115, 101, 100, 9, 18, 95, 115, 114, 101, 46, 97, 115, 99, 105,
  105, 95, 105, 115, 99, 97, 115, 101, 100, 6, 257, 15, 117, 110, 105, 99, 111, 100, 101, 95, 105, 115, 99, 97, 115,
  101, 100, 9, 20, 95, 115, 114, 101, 46, 117, 110, 105, 99, 111, 100, 101, 95, 105, 115, 99, 97, 115, 101, 100, 6, 258,
  13, 97, 115, 99, 105, 105, 95, 116, 111, 108, 111, 119, 101, 114, 9, 18, 95, 115, 114, 101, 46, 97, 115, 99, 105, 105,
  95, 116, 111, 108, 111, 119, 101, 114, 6, 259, 15, 117, 110, 105, 99, 111, 100, 101, 95, 116, 111, 108, 111, 119, 101,
  114, 9, 20, 95, 115, 114, 101, 46, 117, 110, 105, 99, 111, 100, 101, 95, 116, 111, 108, 111, 119, 101, 114, 6, 261, 5,
  77, 65, 71, 73, 67, 4, 260, 0, 20230612, 6, 263, 8, 67, 79, 68, 69, 83, 73, 90, 69, 4, 262, 0, 4, 6, 265, 9, 77, 65,
  88, 82, 69, 80, 69, 65, 84, 4, 264, 0, 4294967295, 6, 267, 9, 77, 65, 88, 71, 82, 79, 85, 80, 83, 4, 266, 0,
  1073741823, 6, 269, 9, 99, 111, 112, 121, 114, 105, 103, 104, 116, 6, 268, 53, 32, 83, 82, 69, 32, 50, 46, 50, 46, 50,
  32, 67, 111, 112, 121, 114, 105, 103, 104, 116, 32, 40, 99, 41, 32, 49, 57, 57, 55, 45, 50, 48, 48, 50, 32, 98, 121,
  32, 83, 101, 99, 114, 101, 116, 32, 76, 97, 98, 115, 32, 65, 66, 32]⟩) 0, .bool true, .bool false, .str (Str.ofString "_sre") 271] 0, #[]⟩
noncomputable def x11_0 (P : Params) : Obj := ⟨.type "dict", none, .dict #[en P (Str.ofString "__name__") 247 (.str (Str.ofString "_sre") 246), en P (Str.ofString "__doc__") 248 (.none), en P (Str.ofString "__package__") 250 (.str (Str.ofString "") 249), en P (Str.ofString "__loader__") 251 (.builtin "off-the-table:_sre.__loader__:shared#opaque"), en P (Str.ofString "__spec__") 252 (.builtin "off-the-table:_sre.__spec__:shared#opaque"), en P (Str.ofString "compile") 253 (.builtin "_sre.compile"), en P (Str.ofString "template") 254 (.builtin "off-the-table:_sre.template:shared#opaque"), en P (Str.ofString "getcodesize") 255 (.builtin "off-the-table:_sre.getcodesize:shared#opaque"), en P (Str.ofString "ascii_iscased") 256 (.builtin "off-the-table:_sre.ascii_iscased:shared#opaque"), en P (Str.ofString "unicode_iscased") 257 (.builtin "off-the-table:_sre.unicode_iscased:shared#opaque"), en P (Str.ofString "ascii_tolower") 258 (.builtin "off-the-table:_sre.ascii_tolower:shared#opaque"), en P (Str.ofString "unicode_tolower") 259 (.builtin "off-the-table:_sre.unicode_tolower:shared#opaque"), en P (Str.ofString "MAGIC") 261 (.int 20230612 260), en P (Str.ofString "CODESIZE") 263 (.int 4 262), en P (Str.ofString "MAXREPEAT") 265 (.int 4294967295 264), en P (Str.ofString "MAXGROUPS") 267 (.int 1073741823 266), en P (Str.ofString "copyright") 269 (.str (Str.ofString " SRE 2.2.2 Copyright (c) 1997-2002 by Secret Labs AB ") 268)] 17, #[]⟩
noncomputable def x30_A (P : Params) : Obj := ⟨.type "code", none, .fields #[.str (Str.ofString "<module>") 277, .str (Str.ofString "<module>") 278, .str (Str.ofString "/claim/cut.py") 279, .int 1 0, .int 0 0, .int 0 0, .int 0 0, .int 0 0, .ref 28, .bool false, .int 276 0, .ref 29, .none, .none, .none, .none, .int 280 0, .int 1 0, .str (Str.ofString "/claim/cut.py") 281], #[]⟩
noncomputable def x31_A (P : Params) : Obj := ⟨.type "frame", none, .plain, #[some (.ref 30), some (.ref 3), some (.ref 3), none, some (.str (Str.ofString "__main__") 164), none, some (.ref 0)]⟩
noncomputable def x3_18 (P : Params) : Obj := ⟨.type "dict", none, .dict #[en P (Str.ofString "__name__") 165 (.str (Str.ofString "cpy313.posixpath") 401), en P (Str.ofString "__doc__") 166 (.none), en P (Str.ofString "__package__") 167 (.none), en P (Str.ofString "__loader__") 168 (.builtin "__main__.__loader__#opaque"), en P (Str.ofString "__spec__") 169 (.none), en P (Str.ofString "__annotations__") 170 (.ref 6), en P (Str.ofString "__builtins__") 171 (.ref 4), en P (Str.ofString "__file__") 173 (.str (Str.ofString "/claim/cut.py") 172), en P (Str.ofString "__cached__") 174 (.none), en P (Str.ofString "_sre") 275 (.ref 12), en P (Str.ofString "_wall") 288 (.ref 38), en P (Str.ofString "_plain_name") 299 (.ref 45), en P (Str.ofString "ABCMeta") 325 (.ref 62), en P (Str.ofString "_ABCLike") 368 (.ref 95), en P (Str.ofString "_abc_plain_meta") 375 (.ref 104), en P (Str.ofString "fspath") 387 (.ref 111), en P (Str.ofString "_check_arg_types") 400 (.ref 118), en P (Str.ofString "_get_sep") 409 (.ref 125), en P (Str.ofString "join") 420 (.ref 132), en P (Str.ofString "splitroot") 429 (.ref 139), en P (Str.ofString "normpath") 444 (.ref 146), en P (Str.ofString "NL") 446 (.str (Str.ofString "\n") 445)] 22, #[]⟩
noncomputable def x29_18 (P : Params) : Obj := ⟨.none, none, .fields #[.int 2 0, .int 0 0, .ref 37, .int 6 0, .int 0 0, .ref 44, .int 12 0, .int 0 0, .ref 51, .int 17 0, .int 0 0, .ref 70, .int 32 0, .int 0 0, .ref 103, .int 36 0, .int 0 0, .ref 110, .int 53 0, .int 0 0, .ref 117, .int 65 0, .int 0 0, .ref 124, .int 70 0, .int 0 0, .ref 131, .int 87 0, .int 0 0, .ref 138, .int 101 0, .int 0 0, .ref 145], #[]⟩
noncomputable def x34_18 (P : Params) : Obj := ⟨.type "tuple", none, .seq #[.str (Str.ofString "k") 285] 0, #[]⟩
noncomputable def x36_18 (P : Params) : Obj := ⟨.none, none, .func { name := Str.ofString "_wall", qualname := Str.ofString "_wall", params := pA1, body := .stmts pB1, scope := pS1, globals := 0, closure := [], defaults := .none, kwdefaults := .none, doc := .none, pyModule := .none, annotations := none, code := .none, closureTuple := .none, builtins := 0 }, #[]⟩
noncomputable def x37_18 (P : Params) : Obj := ⟨.type "code", none, .fields #[.str (Str.ofString "_wall") 282, .str (Str.ofString "_wall") 283, .str (Str.ofString "/claim/cut.py") 284, .int 2 0, .int 1 0, .int 0 0, .int 0 0, .int 3 0, .ref 32, .bool true, .int 276 0, .ref 33, .none, .ref 34, .ref 35, .ref 36, .int 286 0, .int 2 0, .str (Str.ofString "/claim/cut.py") 287], #[]⟩
noncomputable def x38_18 (P : Params) : Obj := ⟨.type "function", none, .func { name := Str.ofString "_wall", qualname := Str.ofString "_wall", params := pA1, body := .stmts pB1, scope := pS1, globals := 3, closure := [], defaults := .none, kwdefaults := .none, doc := .none, pyModule := .str (Str.ofString "__main__") 164, annotations := none, code := .ref 37, closureTuple := .none, builtins := 0 }, #[]⟩
noncomputable def x41_18 (P : Params) : Obj := ⟨.type "tuple", none, .seq #[.str (Str.ofString "x") 294, .str (Str.ofString "what") 295, .str (Str.ofString "kind") 296] 0, #[]⟩
noncomputable def x43_18 (P : Params) : Obj := ⟨.none, none, .func { name := Str.ofString "_plain_name", qualname := Str.ofString "_plain_name", params := pA3, body := .stmts pB3, scope := pS3, globals := 0, closure := [], defaults := .none, kwdefaults := .none, doc := .none, pyModule := .none, annotations := none, code := .none, closureTuple := .none, builtins := 0 }, #[]⟩
noncomputable def x44_18 (P : Params) : Obj := ⟨.type "code", none, .fields #[.str (Str.ofString "_plain_name") 291, .str (Str.ofString "_plain_name") 292, .str (Str.ofString "/claim/cut.py") 293, .int 6 0, .int 2 0, .int 0 0, .int 0 0, .int 3 0, .ref 39, .bool true, .int 276 0, .ref 40, .none, .ref 41, .ref 42, .ref 43, .int 297 0, .int 6 0, .str (Str.ofString "/claim/cut.py") 298], #[]⟩
noncomputable def x45_18 (P : Params) : Obj := ⟨.type "function", none, .func { name := Str.ofString "_plain_name", qualname := Str.ofString "_plain_name", params := pA3, body := .stmts pB3, scope := pS3, globals := 3, closure := [], defaults := .none, kwdefaults := .none, doc := .none, pyModule := .str (Str.ofString "os") 289, annotations := none, code := .ref 44, closureTuple := .none, builtins := 0 }, #[]⟩
noncomputable def x46_18 (P : Params) : Obj := ⟨.type "tuple", none, .seq #[.type "type"] 0, #[]⟩
noncomputable def x47_18 (P : Params) : Obj := ⟨.type "builtin_function_or_method", none, .fields #[.builtin "type.__prepare__", .type "type"], #[]⟩
noncomputable def x48_18 (P : Params) : Obj := ⟨.type "dict", none, .dict #[en P (Str.ofString "__module__") 309 (.str (Str.ofString "abc") 300), en P (Str.ofString "__qualname__") 311 (.str (Str.ofString "ABCMeta") 310), en P (Str.ofString "__firstlineno__") 313 (.int 12 312), en P (Str.ofString "register") 321 (.ref 59), en P (Str.ofString "__static_attributes__") 322 (.ref 60)] 5, #[]⟩
noncomputable def x50_18 (P : Params) : Obj := ⟨.none, none, .fields #[.int 14 0, .int 4 0, .ref 58], #[]⟩
noncomputable def x51_18 (P : Params) : Obj := ⟨.type "code", none, .fields #[.str (Str.ofString "ABCMeta") 304, .str (Str.ofString "ABCMeta") 305, .str (Str.ofString "/claim/cut.py") 306, .int 12 0, .int 0 0, .int 0 0, .int 0 0, .int 0 0, .ref 49, .bool false, .int 276 0, .ref 50, .none, .none, .none, .none, .int 307 0, .int 12 0, .str (Str.ofString "/claim/cut.py") 308], #[]⟩
noncomputable def x52_18 (P : Params) : Obj := ⟨.type "frame", none, .plain, #[some (.ref 51), some (.ref 3), some (.ref 48), none, some (.str (Str.ofString "abc") 300), none, some (.ref 0)]⟩
noncomputable def x55_18 (P : Params) : Obj := ⟨.type "tuple", none, .seq #[.str (Str.ofString "cls") 317, .str (Str.ofString "subclass") 318] 0, #[]⟩
noncomputable def x57_18 (P : Params) : Obj := ⟨.none, none, .func { name := Str.ofString "register", qualname := Str.ofString "ABCMeta.register", params := pA5_0, body := .stmts pB5_0, scope := pS5_0, globals := 0, closure := [], defaults := .none, kwdefaults := .none, doc := .none, pyModule := .none, annotations := none, code := .none, closureTuple := .none, builtins := 0 }, #[]⟩
noncomputable def x58_18 (P : Params) : Obj := ⟨.type "code", none, .fields #[.str (Str.ofString "register") 314, .str (Str.ofString "ABCMeta.register") 315, .str (Str.ofString "/claim/cut.py") 316, .int 14 0, .int 2 0, .int 0 0, .int 0 0, .int 3 0, .ref 53, .bool true, .int 276 0, .ref 54, .none, .ref 55, .ref 56, .ref 57, .int 319 0, .int 14 0, .str (Str.ofString "/claim/cut.py") 320], #[]⟩
noncomputable def x59_18 (P : Params) : Obj := ⟨.type "function", none, .func { name := Str.ofString "register", qualname := Str.ofString "ABCMeta.register", params := pA5_0, body := .stmts pB5_0, scope := pS5_0, globals := 3, closure := [], defaults := .none, kwdefaults := .none, doc := .none, pyModule := .str (Str.ofString "abc") 300, annotations := none, code := .ref 58, closureTuple := .none, builtins := 0 }, #[]⟩
noncomputable def x61_18 (P : Params) : Obj := ⟨.type "dict", none, .dict #[en P (Str.ofString "__module__") 309 (.str (Str.ofString "abc") 300), en P (Str.ofString "__firstlineno__") 313 (.int 12 312), en P (Str.ofString "register") 321 (.ref 59), en P (Str.ofString "__static_attributes__") 322 (.ref 60), en P (Str.ofString "__doc__") 323 (.none)] 2, #[]⟩
noncomputable def x62_18 (P : Params) : Obj := ⟨.type "type", none, .cls { name := Str.ofString "ABCMeta", bases := [.type "type"], mro := [.ref 62, .type "type", .type "object"], ns := 61, qualname := Str.ofString "ABCMeta", hasDict := true, slotNames := [], subclasses := [.ref 95], abstract := false, collection := none, hasDel := false }, #[some (.ref 46), none, some (.str (Str.ofString "ABCMeta") 302), some (.str (Str.ofString "ABCMeta") 310), some (.builtin "type.__new__"), some (.bool true)]⟩
noncomputable def x63_18 (P : Params) : Obj := ⟨.type "super", none, .fields #[.ref 62, .ref 62, .ref 62], #[]⟩
noncomputable def x64_18 (P : Params) : Obj := ⟨.type "builtin_function_or_method", none, .fields #[.builtin "object.__init_subclass__", .ref 62], #[]⟩
noncomputable def x65_18 (P : Params) : Obj := ⟨.type "tuple", none, .seq #[.ref 62] 0, #[]⟩
noncomputable def x67_18 (P : Params) : Obj := ⟨.type "dict", none, .dict #[en P (Str.ofString "__module__") 335 (.str (Str.ofString "collections.abc") 326), en P (Str.ofString "__qualname__") 337 (.str (Str.ofString "_ABCLike") 336), en P (Str.ofString "__firstlineno__") 339 (.int 17 338), en P (Str.ofString "__instancecheck__") 348 (.ref 78), en P (Str.ofString "__subclasscheck__") 356 (.ref 85), en P (Str.ofString "register") 364 (.ref 92), en P (Str.ofString "__static_attributes__") 365 (.ref 93)] 7, #[]⟩
noncomputable def x69_18 (P : Params) : Obj := ⟨.none, none, .fields #[.int 19 0, .int 4 0, .ref 77, .int 25 0, .int 4 0, .ref 84, .int 30 0, .int 4 0, .ref 91], #[]⟩
noncomputable def x70_18 (P : Params) : Obj := ⟨.type "code", none, .fields #[.str (Str.ofString "_ABCLike") 330, .str (Str.ofString "_ABCLike") 331, .str (Str.ofString "/claim/cut.py") 332, .int 17 0, .int 0 0, .int 0 0, .int 0 0, .int 0 0, .ref 68, .bool false, .int 276 0, .ref 69, .none, .none, .none, .none, .int 333 0, .int 17 0, .str (Str.ofString "/claim/cut.py") 334], #[]⟩
noncomputable def x71_18 (P : Params) : Obj := ⟨.type "frame", none, .plain, #[some (.ref 70), some (.ref 3), some (.ref 67), none, some (.str (Str.ofString "collections.abc") 326), none, some (.ref 0)]⟩
noncomputable def x74_18 (P : Params) : Obj := ⟨.type "tuple", none, .seq #[.str (Str.ofString "cls") 343, .str (Str.ofString "instance") 344, .str (Str.ofString "C") 345] 0, #[]⟩
noncomputable def x76_18 (P : Params) : Obj := ⟨.none, none, .func { name := Str.ofString "__instancecheck__", qualname := Str.ofString "_ABCLike.__instancecheck__", params := pA7_0, body := .stmts pB7_0, scope := pS7_0, globals := 0, closure := [], defaults := .none, kwdefaults := .none, doc := .none, pyModule := .none, annotations := none, code := .none, closureTuple := .none, builtins := 0 }, #[]⟩
noncomputable def x77_18 (P : Params) : Obj := ⟨.type "code", none, .fields #[.str (Str.ofString "__instancecheck__") 340, .str (Str.ofString "_ABCLike.__instancecheck__") 341, .str (Str.ofString "/claim/cut.py") 342, .int 19 0, .int 2 0, .int 0 0, .int 0 0, .int 3 0, .ref 72, .bool true, .int 276 0, .ref 73, .none, .ref 74, .ref 75, .ref 76, .int 346 0, .int 19 0, .str (Str.ofString "/claim/cut.py") 347], #[]⟩
noncomputable def x78_18 (P : Params) : Obj := ⟨.type "function", none, .func { name := Str.ofString "__instancecheck__", qualname := Str.ofString "_ABCLike.__instancecheck__", params := pA7_0, body := .stmts pB7_0, scope := pS7_0, globals := 3, closure := [], defaults := .none, kwdefaults := .none, doc := .none, pyModule := .str (Str.ofString "collections.abc") 326, annotations := none, code := .ref 77, closureTuple := .none, builtins := 0 }, #[]⟩
noncomputable def x81_18 (P : Params) : Obj := ⟨.type "tuple", none, .seq #[.str (Str.ofString "cls") 352, .str (Str.ofString "C") 353] 0, #[]⟩
noncomputable def x83_18 (P : Params) : Obj := ⟨.none, none, .func { name := Str.ofString "__subclasscheck__", qualname := Str.ofString "_ABCLike.__subclasscheck__", params := pA7_1, body := .stmts pB7_1, scope := pS7_1, globals := 0, closure := [], defaults := .none, kwdefaults := .none, doc := .none, pyModule := .none, annotations := none, code := .none, closureTuple := .none, builtins := 0 }, #[]⟩
noncomputable def x84_18 (P : Params) : Obj := ⟨.type "code", none, .fields #[.str (Str.ofString "__subclasscheck__") 349, .str (Str.ofString "_ABCLike.__subclasscheck__") 350, .str (Str.ofString "/claim/cut.py") 351, .int 25 0, .int 2 0, .int 0 0, .int 0 0, .int 3 0, .ref 79, .bool true, .int 276 0, .ref 80, .none, .ref 81, .ref 82, .ref 83, .int 354 0, .int 25 0, .str (Str.ofString "/claim/cut.py") 355], #[]⟩
noncomputable def x85_18 (P : Params) : Obj := ⟨.type "function", none, .func { name := Str.ofString "__subclasscheck__", qualname := Str.ofString "_ABCLike.__subclasscheck__", params := pA7_1, body := .stmts pB7_1, scope := pS7_1, globals := 3, closure := [], defaults := .none, kwdefaults := .none, doc := .none, pyModule := .str (Str.ofString "collections.abc") 326, annotations := none, code := .ref 84, closureTuple := .none, builtins := 0 }, #[]⟩
noncomputable def x88_18 (P : Params) : Obj := ⟨.type "tuple", none, .seq #[.str (Str.ofString "cls") 360, .str (Str.ofString "subclass") 361] 0, #[]⟩
noncomputable def x90_18 (P : Params) : Obj := ⟨.none, none, .func { name := Str.ofString "register", qualname := Str.ofString "_ABCLike.register", params := pA7_2, body := .stmts pB7_2, scope := pS7_2, globals := 0, closure := [], defaults := .none, kwdefaults := .none, doc := .none, pyModule := .none, annotations := none, code := .none, closureTuple := .none, builtins := 0 }, #[]⟩
noncomputable def x91_18 (P : Params) : Obj := ⟨.type "code", none, .fields #[.str (Str.ofString "register") 357, .str (Str.ofString "_ABCLike.register") 358, .str (Str.ofString "/claim/cut.py") 359, .int 30 0, .int 2 0, .int 0 0, .int 0 0, .int 3 0, .ref 86, .bool true, .int 276 0, .ref 87, .none, .ref 88, .ref 89, .ref 90, .int 362 0, .int 30 0, .str (Str.ofString "/claim/cut.py") 363], #[]⟩
noncomputable def x92_18 (P : Params) : Obj := ⟨.type "function", none, .func { name := Str.ofString "register", qualname := Str.ofString "_ABCLike.register", params := pA7_2, body := .stmts pB7_2, scope := pS7_2, globals := 3, closure := [], defaults := .none, kwdefaults := .none, doc := .none, pyModule := .str (Str.ofString "collections.abc") 326, annotations := none, code := .ref 91, closureTuple := .none, builtins := 0 }, #[]⟩
noncomputable def x94_18 (P : Params) : Obj := ⟨.type "dict", none, .dict #[en P (Str.ofString "__module__") 335 (.str (Str.ofString "collections.abc") 326), en P (Str.ofString "__firstlineno__") 339 (.int 17 338), en P (Str.ofString "__instancecheck__") 348 (.ref 78), en P (Str.ofString "__subclasscheck__") 356 (.ref 85), en P (Str.ofString "register") 364 (.ref 92), en P (Str.ofString "__static_attributes__") 365 (.ref 93), en P (Str.ofString "__doc__") 366 (.none)] 2, #[]⟩
noncomputable def x95_18 (P : Params) : Obj := ⟨.type "type", none, .cls { name := Str.ofString "_ABCLike", bases := [.ref 62], mro := [.ref 95, .ref 62, .type "type", .type "object"], ns := 94, qualname := Str.ofString "_ABCLike", hasDict := true, slotNames := [], subclasses := [], abstract := false, collection := none, hasDel := false }, #[some (.ref 65), none, some (.str (Str.ofString "_ABCLike") 328), some (.str (Str.ofString "_ABCLike") 336), some (.builtin "type.__new__"), some (.bool true)]⟩
noncomputable def x96_18 (P : Params) : Obj := ⟨.type "super", none, .fields #[.ref 95, .ref 95, .ref 95], #[]⟩
noncomputable def x97_18 (P : Params) : Obj := ⟨.type "builtin_function_or_method", none, .fields #[.builtin "object.__init_subclass__", .ref 95], #[]⟩
noncomputable def x100_18 (P : Params) : Obj := ⟨.type "tuple", none, .seq #[.str (Str.ofString "C") 372] 0, #[]⟩
noncomputable def x102_18 (P : Params) : Obj := ⟨.none, none, .func { name := Str.ofString "_abc_plain_meta", qualname := Str.ofString "_abc_plain_meta", params := pA8, body := .stmts pB8, scope := pS8, globals := 0, closure := [], defaults := .none, kwdefaults := .none, doc := .none, pyModule := .none, annotations := none, code := .none, closureTuple := .none, builtins := 0 }, #[]⟩
noncomputable def x103_18 (P : Params) : Obj := ⟨.type "code", none, .fields #[.str (Str.ofString "_abc_plain_meta") 369, .str (Str.ofString "_abc_plain_meta") 370, .str (Str.ofString "/claim/cut.py") 371, .int 32 0, .int 1 0, .int 0 0, .int 0 0, .int 3 0, .ref 98, .bool true, .int 276 0, .ref 99, .none, .ref 100, .ref 101, .ref 102, .int 373 0, .int 32 0, .str (Str.ofString "/claim/cut.py") 374], #[]⟩
noncomputable def x104_18 (P : Params) : Obj := ⟨.type "function", none, .func { name := Str.ofString "_abc_plain_meta", qualname := Str.ofString "_abc_plain_meta", params := pA8, body := .stmts pB8, scope := pS8, globals := 3, closure := [], defaults := .none, kwdefaults := .none, doc := .none, pyModule := .str (Str.ofString "collections.abc") 326, annotations := none, code := .ref 103, closureTuple := .none, builtins := 0 }, #[]⟩
noncomputable def x107_18 (P : Params) : Obj := ⟨.type "tuple", none, .seq #[.str (Str.ofString "path") 381, .str (Str.ofString "kind") 382, .str (Str.ofString "hook") 383, .str (Str.ofString "given") 384] 0, #[]⟩
noncomputable def x109_18 (P : Params) : Obj := ⟨.none, none, .func { name := Str.ofString "fspath", qualname := Str.ofString "fspath", params := pA10, body := .stmts pB10, scope := pS10, globals := 0, closure := [], defaults := .none, kwdefaults := .none, doc := .none, pyModule := .none, annotations := none, code := .none, closureTuple := .none, builtins := 0 }, #[]⟩
noncomputable def x110_18 (P : Params) : Obj := ⟨.type "code", none, .fields #[.str (Str.ofString "fspath") 378, .str (Str.ofString "fspath") 379, .str (Str.ofString "/claim/cut.py") 380, .int 36 0, .int 1 0, .int 0 0, .int 0 0, .int 3 0, .ref 105, .bool true, .int 276 0, .ref 106, .none, .ref 107, .ref 108, .ref 109, .int 385 0, .int 36 0, .str (Str.ofString "/claim/cut.py") 386], #[]⟩
noncomputable def x111_18 (P : Params) : Obj := ⟨.type "function", none, .func { name := Str.ofString "fspath", qualname := Str.ofString "fspath", params := pA10, body := .stmts pB10, scope := pS10, globals := 3, closure := [], defaults := .none, kwdefaults := .none, doc := .none, pyModule := .str (Str.ofString "os") 376, annotations := none, code := .ref 110, closureTuple := .none, builtins := 0 }, #[]⟩
noncomputable def x114_18 (P : Params) : Obj := ⟨.type "tuple", none, .seq #[.str (Str.ofString "funcname") 393, .str (Str.ofString "args") 394, .str (Str.ofString "hasstr") 395, .str (Str.ofString "hasbytes") 396, .str (Str.ofString "s") 397] 0, #[]⟩
noncomputable def x116_18 (P : Params) : Obj := ⟨.none, none, .func { name := Str.ofString "_check_arg_types", qualname := Str.ofString "_check_arg_types", params := pA12, body := .stmts pB12, scope := pS12, globals := 0, closure := [], defaults := .none, kwdefaults := .none, doc := .none, pyModule := .none, annotations := none, code := .none, closureTuple := .none, builtins := 0 }, #[]⟩
noncomputable def x117_18 (P : Params) : Obj := ⟨.type "code", none, .fields #[.str (Str.ofString "_check_arg_types") 390, .str (Str.ofString "_check_arg_types") 391, .str (Str.ofString "/claim/cut.py") 392, .int 53 0, .int 1 0, .int 0 0, .int 0 0, .int 7 0, .ref 112, .bool true, .int 276 0, .ref 113, .none, .ref 114, .ref 115, .ref 116, .int 398 0, .int 53 0, .str (Str.ofString "/claim/cut.py") 399], #[]⟩
noncomputable def x118_18 (P : Params) : Obj := ⟨.type "function", none, .func { name := Str.ofString "_check_arg_types", qualname := Str.ofString "_check_arg_types", params := pA12, body := .stmts pB12, scope := pS12, globals := 3, closure := [], defaults := .none, kwdefaults := .none, doc := .none, pyModule := .str (Str.ofString "cpy313.genericpath") 388, annotations := none, code := .ref 117, closureTuple := .none, builtins := 0 }, #[]⟩
noncomputable def x121_18 (P : Params) : Obj := ⟨.type "tuple", none, .seq #[.str (Str.ofString "path") 406] 0, #[]⟩
noncomputable def x123_18 (P : Params) : Obj := ⟨.none, none, .func { name := Str.ofString "_get_sep", qualname := Str.ofString "_get_sep", params := pA14, body := .stmts pB14, scope := pS14, globals := 0, closure := [], defaults := .none, kwdefaults := .none, doc := .none, pyModule := .none, annotations := none, code := .none, closureTuple := .none, builtins := 0 }, #[]⟩
noncomputable def x124_18 (P : Params) : Obj := ⟨.type "code", none, .fields #[.str (Str.ofString "_get_sep") 403, .str (Str.ofString "_get_sep") 404, .str (Str.ofString "/claim/cut.py") 405, .int 65 0, .int 1 0, .int 0 0, .int 0 0, .int 3 0, .ref 119, .bool true, .int 276 0, .ref 120, .none, .ref 121, .ref 122, .ref 123, .int 407 0, .int 65 0, .str (Str.ofString "/claim/cut.py") 408], #[]⟩
noncomputable def x125_18 (P : Params) : Obj := ⟨.type "function", none, .func { name := Str.ofString "_get_sep", qualname := Str.ofString "_get_sep", params := pA14, body := .stmts pB14, scope := pS14, globals := 3, closure := [], defaults := .none, kwdefaults := .none, doc := .none, pyModule := .str (Str.ofString "cpy313.posixpath") 401, annotations := none, code := .ref 124, closureTuple := .none, builtins := 0 }, #[]⟩
noncomputable def x128_18 (P : Params) : Obj := ⟨.type "tuple", none, .seq #[.str (Str.ofString "a") 413, .str (Str.ofString "p") 414, .str (Str.ofString "sep") 415, .str (Str.ofString "path") 416, .str (Str.ofString "b") 417] 0, #[]⟩
noncomputable def x130_18 (P : Params) : Obj := ⟨.none, none, .func { name := Str.ofString "join", qualname := Str.ofString "join", params := pA15, body := .stmts pB15, scope := pS15, globals := 0, closure := [], defaults := .none, kwdefaults := .none, doc := .none, pyModule := .none, annotations := none, code := .none, closureTuple := .none, builtins := 0 }, #[]⟩
noncomputable def x131_18 (P : Params) : Obj := ⟨.type "code", none, .fields #[.str (Str.ofString "join") 410, .str (Str.ofString "join") 411, .str (Str.ofString "/claim/cut.py") 412, .int 70 0, .int 1 0, .int 0 0, .int 0 0, .int 7 0, .ref 126, .bool true, .int 276 0, .ref 127, .none, .ref 128, .ref 129, .ref 130, .int 418 0, .int 70 0, .str (Str.ofString "/claim/cut.py") 419], #[]⟩
noncomputable def x132_18 (P : Params) : Obj := ⟨.type "function", none, .func { name := Str.ofString "join", qualname := Str.ofString "join", params := pA15, body := .stmts pB15, scope := pS15, globals := 3, closure := [], defaults := .none, kwdefaults := .none, doc := .none, pyModule := .str (Str.ofString "cpy313.posixpath") 401, annotations := none, code := .ref 131, closureTuple := .none, builtins := 0 }, #[]⟩
noncomputable def x135_18 (P : Params) : Obj := ⟨.type "tuple", none, .seq #[.str (Str.ofString "p") 424, .str (Str.ofString "sep") 425, .str (Str.ofString "empty") 426] 0, #[]⟩
noncomputable def x137_18 (P : Params) : Obj := ⟨.none, none, .func { name := Str.ofString "splitroot", qualname := Str.ofString "splitroot", params := pA16, body := .stmts pB16, scope := pS16, globals := 0, closure := [], defaults := .none, kwdefaults := .none, doc := .none, pyModule := .none, annotations := none, code := .none, closureTuple := .none, builtins := 0 }, #[]⟩
noncomputable def x138_18 (P : Params) : Obj := ⟨.type "code", none, .fields #[.str (Str.ofString "splitroot") 421, .str (Str.ofString "splitroot") 422, .str (Str.ofString "/claim/cut.py") 423, .int 87 0, .int 1 0, .int 0 0, .int 0 0, .int 3 0, .ref 133, .bool true, .int 276 0, .ref 134, .none, .ref 135, .ref 136, .ref 137, .int 427 0, .int 87 0, .str (Str.ofString "/claim/cut.py") 428], #[]⟩
noncomputable def x139_18 (P : Params) : Obj := ⟨.type "function", none, .func { name := Str.ofString "splitroot", qualname := Str.ofString "splitroot", params := pA16, body := .stmts pB16, scope := pS16, globals := 3, closure := [], defaults := .none, kwdefaults := .none, doc := .none, pyModule := .str (Str.ofString "cpy313.posixpath") 401, annotations := none, code := .ref 138, closureTuple := .none, builtins := 0 }, #[]⟩
noncomputable def x142_18 (P : Params) : Obj := ⟨.type "tuple", none, .seq #[.str (Str.ofString "path") 433, .str (Str.ofString "sep") 434, .str (Str.ofString "dot") 435, .str (Str.ofString "dotdot") 436, .str (Str.ofString "_") 437, .str (Str.ofString "initial_slashes") 438, .str (Str.ofString "comps") 439, .str (Str.ofString "new_comps") 440, .str (Str.ofString "comp") 441] 0, #[]⟩
noncomputable def x144_18 (P : Params) : Obj := ⟨.none, none, .func { name := Str.ofString "normpath", qualname := Str.ofString "normpath", params := pA17, body := .stmts pB17, scope := pS17, globals := 0, closure := [], defaults := .none, kwdefaults := .none, doc := .none, pyModule := .none, annotations := none, code := .none, closureTuple := .none, builtins := 0 }, #[]⟩
noncomputable def x145_18 (P : Params) : Obj := ⟨.type "code", none, .fields #[.str (Str.ofString "normpath") 430, .str (Str.ofString "normpath") 431, .str (Str.ofString "/claim/cut.py") 432, .int 101 0, .int 1 0, .int 0 0, .int 0 0, .int 3 0, .ref 140, .bool true, .int 276 0, .ref 141, .none, .ref 142, .ref 143, .ref 144, .int 442 0, .int 101 0, .str (Str.ofString "/claim/cut.py") 443], #[]⟩
noncomputable def x146_18 (P : Params) : Obj := ⟨.type "function", none, .func { name := Str.ofString "normpath", qualname := Str.ofString "normpath", params := pA17, body := .stmts pB17, scope := pS17, globals := 3, closure := [], defaults := .none, kwdefaults := .none, doc := .none, pyModule := .str (Str.ofString "cpy313.posixpath") 401, annotations := none, code := .ref 145, closureTuple := .none, builtins := 0 }, #[]⟩
noncomputable def x3_19 (P : Params) : Obj := ⟨.type "dict", none, .dict #[en P (Str.ofString "__name__") 165 (.str (Str.ofString "cpy313.posixpath") 401), en P (Str.ofString "__doc__") 166 (.none), en P (Str.ofString "__package__") 167 (.none), en P (Str.ofString "__loader__") 168 (.builtin "__main__.__loader__#opaque"), en P (Str.ofString "__spec__") 169 (.none), en P (Str.ofString "__annotations__") 170 (.ref 6), en P (Str.ofString "__builtins__") 171 (.ref 4), en P (Str.ofString "__file__") 173 (.str (Str.ofString "/claim/cut.py") 172), en P (Str.ofString "__cached__") 174 (.none), en P (Str.ofString "_sre") 275 (.ref 12), en P (Str.ofString "_wall") 288 (.ref 38), en P (Str.ofString "_plain_name") 299 (.ref 45), en P (Str.ofString "ABCMeta") 325 (.ref 62), en P (Str.ofString "_ABCLike") 368 (.ref 95), en P (Str.ofString "_abc_plain_meta") 375 (.ref 104), en P (Str.ofString "fspath") 387 (.ref 111), en P (Str.ofString "_check_arg_types") 400 (.ref 118), en P (Str.ofString "_get_sep") 409 (.ref 125), en P (Str.ofString "join") 420 (.ref 132), en P (Str.ofString "splitroot") 429 (.ref 139), en P (Str.ofString "normpath") 444 (.ref 146), en P (Str.ofString "NL") 446 (.str (Str.ofString "\n") 445), en P (Str.ofString "_QUOPRI_MAP") 1474 (.ref 149)] 23, #[]⟩
noncomputable def x147_19 (P : Params) : Obj := ⟨.type "range", none, .fields #[.int 0 448, .int 256 447, .int 1 449], #[]⟩
noncomputable def x148_19 (P : Params) : Obj := ⟨.type "range_iterator", none, .fields #[.int 256 0, .int 0 0, .int 1 0], #[]⟩
noncomputable def x149_19 (P : Params) : Obj := ⟨.type "list", none, .seq #[.str (Str.ofString "=00") 453, .str (Str.ofString "=01") 457, .str (Str.ofString "=02") 461, .str (Str.ofString "=03") 465, .str (Str.ofString "=04") 469, .str (Str.ofString "=05") 473, .str (Str.ofString "=06") 477, .str (Str.ofString "=07") 481, .str (Str.ofString "=08") 485, .str (Str.ofString "=09") 489, .str (Str.ofString "=0A") 493, .str (Str.ofString "=0B") 497, .str (Str.ofString "=0C") 501, .str (Str.ofString "=0D") 505, .str (Str.ofString "=0E") 509, .str (Str.ofString "=0F") 513, .str (Str.ofString "=10") 517, .str (Str.ofString "=11") 521, .str (Str.ofString "=12") 525, .str (Str.ofString "=13") 529, .str (Str.ofString "=14") 533, .str (Str.ofString "=15") 537, .str (Str.ofString "=16") 541, .str (Str.ofString "=17") 545, .str (Str.ofString "=18") 549, .str (Str.ofString "=19") 553, .str (Str.ofString "=1A") 557, .str (Str.ofString "=1B") 561, .str (Str.ofString "=1C") 565, .str (Str.ofString "=1D") 569, .str (Str.ofString "=1E") 573, .str (Str.ofString "=1F") 577, .str (Str.ofString "=20") 581, .str (Str.ofString "=21") 585, .str (Str.ofString "=22") 589, .str (Str.ofString "=23") 593, .str (Str.ofString "=24") 597, .str (Str.ofString "=25") 601, .str (Str.ofString "=26") 605, .str (Str.ofString "=27") 609, .str (Str.ofString "=28") 613, .str (Str.ofString "=29") 617, .str (Str.ofString "=2A") 621, .str (Str.ofString "=2B") 625, .str (Str.ofString "=2C") 629, .str (Str.ofString "=2D") 633, .str (Str.ofString "=2E") 637, .str (Str.ofString "=2F") 641, .str (Str.ofString "=30") 645, .str (Str.ofString "=31") 649, .str (Str.ofString "=32") 653, .str (Str.ofString "=33") 657, .str (Str.ofString "=34") 661, .str (Str.ofString "=35") 665, .str (Str.ofString "=36") 669, .str (Str.ofString "=37") 673, .str (Str.ofString "=38") 677, .str (Str.ofString "=39") 681, .str (Str.ofString "=3A") 685, .str (Str.ofString "=3B") 689, .str (Str.ofString "=3C") 693, .str (Str.ofString "=3D") 697, .str (Str.ofString "=3E") 701, .str (Str.ofString "=3F") 705, .str (Str.ofString "=40") 709, .str (Str.ofString "=41") 713, .str (Str.ofString "=42") 717, .str (Str.ofString "=43") 721, .str (Str.ofString "=44") 725, .str (Str.ofString "=45") 729, .str (Str.ofString "=46") 733, .str (Str.ofString "=47") 737, .str (Str.ofString "=48") 741, .str (Str.ofString "=49") 745, .str (Str.ofString "=4A") 749, .str (Str.ofString "=4B") 753, .str (Str.ofString "=4C") 757, .str (Str.ofString "=4D") 761, .str (Str.ofString "=4E") 765, .str (Str.ofString "=4F") 769, .str (Str.ofString "=50") 773, .str (Str.ofString "=51") 777, .str (Str.ofString "=52") 781, .str (Str.ofString "=53") 785, .str (Str.ofString "=54") 789, .str (Str.ofString "=55") 793, .str (Str.ofString "=56") 797, .str (Str.ofString "=57") 801, .str (Str.ofString "=58") 805, .str (Str.ofString "=59") 809, .str (Str.ofString "=5A") 813, .str (Str.ofString "=5B") 817, .str (Str.ofString "=5C") 821, .str (Str.ofString "=5D") 825, .str (Str.ofString "=5E") 829, .str (Str.ofString "=5F") 833, .str (Str.ofString "=60") 837, .str (Str.ofString "=61") 841, .str (Str.ofString "=62") 845, .str (Str.ofString "=63") 849, .str (Str.ofString "=64") 853, .str (Str.ofString "=65") 857, .str (Str.ofString "=66") 861, .str (Str.ofString "=67") 865, .str (Str.ofString "=68") 869, .str (Str.ofString "=69") 873, .str (Str.ofString "=6A") 877, .str (Str.ofString "=6B") 881, .str (Str.ofString "=6C") 885, .str (Str.ofString "=6D") 889, .str (Str.ofString "=6E") 893, .str (Str.ofString "=6F") 897, .str (Str.ofString "=70") 901, .str (Str.ofString "=71") 905, .str (Str.ofString "=72") 909, .str (Str.ofString "=73") 913, .str (Str.ofString "=74") 917, .str (Str.ofString "=75") 921, .str (Str.ofString "=76") 925, .str (Str.ofString "=77") 929, .str (Str.ofString "=78") 933, .str (Str.ofString "=79") 937, .str (Str.ofString "=7A") 941, .str (Str.ofString "=7B") 945, .str (Str.ofString "=7C") 949, .str (Str.ofString "=7D") 953, .str (Str.ofString "=7E") 957, .str (Str.ofString "=7F") 961, .str (Str.ofString "=80") 965, .str (Str.ofString "=81") 969, .str (Str.ofString "=82") 973, .str (Str.ofString "=83") 977, .str (Str.ofString "=84") 981, .str (Str.ofString "=85") 985, .str (Str.ofString "=86") 989, .str (Str.ofString "=87") 993, .str (Str.ofString "=88") 997, .str (Str.ofString "=89") 1001, .str (Str.ofString "=8A") 1005, .str (Str.ofString "=8B") 1009, .str (Str.ofString "=8C") 1013, .str (Str.ofString "=8D") 1017, .str (Str.ofString "=8E") 1021, .str (Str.ofString "=8F") 1025, .str (Str.ofString "=90") 1029, .str (Str.ofString "=91") 1033, .str (Str.ofString "=92") 1037, .str (Str.ofString "=93") 1041, .str (Str.ofString "=94") 1045, .str (Str.ofString "=95") 1049, .str (Str.ofString "=96") 1053, .str (Str.ofString "=97") 1057, .str (Str.ofString "=98") 1061, .str (Str.ofString "=99") 1065, .str (Str.ofString "=9A") 1069, .str (Str.ofString "=9B") 1073, .str (Str.ofString "=9C") 1077, .str (Str.ofString "=9D") 1081, .str (Str.ofString "=9E") 1085, .str (Str.ofString "=9F") 1089, .str (Str.ofString "=A0") 1093, .str (Str.ofString "=A1") 1097, .str (Str.ofString "=A2") 1101, .str (Str.ofString "=A3") 1105, .str (Str.ofString "=A4") 1109, .str (Str.ofString "=A5") 1113, .str (Str.ofString "=A6") 1117, .str (Str.ofString "=A7") 1121, .str (Str.ofString "=A8") 1125, .str (Str.ofString "=A9") 1129, .str (Str.ofString "=AA") 1133, .str (Str.ofString "=AB") 1137, .str (Str.ofString "=AC") 1141, .str (Str.ofString "=AD") 1145, .str (Str.ofString "=AE") 1149, .str (Str.ofString "=AF") 1153, .str (Str.ofString "=B0") 1157, .str (Str.ofString "=B1") 1161, .str (Str.ofString "=B2") 1165, .str (Str.ofString "=B3") 1169, .str (Str.ofString "=B4") 1173, .str (Str.ofString "=B5") 1177, .str (Str.ofString "=B6") 1181, .str (Str.ofString "=B7") 1185, .str (Str.ofString "=B8") 1189, .str (Str.ofString "=B9") 1193, .str (Str.ofString "=BA") 1197, .str (Str.ofString "=BB") 1201, .str (Str.ofString "=BC") 1205, .str (Str.ofString "=BD") 1209, .str (Str.ofString "=BE") 1213, .str (Str.ofString "=BF") 1217, .str (Str.ofString "=C0") 1221, .str (Str.ofString "=C1") 1225, .str (Str.ofString "=C2") 1229, .str (Str.ofString "=C3") 1233, .str (Str.ofString "=C4") 1237, .str (Str.ofString "=C5") 1241, .str (Str.ofString "=C6") 1245, .str (Str.ofString "=C7") 1249, .str (Str.ofString "=C8") 1253, .str (Str.ofString "=C9") 1257, .str (Str.ofString "=CA") 1261, .str (Str.ofString "=CB") 1265, .str (Str.ofString "=CC") 1269, .str (Str.ofString "=CD") 1273, .str (Str.ofString "=CE") 1277, .str (Str.ofString "=CF") 1281, .str (Str.ofString "=D0") 1285, .str (Str.ofString "=D1") 1289, .str (Str.ofString "=D2") 1293, .str (Str.ofString "=D3") 1297, .str (Str.ofString "=D4") 1301, .str (Str.ofString "=D5") 1305, .str (Str.ofString "=D6") 1309, .str (Str.ofString "=D7") 1313, .str (Str.ofString "=D8") 1317, .str (Str.ofString "=D9") 1321, .str (Str.ofString "=DA") 1325, .str (Str.ofString "=DB") 1329, .str (Str.ofString "=DC") 1333, .str (Str.ofString "=DD") 1337, .str (Str.ofString "=DE") 1341, .str (Str.ofString "=DF") 1345, .str (Str.ofString "=E0") 1349, .str (Str.ofString "=E1") 1353, .str (Str.ofString "=E2") 1357, .str (Str.ofString "=E3") 1361, .str (Str.ofString "=E4") 1365, .str (Str.ofString "=E5") 1369, .str (Str.ofString "=E6") 1373, .str (Str.ofString "=E7") 1377, .str (Str.ofString "=E8") 1381, .str (Str.ofString "=E9") 1385, .str (Str.ofString "=EA") 1389, .str (Str.ofString "=EB") 1393, .str (Str.ofString "=EC") 1397, .str (Str.ofString "=ED") 1401, .str (Str.ofString "=EE") 1405, .str (Str.ofString "=EF") 1409, .str (Str.ofString "=F0") 1413, .str (Str.ofString "=F1") 1417, .str (Str.ofString "=F2") 1421, .str (Str.ofString "=F3") 1425, .str (Str.ofString "=F4") 1429, .str (Str.ofString "=F5") 1433, .str (Str.ofString "=F6") 1437, .str (Str.ofString "=F7") 1441, .str (Str.ofString "=F8") 1445, .str (Str.ofString "=F9") 1449, .str (Str.ofString "=FA") 1453, .str (Str.ofString "=FB") 1457, .str (Str.ofString "=FC") 1461, .str (Str.ofString "=FD") 1465, .str (Str.ofString "=FE") 1469, .str (Str.ofString "=FF") 1473] 256, #[]⟩
noncomputable def x150_19 (P : Params) : Obj := ⟨.type "dict", none, .dict #[] 2, #[]⟩
noncomputable def x152_19 (P : Params) : Obj := ⟨.type "StopIteration", none, .fields #[.ref 151, .none, .none, .none, .bool false, .none], #[]⟩
noncomputable def x3_27 (P : Params) : Obj := ⟨.type "dict", none, .dict #[en P (Str.ofString "__name__") 165 (.str (Str.ofString "cpy313.email.quoprimime") 1490), en P (Str.ofString "__doc__") 166 (.none), en P (Str.ofString "__package__") 167 (.none), en P (Str.ofString "__loader__") 168 (.builtin "__main__.__loader__#opaque"), en P (Str.ofString "__spec__") 169 (.none), en P (Str.ofString "__annotations__") 170 (.ref 6), en P (Str.ofString "__builtins__") 171 (.ref 4), en P (Str.ofString "__file__") 173 (.str (Str.ofString "/claim/cut.py") 172), en P (Str.ofString "__cached__") 174 (.none), en P (Str.ofString "_sre") 275 (.ref 12), en P (Str.ofString "_wall") 288 (.ref 38), en P (Str.ofString "_plain_name") 299 (.ref 45), en P (Str.ofString "ABCMeta") 325 (.ref 62), en P (Str.ofString "_ABCLike") 368 (.ref 95), en P (Str.ofString "_abc_plain_meta") 375 (.ref 104), en P (Str.ofString "fspath") 387 (.ref 111), en P (Str.ofString "_check_arg_types") 400 (.ref 118), en P (Str.ofString "_get_sep") 409 (.ref 125), en P (Str.ofString "join") 420 (.ref 132), en P (Str.ofString "splitroot") 429 (.ref 139), en P (Str.ofString "normpath") 444 (.ref 146), en P (Str.ofString "NL") 446 (.str (Str.ofString "\n") 445), en P (Str.ofString "_QUOPRI_MAP") 1474 (.ref 149), en P (Str.ofString "_QUOPRI_HEADER_MAP") 1475 (.ref 154), en P (Str.ofString "_QUOPRI_BODY_MAP") 1476 (.ref 156), en P (Str.ofString "ascii_lowercase") 1478 (.str (Str.ofString "abcdefghijklmnopqrstuvwxyz") 1477), en P (Str.ofString "ascii_uppercase") 1480 (.str (Str.ofString "ABCDEFGHIJKLMNOPQRSTUVWXYZ") 1479), en P (Str.ofString "ascii_letters") 1482 (.str (Str.ofString "abcdefghijklmnopqrstuvwxyzABCDEFGHIJKLMNOPQRSTUVWXYZ") 1481), en P (Str.ofString "digits") 1484 (.str (Str.ofString "0123456789") 1483), en P (Str.ofString "hexdigits") 1489 (.str (Str.ofString "0123456789abcdefABCDEF") 1488)] 30, #[]⟩
noncomputable def x153_27 (P : Params) : Obj := ⟨.type "slice", none, .fields #[.none, .none, .none], #[]⟩
noncomputable def x154_27 (P : Params) : Obj := ⟨.type "list", none, .seq #[.str (Str.ofString "=00") 453, .str (Str.ofString "=01") 457, .str (Str.ofString "=02") 461, .str (Str.ofString "=03") 465, .str (Str.ofString "=04") 469, .str (Str.ofString "=05") 473, .str (Str.ofString "=06") 477, .str (Str.ofString "=07") 481, .str (Str.ofString "=08") 485, .str (Str.ofString "=09") 489, .str (Str.ofString "=0A") 493, .str (Str.ofString "=0B") 497, .str (Str.ofString "=0C") 501, .str (Str.ofString "=0D") 505, .str (Str.ofString "=0E") 509, .str (Str.ofString "=0F") 513, .str (Str.ofString "=10") 517, .str (Str.ofString "=11") 521, .str (Str.ofString "=12") 525, .str (Str.ofString "=13") 529, .str (Str.ofString "=14") 533, .str (Str.ofString "=15") 537, .str (Str.ofString "=16") 541, .str (Str.ofString "=17") 545, .str (Str.ofString "=18") 549, .str (Str.ofString "=19") 553, .str (Str.ofString "=1A") 557, .str (Str.ofString "=1B") 561, .str (Str.ofString "=1C") 565, .str (Str.ofString "=1D") 569, .str (Str.ofString "=1E") 573, .str (Str.ofString "=1F") 577, .str (Str.ofString "=20") 581, .str (Str.ofString "=21") 585, .str (Str.ofString "=22") 589, .str (Str.ofString "=23") 593, .str (Str.ofString "=24") 597, .str (Str.ofString "=25") 601, .str (Str.ofString "=26") 605, .str (Str.ofString "=27") 609, .str (Str.ofString "=28") 613, .str (Str.ofString "=29") 617, .str (Str.ofString "=2A") 621, .str (Str.ofString "=2B") 625, .str (Str.ofString "=2C") 629, .str (Str.ofString "=2D") 633, .str (Str.ofString "=2E") 637, .str (Str.ofString "=2F") 641, .str (Str.ofString "=30") 645, .str (Str.ofString "=31") 649, .str (Str.ofString "=32") 653, .str (Str.ofString "=33") 657, .str (Str.ofString "=34") 661, .str (Str.ofString "=35") 665, .str (Str.ofString "=36") 669, .str (Str.ofString "=37") 673, .str (Str.ofString "=38") 677, .str (Str.ofString "=39") 681, .str (Str.ofString "=3A") 685, .str (Str.ofString "=3B") 689, .str (Str.ofString "=3C") 693, .str (Str.ofString "=3D") 697, .str (Str.ofString "=3E") 701, .str (Str.ofString "=3F") 705, .str (Str.ofString "=40") 709, .str (Str.ofString "=41") 713, .str (Str.ofString "=42") 717, .str (Str.ofString "=43") 721, .str (Str.ofString "=44") 725, .str (Str.ofString "=45") 729, .str (Str.ofString "=46") 733, .str (Str.ofString "=47") 737, .str (Str.ofString "=48") 741, .str (Str.ofString "=49") 745, .str (Str.ofString "=4A") 749, .str (Str.ofString "=4B") 753, .str (Str.ofString "=4C") 757, .str (Str.ofString "=4D") 761, .str (Str.ofString "=4E") 765, .str (Str.ofString "=4F") 769, .str (Str.ofString "=50") 773, .str (Str.ofString "=51") 777, .str (Str.ofString "=52") 781, .str (Str.ofString "=53") 785, .str (Str.ofString "=54") 789, .str (Str.ofString "=55") 793, .str (Str.ofString "=56") 797, .str (Str.ofString "=57") 801, .str (Str.ofString "=58") 805, .str (Str.ofString "=59") 809, .str (Str.ofString "=5A") 813, .str (Str.ofString "=5B") 817, .str (Str.ofString "=5C") 821, .str (Str.ofString "=5D") 825, .str (Str.ofString "=5E") 829, .str (Str.ofString "=5F") 833, .str (Str.ofString "=60") 837, .str (Str.ofString "=61") 841, .str (Str.ofString "=62") 845, .str (Str.ofString "=63") 849, .str (Str.ofString "=64") 853, .str (Str.ofString "=65") 857, .str (Str.ofString "=66") 861, .str (Str.ofString "=67") 865, .str (Str.ofString "=68") 869, .str (Str.ofString "=69") 873, .str (Str.ofString "=6A") 877, .str (Str.ofString "=6B") 881, .str (Str.ofString "=6C") 885, .str (Str.ofString "=6D") 889, .str (Str.ofString "=6E") 893, .str (Str.ofString "=6F") 897, .str (Str.ofString "=70") 901, .str (Str.ofString "=71") 905, .str (Str.ofString "=72") 909, .str (Str.ofString "=73") 913, .str (Str.ofString "=74") 917, .str (Str.ofString "=75") 921, .str (Str.ofString "=76") 925, .str (Str.ofString "=77") 929, .str (Str.ofString "=78") 933, .str (Str.ofString "=79") 937, .str (Str.ofString "=7A") 941, .str (Str.ofString "=7B") 945, .str (Str.ofString "=7C") 949, .str (Str.ofString "=7D") 953, .str (Str.ofString "=7E") 957, .str (Str.ofString "=7F") 961, .str (Str.ofString "=80") 965, .str (Str.ofString "=81") 969, .str (Str.ofString "=82") 973, .str (Str.ofString "=83") 977, .str (Str.ofString "=84") 981, .str (Str.ofString "=85") 985, .str (Str.ofString "=86") 989, .str (Str.ofString "=87") 993, .str (Str.ofString "=88") 997, .str (Str.ofString "=89") 1001, .str (Str.ofString "=8A") 1005, .str (Str.ofString "=8B") 1009, .str (Str.ofString "=8C") 1013, .str (Str.ofString "=8D") 1017, .str (Str.ofString "=8E") 1021, .str (Str.ofString "=8F") 1025, .str (Str.ofString "=90") 1029, .str (Str.ofString "=91") 1033, .str (Str.ofString "=92") 1037, .str (Str.ofString "=93") 1041, .str (Str.ofString "=94") 1045, .str (Str.ofString "=95") 1049, .str (Str.ofString "=96") 1053, .str (Str.ofString "=97") 1057, .str (Str.ofString "=98") 1061, .str (Str.ofString "=99") 1065, .str (Str.ofString "=9A") 1069, .str (Str.ofString "=9B") 1073, .str (Str.ofString "=9C") 1077, .str (Str.ofString "=9D") 1081, .str (Str.ofString "=9E") 1085, .str (Str.ofString "=9F") 1089, .str (Str.ofString "=A0") 1093, .str (Str.ofString "=A1") 1097, .str (Str.ofString "=A2") 1101, .str (Str.ofString "=A3") 1105, .str (Str.ofString "=A4") 1109, .str (Str.ofString "=A5") 1113, .str (Str.ofString "=A6") 1117, .str (Str.ofString "=A7") 1121, .str (Str.ofString "=A8") 1125, .str (Str.ofString "=A9") 1129, .str (Str.ofString "=AA") 1133, .str (Str.ofString "=AB") 1137, .str (Str.ofString "=AC") 1141, .str (Str.ofString "=AD") 1145, .str (Str.ofString "=AE") 1149, .str (Str.ofString "=AF") 1153, .str (Str.ofString "=B0") 1157, .str (Str.ofString "=B1") 1161, .str (Str.ofString "=B2") 1165, .str (Str.ofString "=B3") 1169, .str (Str.ofString "=B4") 1173, .str (Str.ofString "=B5") 1177, .str (Str.ofString "=B6") 1181, .str (Str.ofString "=B7") 1185, .str (Str.ofString "=B8") 1189, .str (Str.ofString "=B9") 1193, .str (Str.ofString "=BA") 1197, .str (Str.ofString "=BB") 1201, .str (Str.ofString "=BC") 1205, .str (Str.ofString "=BD") 1209, .str (Str.ofString "=BE") 1213, .str (Str.ofString "=BF") 1217, .str (Str.ofString "=C0") 1221, .str (Str.ofString "=C1") 1225, .str (Str.ofString "=C2") 1229, .str (Str.ofString "=C3") 1233, .str (Str.ofString "=C4") 1237, .str (Str.ofString "=C5") 1241, .str (Str.ofString "=C6") 1245, .str (Str.ofString "=C7") 1249, .str (Str.ofString "=C8") 1253, .str (Str.ofString "=C9") 1257, .str (Str.ofString "=CA") 1261, .str (Str.ofString "=CB") 1265, .str (Str.ofString "=CC") 1269, .str (Str.ofString "=CD") 1273, .str (Str.ofString "=CE") 1277, .str (Str.ofString "=CF") 1281, .str (Str.ofString "=D0") 1285, .str (Str.ofString "=D1") 1289, .str (Str.ofString "=D2") 1293, .str (Str.ofString "=D3") 1297, .str (Str.ofString "=D4") 1301, .str (Str.ofString "=D5") 1305, .str (Str.ofString "=D6") 1309, .str (Str.ofString "=D7") 1313, .str (Str.ofString "=D8") 1317, .str (Str.ofString "=D9") 1321, .str (Str.ofString "=DA") 1325, .str (Str.ofString "=DB") 1329, .str (Str.ofString "=DC") 1333, .str (Str.ofString "=DD") 1337, .str (Str.ofString "=DE") 1341, .str (Str.ofString "=DF") 1345, .str (Str.ofString "=E0") 1349, .str (Str.ofString "=E1") 1353, .str (Str.ofString "=E2") 1357, .str (Str.ofString "=E3") 1361, .str (Str.ofString "=E4") 1365, .str (Str.ofString "=E5") 1369, .str (Str.ofString "=E6") 1373, .str (Str.ofString "=E7") 1377, .str (Str.ofString "=E8") 1381, .str (Str.ofString "=E9") 1385, .str (Str.ofString "=EA") 1389, .str (Str.ofString "=EB") 1393, .str (Str.ofString "=EC") 1397, .str (Str.ofString "=ED") 1401, .str (Str.ofString "=EE") 1405, .str (Str.ofString "=EF") 1409, .str (Str.ofString "=F0") 1413, .str (Str.ofString "=F1") 1417, .str (Str.ofString "=F2") 1421, .str (Str.ofString "=F3") 1425, .str (Str.ofString "=F4") 1429, .str (Str.ofString "=F5") 1433, .str (Str.ofString "=F6") 1437, .str (Str.ofString "=F7") 1441, .str (Str.ofString "=F8") 1445, .str (Str.ofString "=F9") 1449, .str (Str.ofString "=FA") 1453, .str (Str.ofString "=FB") 1457, .str (Str.ofString "=FC") 1461, .str (Str.ofString "=FD") 1465, .str (Str.ofString "=FE") 1469, .str (Str.ofString "=FF") 1473] 0, #[]⟩
noncomputable def x3_28 (P : Params) : Obj := ⟨.type "dict", none, .dict #[en P (Str.ofString "__name__") 165 (.str (Str.ofString "cpy313.email.quoprimime") 1490), en P (Str.ofString "__doc__") 166 (.none), en P (Str.ofString "__package__") 167 (.none), en P (Str.ofString "__loader__") 168 (.builtin "__main__.__loader__#opaque"), en P (Str.ofString "__spec__") 169 (.none), en P (Str.ofString "__annotations__") 170 (.ref 6), en P (Str.ofString "__builtins__") 171 (.ref 4), en P (Str.ofString "__file__") 173 (.str (Str.ofString "/claim/cut.py") 172), en P (Str.ofString "__cached__") 174 (.none), en P (Str.ofString "_sre") 275 (.ref 12), en P (Str.ofString "_wall") 288 (.ref 38), en P (Str.ofString "_plain_name") 299 (.ref 45), en P (Str.ofString "ABCMeta") 325 (.ref 62), en P (Str.ofString "_ABCLike") 368 (.ref 95), en P (Str.ofString "_abc_plain_meta") 375 (.ref 104), en P (Str.ofString "fspath") 387 (.ref 111), en P (Str.ofString "_check_arg_types") 400 (.ref 118), en P (Str.ofString "_get_sep") 409 (.ref 125), en P (Str.ofString "join") 420 (.ref 132), en P (Str.ofString "splitroot") 429 (.ref 139), en P (Str.ofString "normpath") 444 (.ref 146), en P (Str.ofString "NL") 446 (.str (Str.ofString "\n") 445), en P (Str.ofString "_QUOPRI_MAP") 1474 (.ref 149), en P (Str.ofString "_QUOPRI_HEADER_MAP") 1475 (.ref 154), en P (Str.ofString "_QUOPRI_BODY_MAP") 1476 (.ref 156), en P (Str.ofString "ascii_lowercase") 1478 (.str (Str.ofString "abcdefghijklmnopqrstuvwxyz") 1477), en P (Str.ofString "ascii_uppercase") 1480 (.str (Str.ofString "ABCDEFGHIJKLMNOPQRSTUVWXYZ") 1479), en P (Str.ofString "ascii_letters") 1482 (.str (Str.ofString "abcdefghijklmnopqrstuvwxyzABCDEFGHIJKLMNOPQRSTUVWXYZ") 1481), en P (Str.ofString "digits") 1484 (.str (Str.ofString "0123456789") 1483), en P (Str.ofString "hexdigits") 1489 (.str (Str.ofString "0123456789abcdefABCDEF") 1488), en P (Str.ofString "c") 1500 (.int 57 1697)] 31, #[]⟩
noncomputable def x154_28 (P : Params) : Obj := ⟨.type "list", none, .seq #[.str (Str.ofString "=00") 453, .str (Str.ofString "=01") 457, .str (Str.ofString "=02") 461, .str (Str.ofString "=03") 465, .str (Str.ofString "=04") 469, .str (Str.ofString "=05") 473, .str (Str.ofString "=06") 477, .str (Str.ofString "=07") 481, .str (Str.ofString "=08") 485, .str (Str.ofString "=09") 489, .str (Str.ofString "=0A") 493, .str (Str.ofString "=0B") 497, .str (Str.ofString "=0C") 501, .str (Str.ofString "=0D") 505, .str (Str.ofString "=0E") 509, .str (Str.ofString "=0F") 513, .str (Str.ofString "=10") 517, .str (Str.ofString "=11") 521, .str (Str.ofString "=12") 525, .str (Str.ofString "=13") 529, .str (Str.ofString "=14") 533, .str (Str.ofString "=15") 537, .str (Str.ofString "=16") 541, .str (Str.ofString "=17") 545, .str (Str.ofString "=18") 549, .str (Str.ofString "=19") 553, .str (Str.ofString "=1A") 557, .str (Str.ofString "=1B") 561, .str (Str.ofString "=1C") 565, .str (Str.ofString "=1D") 569, .str (Str.ofString "=1E") 573, .str (Str.ofString "=1F") 577, .str (Str.ofString "=20") 581, .str (Str.ofString "!") 1504, .str (Str.ofString "=22") 589, .str (Str.ofString "=23") 593, .str (Str.ofString "=24") 597, .str (Str.ofString "=25") 601, .str (Str.ofString "=26") 605, .str (Str.ofString "=27") 609, .str (Str.ofString "=28") 613, .str (Str.ofString "=29") 617, .str (Str.ofString "*") 1507, .str (Str.ofString "+") 1510, .str (Str.ofString "=2C") 629, .str (Str.ofString "-") 1501, .str (Str.ofString "=2E") 637, .str (Str.ofString "/") 1513, .str (Str.ofString "0") 1672, .str (Str.ofString "1") 1675, .str (Str.ofString "2") 1678, .str (Str.ofString "3") 1681, .str (Str.ofString "4") 1684, .str (Str.ofString "5") 1687, .str (Str.ofString "6") 1690, .str (Str.ofString "7") 1693, .str (Str.ofString "8") 1696, .str (Str.ofString "9") 1699, .str (Str.ofString "=3A") 685, .str (Str.ofString "=3B") 689, .str (Str.ofString "=3C") 693, .str (Str.ofString "=3D") 697, .str (Str.ofString "=3E") 701, .str (Str.ofString "=3F") 705, .str (Str.ofString "=40") 709, .str (Str.ofString "A") 1594, .str (Str.ofString "B") 1597, .str (Str.ofString "C") 1600, .str (Str.ofString "D") 1603, .str (Str.ofString "E") 1606, .str (Str.ofString "F") 1609, .str (Str.ofString "G") 1612, .str (Str.ofString "H") 1615, .str (Str.ofString "I") 1618, .str (Str.ofString "J") 1621, .str (Str.ofString "K") 1624, .str (Str.ofString "L") 1627, .str (Str.ofString "M") 1630, .str (Str.ofString "N") 1633, .str (Str.ofString "O") 1636, .str (Str.ofString "P") 1639, .str (Str.ofString "Q") 1642, .str (Str.ofString "R") 1645, .str (Str.ofString "S") 1648, .str (Str.ofString "T") 1651, .str (Str.ofString "U") 1654, .str (Str.ofString "V") 1657, .str (Str.ofString "W") 1660, .str (Str.ofString "X") 1663, .str (Str.ofString "Y") 1666, .str (Str.ofString "Z") 1669, .str (Str.ofString "=5B") 817, .str (Str.ofString "=5C") 821, .str (Str.ofString "=5D") 825, .str (Str.ofString "=5E") 829, .str (Str.ofString "=5F") 833, .str (Str.ofString "=60") 837, .str (Str.ofString "a") 1516, .str (Str.ofString "b") 1519, .str (Str.ofString "c") 1522, .str (Str.ofString "d") 1525, .str (Str.ofString "e") 1528, .str (Str.ofString "f") 1531, .str (Str.ofString "g") 1534, .str (Str.ofString "h") 1537, .str (Str.ofString "i") 1540, .str (Str.ofString "j") 1543, .str (Str.ofString "k") 1546, .str (Str.ofString "l") 1549, .str (Str.ofString "m") 1552, .str (Str.ofString "n") 1555, .str (Str.ofString "o") 1558, .str (Str.ofString "p") 1561, .str (Str.ofString "q") 1564, .str (Str.ofString "r") 1567, .str (Str.ofString "s") 1570, .str (Str.ofString "t") 1573, .str (Str.ofString "u") 1576, .str (Str.ofString "v") 1579, .str (Str.ofString "w") 1582, .str (Str.ofString "x") 1585, .str (Str.ofString "y") 1588, .str (Str.ofString "z") 1591, .str (Str.ofString "=7B") 945, .str (Str.ofString "=7C") 949, .str (Str.ofString "=7D") 953, .str (Str.ofString "=7E") 957, .str (Str.ofString "=7F") 961, .str (Str.ofString "=80") 965, .str (Str.ofString "=81") 969, .str (Str.ofString "=82") 973, .str (Str.ofString "=83") 977, .str (Str.ofString "=84") 981, .str (Str.ofString "=85") 985, .str (Str.ofString "=86") 989, .str (Str.ofString "=87") 993, .str (Str.ofString "=88") 997, .str (Str.ofString "=89") 1001, .str (Str.ofString "=8A") 1005, .str (Str.ofString "=8B") 1009, .str (Str.ofString "=8C") 1013, .str (Str.ofString "=8D") 1017, .str (Str.ofString "=8E") 1021, .str (Str.ofString "=8F") 1025, .str (Str.ofString "=90") 1029, .str (Str.ofString "=91") 1033, .str (Str.ofString "=92") 1037, .str (Str.ofString "=93") 1041, .str (Str.ofString "=94") 1045, .str (Str.ofString "=95") 1049, .str (Str.ofString "=96") 1053, .str (Str.ofString "=97") 1057, .str (Str.ofString "=98") 1061, .str (Str.ofString "=99") 1065, .str (Str.ofString "=9A") 1069, .str (Str.ofString "=9B") 1073, .str (Str.ofString "=9C") 1077, .str (Str.ofString "=9D") 1081, .str (Str.ofString "=9E") 1085, .str (Str.ofString "=9F") 1089, .str (Str.ofString "=A0") 1093, .str (Str.ofString "=A1") 1097, .str (Str.ofString "=A2") 1101, .str (Str.ofString "=A3") 1105, .str (Str.ofString "=A4") 1109, .str (Str.ofString "=A5") 1113, .str (Str.ofString "=A6") 1117, .str (Str.ofString "=A7") 1121, .str (Str.ofString "=A8") 1125, .str (Str.ofString "=A9") 1129, .str (Str.ofString "=AA") 1133, .str (Str.ofString "=AB") 1137, .str (Str.ofString "=AC") 1141, .str (Str.ofString "=AD") 1145, .str (Str.ofString "=AE") 1149, .str (Str.ofString "=AF") 1153, .str (Str.ofString "=B0") 1157, .str (Str.ofString "=B1") 1161, .str (Str.ofString "=B2") 1165, .str (Str.ofString "=B3") 1169, .str (Str.ofString "=B4") 1173, .str (Str.ofString "=B5") 1177, .str (Str.ofString "=B6") 1181, .str (Str.ofString "=B7") 1185, .str (Str.ofString "=B8") 1189, .str (Str.ofString "=B9") 1193, .str (Str.ofString "=BA") 1197, .str (Str.ofString "=BB") 1201, .str (Str.ofString "=BC") 1205, .str (Str.ofString "=BD") 1209, .str (Str.ofString "=BE") 1213, .str (Str.ofString "=BF") 1217, .str (Str.ofString "=C0") 1221, .str (Str.ofString "=C1") 1225, .str (Str.ofString "=C2") 1229, .str (Str.ofString "=C3") 1233, .str (Str.ofString "=C4") 1237, .str (Str.ofString "=C5") 1241, .str (Str.ofString "=C6") 1245, .str (Str.ofString "=C7") 1249, .str (Str.ofString "=C8") 1253, .str (Str.ofString "=C9") 1257, .str (Str.ofString "=CA") 1261, .str (Str.ofString "=CB") 1265, .str (Str.ofString "=CC") 1269, .str (Str.ofString "=CD") 1273, .str (Str.ofString "=CE") 1277, .str (Str.ofString "=CF") 1281, .str (Str.ofString "=D0") 1285, .str (Str.ofString "=D1") 1289, .str (Str.ofString "=D2") 1293, .str (Str.ofString "=D3") 1297, .str (Str.ofString "=D4") 1301, .str (Str.ofString "=D5") 1305, .str (Str.ofString "=D6") 1309, .str (Str.ofString "=D7") 1313, .str (Str.ofString "=D8") 1317, .str (Str.ofString "=D9") 1321, .str (Str.ofString "=DA") 1325, .str (Str.ofString "=DB") 1329, .str (Str.ofString "=DC") 1333, .str (Str.ofString "=DD") 1337, .str (Str.ofString "=DE") 1341, .str (Str.ofString "=DF") 1345, .str (Str.ofString "=E0") 1349, .str (Str.ofString "=E1") 1353, .str (Str.ofString "=E2") 1357, .str (Str.ofString "=E3") 1361, .str (Str.ofString "=E4") 1365, .str (Str.ofString "=E5") 1369, .str (Str.ofString "=E6") 1373, .str (Str.ofString "=E7") 1377, .str (Str.ofString "=E8") 1381, .str (Str.ofString "=E9") 1385, .str (Str.ofString "=EA") 1389, .str (Str.ofString "=EB") 1393, .str (Str.ofString "=EC") 1397, .str (Str.ofString "=ED") 1401, .str (Str.ofString "=EE") 1405, .str (Str.ofString "=EF") 1409, .str (Str.ofString "=F0") 1413, .str (Str.ofString "=F1") 1417, .str (Str.ofString "=F2") 1421, .str (Str.ofString "=F3") 1425, .str (Str.ofString "=F4") 1429, .str (Str.ofString "=F5") 1433, .str (Str.ofString "=F6") 1437, .str (Str.ofString "=F7") 1441, .str (Str.ofString "=F8") 1445, .str (Str.ofString "=F9") 1449, .str (Str.ofString "=FA") 1453, .str (Str.ofString "=FB") 1457, .str (Str.ofString "=FC") 1461, .str (Str.ofString "=FD") 1465, .str (Str.ofString "=FE") 1469, .str (Str.ofString "=FF") 1473] 0, #[]⟩
noncomputable def x157_28 (P : Params) : Obj := ⟨.type "bytes_iterator", none, .fields #[.none, .int 67 0], #[]⟩
noncomputable def x159_28 (P : Params) : Obj := ⟨.type "StopIteration", none, .fields #[.ref 158, .none, .none, .none, .bool false, .none], #[]⟩
noncomputable def x154_29 (P : Params) : Obj := ⟨.type "list", none, .seq #[.str (Str.ofString "=00") 453, .str (Str.ofString "=01") 457, .str (Str.ofString "=02") 461, .str (Str.ofString "=03") 465, .str (Str.ofString "=04") 469, .str (Str.ofString "=05") 473, .str (Str.ofString "=06") 477, .str (Str.ofString "=07") 481, .str (Str.ofString "=08") 485, .str (Str.ofString "=09") 489, .str (Str.ofString "=0A") 493, .str (Str.ofString "=0B") 497, .str (Str.ofString "=0C") 501, .str (Str.ofString "=0D") 505, .str (Str.ofString "=0E") 509, .str (Str.ofString "=0F") 513, .str (Str.ofString "=10") 517, .str (Str.ofString "=11") 521, .str (Str.ofString "=12") 525, .str (Str.ofString "=13") 529, .str (Str.ofString "=14") 533, .str (Str.ofString "=15") 537, .str (Str.ofString "=16") 541, .str (Str.ofString "=17") 545, .str (Str.ofString "=18") 549, .str (Str.ofString "=19") 553, .str (Str.ofString "=1A") 557, .str (Str.ofString "=1B") 561, .str (Str.ofString "=1C") 565, .str (Str.ofString "=1D") 569, .str (Str.ofString "=1E") 573, .str (Str.ofString "=1F") 577, .str (Str.ofString "_") 1700, .str (Str.ofString "!") 1504, .str (Str.ofString "=22") 589, .str (Str.ofString "=23") 593, .str (Str.ofString "=24") 597, .str (Str.ofString "=25") 601, .str (Str.ofString "=26") 605, .str (Str.ofString "=27") 609, .str (Str.ofString "=28") 613, .str (Str.ofString "=29") 617, .str (Str.ofString "*") 1507, .str (Str.ofString "+") 1510, .str (Str.ofString "=2C") 629, .str (Str.ofString "-") 1501, .str (Str.ofString "=2E") 637, .str (Str.ofString "/") 1513, .str (Str.ofString "0") 1672, .str (Str.ofString "1") 1675, .str (Str.ofString "2") 1678, .str (Str.ofString "3") 1681, .str (Str.ofString "4") 1684, .str (Str.ofString "5") 1687, .str (Str.ofString "6") 1690, .str (Str.ofString "7") 1693, .str (Str.ofString "8") 1696, .str (Str.ofString "9") 1699, .str (Str.ofString "=3A") 685, .str (Str.ofString "=3B") 689, .str (Str.ofString "=3C") 693, .str (Str.ofString "=3D") 697, .str (Str.ofString "=3E") 701, .str (Str.ofString "=3F") 705, .str (Str.ofString "=40") 709, .str (Str.ofString "A") 1594, .str (Str.ofString "B") 1597, .str (Str.ofString "C") 1600, .str (Str.ofString "D") 1603, .str (Str.ofString "E") 1606, .str (Str.ofString "F") 1609, .str (Str.ofString "G") 1612, .str (Str.ofString "H") 1615, .str (Str.ofString "I") 1618, .str (Str.ofString "J") 1621, .str (Str.ofString "K") 1624, .str (Str.ofString "L") 1627, .str (Str.ofString "M") 1630, .str (Str.ofString "N") 1633, .str (Str.ofString "O") 1636, .str (Str.ofString "P") 1639, .str (Str.ofString "Q") 1642, .str (Str.ofString "R") 1645, .str (Str.ofString "S") 1648, .str (Str.ofString "T") 1651, .str (Str.ofString "U") 1654, .str (Str.ofString "V") 1657, .str (Str.ofString "W") 1660, .str (Str.ofString "X") 1663, .str (Str.ofString "Y") 1666, .str (Str.ofString "Z") 1669, .str (Str.ofString "=5B") 817, .str (Str.ofString "=5C") 821, .str (Str.ofString "=5D") 825, .str (Str.ofString "=5E") 829, .str (Str.ofString "=5F") 833, .str (Str.ofString "=60") 837, .str (Str.ofString "a") 1516, .str (Str.ofString "b") 1519, .str (Str.ofString "c") 1522, .str (Str.ofString "d") 1525, .str (Str.ofString "e") 1528, .str (Str.ofString "f") 1531, .str (Str.ofString "g") 1534, .str (Str.ofString "h") 1537, .str (Str.ofString "i") 1540, .str (Str.ofString "j") 1543, .str (Str.ofString "k") 1546, .str (Str.ofString "l") 1549, .str (Str.ofString "m") 1552, .str (Str.ofString "n") 1555, .str (Str.ofString "o") 1558, .str (Str.ofString "p") 1561, .str (Str.ofString "q") 1564, .str (Str.ofString "r") 1567, .str (Str.ofString "s") 1570, .str (Str.ofString "t") 1573, .str (Str.ofString "u") 1576, .str (Str.ofString "v") 1579, .str (Str.ofString "w") 1582, .str (Str.ofString "x") 1585, .str (Str.ofString "y") 1588, .str (Str.ofString "z") 1591, .str (Str.ofString "=7B") 945, .str (Str.ofString "=7C") 949, .str (Str.ofString "=7D") 953, .str (Str.ofString "=7E") 957, .str (Str.ofString "=7F") 961, .str (Str.ofString "=80") 965, .str (Str.ofString "=81") 969, .str (Str.ofString "=82") 973, .str (Str.ofString "=83") 977, .str (Str.ofString "=84") 981, .str (Str.ofString "=85") 985, .str (Str.ofString "=86") 989, .str (Str.ofString "=87") 993, .str (Str.ofString "=88") 997, .str (Str.ofString "=89") 1001, .str (Str.ofString "=8A") 1005, .str (Str.ofString "=8B") 1009, .str (Str.ofString "=8C") 1013, .str (Str.ofString "=8D") 1017, .str (Str.ofString "=8E") 1021, .str (Str.ofString "=8F") 1025, .str (Str.ofString "=90") 1029, .str (Str.ofString "=91") 1033, .str (Str.ofString "=92") 1037, .str (Str.ofString "=93") 1041, .str (Str.ofString "=94") 1045, .str (Str.ofString "=95") 1049, .str (Str.ofString "=96") 1053, .str (Str.ofString "=97") 1057, .str (Str.ofString "=98") 1061, .str (Str.ofString "=99") 1065, .str (Str.ofString "=9A") 1069, .str (Str.ofString "=9B") 1073, .str (Str.ofString "=9C") 1077, .str (Str.ofString "=9D") 1081, .str (Str.ofString "=9E") 1085, .str (Str.ofString "=9F") 1089, .str (Str.ofString "=A0") 1093, .str (Str.ofString "=A1") 1097, .str (Str.ofString "=A2") 1101, .str (Str.ofString "=A3") 1105, .str (Str.ofString "=A4") 1109, .str (Str.ofString "=A5") 1113, .str (Str.ofString "=A6") 1117, .str (Str.ofString "=A7") 1121, .str (Str.ofString "=A8") 1125, .str (Str.ofString "=A9") 1129, .str (Str.ofString "=AA") 1133, .str (Str.ofString "=AB") 1137, .str (Str.ofString "=AC") 1141, .str (Str.ofString "=AD") 1145, .str (Str.ofString "=AE") 1149, .str (Str.ofString "=AF") 1153, .str (Str.ofString "=B0") 1157, .str (Str.ofString "=B1") 1161, .str (Str.ofString "=B2") 1165, .str (Str.ofString "=B3") 1169, .str (Str.ofString "=B4") 1173, .str (Str.ofString "=B5") 1177, .str (Str.ofString "=B6") 1181, .str (Str.ofString "=B7") 1185, .str (Str.ofString "=B8") 1189, .str (Str.ofString "=B9") 1193, .str (Str.ofString "=BA") 1197, .str (Str.ofString "=BB") 1201, .str (Str.ofString "=BC") 1205, .str (Str.ofString "=BD") 1209, .str (Str.ofString "=BE") 1213, .str (Str.ofString "=BF") 1217, .str (Str.ofString "=C0") 1221, .str (Str.ofString "=C1") 1225, .str (Str.ofString "=C2") 1229, .str (Str.ofString "=C3") 1233, .str (Str.ofString "=C4") 1237, .str (Str.ofString "=C5") 1241, .str (Str.ofString "=C6") 1245, .str (Str.ofString "=C7") 1249, .str (Str.ofString "=C8") 1253, .str (Str.ofString "=C9") 1257, .str (Str.ofString "=CA") 1261, .str (Str.ofString "=CB") 1265, .str (Str.ofString "=CC") 1269, .str (Str.ofString "=CD") 1273, .str (Str.ofString "=CE") 1277, .str (Str.ofString "=CF") 1281, .str (Str.ofString "=D0") 1285, .str (Str.ofString "=D1") 1289, .str (Str.ofString "=D2") 1293, .str (Str.ofString "=D3") 1297, .str (Str.ofString "=D4") 1301, .str (Str.ofString "=D5") 1305, .str (Str.ofString "=D6") 1309, .str (Str.ofString "=D7") 1313, .str (Str.ofString "=D8") 1317, .str (Str.ofString "=D9") 1321, .str (Str.ofString "=DA") 1325, .str (Str.ofString "=DB") 1329, .str (Str.ofString "=DC") 1333, .str (Str.ofString "=DD") 1337, .str (Str.ofString "=DE") 1341, .str (Str.ofString "=DF") 1345, .str (Str.ofString "=E0") 1349, .str (Str.ofString "=E1") 1353, .str (Str.ofString "=E2") 1357, .str (Str.ofString "=E3") 1361, .str (Str.ofString "=E4") 1365, .str (Str.ofString "=E5") 1369, .str (Str.ofString "=E6") 1373, .str (Str.ofString "=E7") 1377, .str (Str.ofString "=E8") 1381, .str (Str.ofString "=E9") 1385, .str (Str.ofString "=EA") 1389, .str (Str.ofString "=EB") 1393, .str (Str.ofString "=EC") 1397, .str (Str.ofString "=ED") 1401, .str (Str.ofString "=EE") 1405, .str (Str.ofString "=EF") 1409, .str (Str.ofString "=F0") 1413, .str (Str.ofString "=F1") 1417, .str (Str.ofString "=F2") 1421, .str (Str.ofString "=F3") 1425, .str (Str.ofString "=F4") 1429, .str (Str.ofString "=F5") 1433, .str (Str.ofString "=F6") 1437, .str (Str.ofString "=F7") 1441, .str (Str.ofString "=F8") 1445, .str (Str.ofString "=F9") 1449, .str (Str.ofString "=FA") 1453, .str (Str.ofString "=FB") 1457, .str (Str.ofString "=FC") 1461, .str (Str.ofString "=FD") 1465, .str (Str.ofString "=FE") 1469, .str (Str.ofString "=FF") 1473] 0, #[]⟩
noncomputable def x3_30 (P : Params) : Obj := ⟨.type "dict", none, .dict #[en P (Str.ofString "__name__") 165 (.str (Str.ofString "cpy313.email.quoprimime") 1490), en P (Str.ofString "__doc__") 166 (.none), en P (Str.ofString "__package__") 167 (.none), en P (Str.ofString "__loader__") 168 (.builtin "__main__.__loader__#opaque"), en P (Str.ofString "__spec__") 169 (.none), en P (Str.ofString "__annotations__") 170 (.ref 6), en P (Str.ofString "__builtins__") 171 (.ref 4), en P (Str.ofString "__file__") 173 (.str (Str.ofString "/claim/cut.py") 172), en P (Str.ofString "__cached__") 174 (.none), en P (Str.ofString "_sre") 275 (.ref 12), en P (Str.ofString "_wall") 288 (.ref 38), en P (Str.ofString "_plain_name") 299 (.ref 45), en P (Str.ofString "ABCMeta") 325 (.ref 62), en P (Str.ofString "_ABCLike") 368 (.ref 95), en P (Str.ofString "_abc_plain_meta") 375 (.ref 104), en P (Str.ofString "fspath") 387 (.ref 111), en P (Str.ofString "_check_arg_types") 400 (.ref 118), en P (Str.ofString "_get_sep") 409 (.ref 125), en P (Str.ofString "join") 420 (.ref 132), en P (Str.ofString "splitroot") 429 (.ref 139), en P (Str.ofString "normpath") 444 (.ref 146), en P (Str.ofString "NL") 446 (.str (Str.ofString "\n") 445), en P (Str.ofString "_QUOPRI_MAP") 1474 (.ref 149), en P (Str.ofString "_QUOPRI_HEADER_MAP") 1475 (.ref 154), en P (Str.ofString "_QUOPRI_BODY_MAP") 1476 (.ref 156), en P (Str.ofString "ascii_lowercase") 1478 (.str (Str.ofString "abcdefghijklmnopqrstuvwxyz") 1477), en P (Str.ofString "ascii_uppercase") 1480 (.str (Str.ofString "ABCDEFGHIJKLMNOPQRSTUVWXYZ") 1479), en P (Str.ofString "ascii_letters") 1482 (.str (Str.ofString "abcdefghijklmnopqrstuvwxyzABCDEFGHIJKLMNOPQRSTUVWXYZ") 1481), en P (Str.ofString "digits") 1484 (.str (Str.ofString "0123456789") 1483), en P (Str.ofString "hexdigits") 1489 (.str (Str.ofString "0123456789abcdefABCDEF") 1488), en P (Str.ofString "c") 1500 (.int 9 1986)] 31, #[]⟩
noncomputable def x156_30 (P : Params) : Obj := ⟨.type "list", none, .seq #[.str (Str.ofString "=00") 453, .str (Str.ofString "=01") 457, .str (Str.ofString "=02") 461, .str (Str.ofString "=03") 465, .str (Str.ofString "=04") 469, .str (Str.ofString "=05") 473, .str (Str.ofString "=06") 477, .str (Str.ofString "=07") 481, .str (Str.ofString "=08") 485, .str (Str.ofString "\t") 1988, .str (Str.ofString "=0A") 493, .str (Str.ofString "=0B") 497, .str (Str.ofString "=0C") 501, .str (Str.ofString "=0D") 505, .str (Str.ofString "=0E") 509, .str (Str.ofString "=0F") 513, .str (Str.ofString "=10") 517, .str (Str.ofString "=11") 521, .str (Str.ofString "=12") 525, .str (Str.ofString "=13") 529, .str (Str.ofString "=14") 533, .str (Str.ofString "=15") 537, .str (Str.ofString "=16") 541, .str (Str.ofString "=17") 545, .str (Str.ofString "=18") 549, .str (Str.ofString "=19") 553, .str (Str.ofString "=1A") 557, .str (Str.ofString "=1B") 561, .str (Str.ofString "=1C") 565, .str (Str.ofString "=1D") 569, .str (Str.ofString "=1E") 573, .str (Str.ofString "=1F") 577, .str (Str.ofString " ") 1706, .str (Str.ofString "!") 1709, .str (Str.ofString "\"") 1712, .str (Str.ofString "#") 1715, .str (Str.ofString "$") 1718, .str (Str.ofString "%") 1721, .str (Str.ofString "&") 1724, .str (Str.ofString "'") 1727, .str (Str.ofString "(") 1730, .str (Str.ofString ")") 1733, .str (Str.ofString "*") 1736, .str (Str.ofString "+") 1739, .str (Str.ofString ",") 1742, .str (Str.ofString "-") 1745, .str (Str.ofString ".") 1748, .str (Str.ofString "/") 1751, .str (Str.ofString "0") 1754, .str (Str.ofString "1") 1757, .str (Str.ofString "2") 1760, .str (Str.ofString "3") 1763, .str (Str.ofString "4") 1766, .str (Str.ofString "5") 1769, .str (Str.ofString "6") 1772, .str (Str.ofString "7") 1775, .str (Str.ofString "8") 1778, .str (Str.ofString "9") 1781, .str (Str.ofString ":") 1784, .str (Str.ofString ";") 1787, .str (Str.ofString "<") 1790, .str (Str.ofString "=3D") 697, .str (Str.ofString ">") 1793, .str (Str.ofString "?") 1796, .str (Str.ofString "@") 1799, .str (Str.ofString "A") 1802, .str (Str.ofString "B") 1805, .str (Str.ofString "C") 1808, .str (Str.ofString "D") 1811, .str (Str.ofString "E") 1814, .str (Str.ofString "F") 1817, .str (Str.ofString "G") 1820, .str (Str.ofString "H") 1823, .str (Str.ofString "I") 1826, .str (Str.ofString "J") 1829, .str (Str.ofString "K") 1832, .str (Str.ofString "L") 1835, .str (Str.ofString "M") 1838, .str (Str.ofString "N") 1841, .str (Str.ofString "O") 1844, .str (Str.ofString "P") 1847, .str (Str.ofString "Q") 1850, .str (Str.ofString "R") 1853, .str (Str.ofString "S") 1856, .str (Str.ofString "T") 1859, .str (Str.ofString "U") 1862, .str (Str.ofString "V") 1865, .str (Str.ofString "W") 1868, .str (Str.ofString "X") 1871, .str (Str.ofString "Y") 1874, .str (Str.ofString "Z") 1877, .str (Str.ofString "[") 1880, .str (Str.ofString "\\") 1883, .str (Str.ofString "]") 1886, .str (Str.ofString "^") 1889, .str (Str.ofString "_") 1892, .str (Str.ofString "`") 1895, .str (Str.ofString "a") 1898, .str (Str.ofString "b") 1901, .str (Str.ofString "c") 1904, .str (Str.ofString "d") 1907, .str (Str.ofString "e") 1910, .str (Str.ofString "f") 1913, .str (Str.ofString "g") 1916, .str (Str.ofString "h") 1919, .str (Str.ofString "i") 1922, .str (Str.ofString "j") 1925, .str (Str.ofString "k") 1928, .str (Str.ofString "l") 1931, .str (Str.ofString "m") 1934, .str (Str.ofString "n") 1937, .str (Str.ofString "o") 1940, .str (Str.ofString "p") 1943, .str (Str.ofString "q") 1946, .str (Str.ofString "r") 1949, .str (Str.ofString "s") 1952, .str (Str.ofString "t") 1955, .str (Str.ofString "u") 1958, .str (Str.ofString "v") 1961, .str (Str.ofString "w") 1964, .str (Str.ofString "x") 1967, .str (Str.ofString "y") 1970, .str (Str.ofString "z") 1973, .str (Str.ofString "{") 1976, .str (Str.ofString "|") 1979, .str (Str.ofString "}") 1982, .str (Str.ofString "~") 1985, .str (Str.ofString "=7F") 961, .str (Str.ofString "=80") 965, .str (Str.ofString "=81") 969, .str (Str.ofString "=82") 973, .str (Str.ofString "=83") 977, .str (Str.ofString "=84") 981, .str (Str.ofString "=85") 985, .str (Str.ofString "=86") 989, .str (Str.ofString "=87") 993, .str (Str.ofString "=88") 997, .str (Str.ofString "=89") 1001, .str (Str.ofString "=8A") 1005, .str (Str.ofString "=8B") 1009, .str (Str.ofString "=8C") 1013, .str (Str.ofString "=8D") 1017, .str (Str.ofString "=8E") 1021, .str (Str.ofString "=8F") 1025, .str (Str.ofString "=90") 1029, .str (Str.ofString "=91") 1033, .str (Str.ofString "=92") 1037, .str (Str.ofString "=93") 1041, .str (Str.ofString "=94") 1045, .str (Str.ofString "=95") 1049, .str (Str.ofString "=96") 1053, .str (Str.ofString "=97") 1057, .str (Str.ofString "=98") 1061, .str (Str.ofString "=99") 1065, .str (Str.ofString "=9A") 1069, .str (Str.ofString "=9B") 1073, .str (Str.ofString "=9C") 1077, .str (Str.ofString "=9D") 1081, .str (Str.ofString "=9E") 1085, .str (Str.ofString "=9F") 1089, .str (Str.ofString "=A0") 1093, .str (Str.ofString "=A1") 1097, .str (Str.ofString "=A2") 1101, .str (Str.ofString "=A3") 1105, .str (Str.ofString "=A4") 1109, .str (Str.ofString "=A5") 1113, .str (Str.ofString "=A6") 1117, .str (Str.ofString "=A7") 1121, .str (Str.ofString "=A8") 1125, .str (Str.ofString "=A9") 1129, .str (Str.ofString "=AA") 1133, .str (Str.ofString "=AB") 1137, .str (Str.ofString "=AC") 1141, .str (Str.ofString "=AD") 1145, .str (Str.ofString "=AE") 1149, .str (Str.ofString "=AF") 1153, .str (Str.ofString "=B0") 1157, .str (Str.ofString "=B1") 1161, .str (Str.ofString "=B2") 1165, .str (Str.ofString "=B3") 1169, .str (Str.ofString "=B4") 1173, .str (Str.ofString "=B5") 1177, .str (Str.ofString "=B6") 1181, .str (Str.ofString "=B7") 1185, .str (Str.ofString "=B8") 1189, .str (Str.ofString "=B9") 1193, .str (Str.ofString "=BA") 1197, .str (Str.ofString "=BB") 1201, .str (Str.ofString "=BC") 1205, .str (Str.ofString "=BD") 1209, .str (Str.ofString "=BE") 1213, .str (Str.ofString "=BF") 1217, .str (Str.ofString "=C0") 1221, .str (Str.ofString "=C1") 1225, .str (Str.ofString "=C2") 1229, .str (Str.ofString "=C3") 1233, .str (Str.ofString "=C4") 1237, .str (Str.ofString "=C5") 1241, .str (Str.ofString "=C6") 1245, .str (Str.ofString "=C7") 1249, .str (Str.ofString "=C8") 1253, .str (Str.ofString "=C9") 1257, .str (Str.ofString "=CA") 1261, .str (Str.ofString "=CB") 1265, .str (Str.ofString "=CC") 1269, .str (Str.ofString "=CD") 1273, .str (Str.ofString "=CE") 1277, .str (Str.ofString "=CF") 1281, .str (Str.ofString "=D0") 1285, .str (Str.ofString "=D1") 1289, .str (Str.ofString "=D2") 1293, .str (Str.ofString "=D3") 1297, .str (Str.ofString "=D4") 1301, .str (Str.ofString "=D5") 1305, .str (Str.ofString "=D6") 1309, .str (Str.ofString "=D7") 1313, .str (Str.ofString "=D8") 1317, .str (Str.ofString "=D9") 1321, .str (Str.ofString "=DA") 1325, .str (Str.ofString "=DB") 1329, .str (Str.ofString "=DC") 1333, .str (Str.ofString "=DD") 1337, .str (Str.ofString "=DE") 1341, .str (Str.ofString "=DF") 1345, .str (Str.ofString "=E0") 1349, .str (Str.ofString "=E1") 1353, .str (Str.ofString "=E2") 1357, .str (Str.ofString "=E3") 1361, .str (Str.ofString "=E4") 1365, .str (Str.ofString "=E5") 1369, .str (Str.ofString "=E6") 1373, .str (Str.ofString "=E7") 1377, .str (Str.ofString "=E8") 1381, .str (Str.ofString "=E9") 1385, .str (Str.ofString "=EA") 1389, .str (Str.ofString "=EB") 1393, .str (Str.ofString "=EC") 1397, .str (Str.ofString "=ED") 1401, .str (Str.ofString "=EE") 1405, .str (Str.ofString "=EF") 1409, .str (Str.ofString "=F0") 1413, .str (Str.ofString "=F1") 1417, .str (Str.ofString "=F2") 1421, .str (Str.ofString "=F3") 1425, .str (Str.ofString "=F4") 1429, .str (Str.ofString "=F5") 1433, .str (Str.ofString "=F6") 1437, .str (Str.ofString "=F7") 1441, .str (Str.ofString "=F8") 1445, .str (Str.ofString "=F9") 1449, .str (Str.ofString "=FA") 1453, .str (Str.ofString "=FB") 1457, .str (Str.ofString "=FC") 1461, .str (Str.ofString "=FD") 1465, .str (Str.ofString "=FE") 1469, .str (Str.ofString "=FF") 1473] 0, #[]⟩
noncomputable def x160_30 (P : Params) : Obj := ⟨.type "bytes_iterator", none, .fields #[.none, .int 95 0], #[]⟩
noncomputable def x162_30 (P : Params) : Obj := ⟨.type "StopIteration", none, .fields #[.ref 161, .none, .none, .none, .bool false, .none], #[]⟩
noncomputable def x3_40 (P : Params) : Obj := ⟨.type "dict", none, .dict #[en P (Str.ofString "__name__") 165 (.str (Str.ofString "re") 2073), en P (Str.ofString "__doc__") 166 (.none), en P (Str.ofString "__package__") 167 (.none), en P (Str.ofString "__loader__") 168 (.builtin "__main__.__loader__#opaque"), en P (Str.ofString "__spec__") 169 (.none), en P (Str.ofString "__annotations__") 170 (.ref 6), en P (Str.ofString "__builtins__") 171 (.ref 4), en P (Str.ofString "__file__") 173 (.str (Str.ofString "/claim/cut.py") 172), en P (Str.ofString "__cached__") 174 (.none), en P (Str.ofString "_sre") 275 (.ref 12), en P (Str.ofString "_wall") 288 (.ref 38), en P (Str.ofString "_plain_name") 299 (.ref 45), en P (Str.ofString "ABCMeta") 325 (.ref 62), en P (Str.ofString "_ABCLike") 368 (.ref 95), en P (Str.ofString "_abc_plain_meta") 375 (.ref 104), en P (Str.ofString "fspath") 387 (.ref 111), en P (Str.ofString "_check_arg_types") 400 (.ref 118), en P (Str.ofString "_get_sep") 409 (.ref 125), en P (Str.ofString "join") 420 (.ref 132), en P (Str.ofString "splitroot") 429 (.ref 139), en P (Str.ofString "normpath") 444 (.ref 146), en P (Str.ofString "NL") 446 (.str (Str.ofString "\n") 445), en P (Str.ofString "_QUOPRI_MAP") 1474 (.ref 149), en P (Str.ofString "_QUOPRI_HEADER_MAP") 1475 (.ref 154), en P (Str.ofString "_QUOPRI_BODY_MAP") 1476 (.ref 156), en P (Str.ofString "ascii_lowercase") 1478 (.str (Str.ofString "abcdefghijklmnopqrstuvwxyz") 1477), en P (Str.ofString "ascii_uppercase") 1480 (.str (Str.ofString "ABCDEFGHIJKLMNOPQRSTUVWXYZ") 1479), en P (Str.ofString "ascii_letters") 1482 (.str (Str.ofString "abcdefghijklmnopqrstuvwxyzABCDEFGHIJKLMNOPQRSTUVWXYZ") 1481), en P (Str.ofString "digits") 1484 (.str (Str.ofString "0123456789") 1483), en P (Str.ofString "hexdigits") 1489 (.str (Str.ofString "0123456789abcdefABCDEF") 1488), en P (Str.ofString "unquote") 1995 (.ref 169), en P (Str.ofString "quote") 2002 (.ref 176), en P (Str.ofString "_QUOPRI_BODY_ENCODE_MAP") 2003 (.ref 178), en P (Str.ofString "decode") 2023 (.ref 189), en P (Str.ofString "_twin_re_1") 2063 (.ref 194), en P (Str.ofString "translate") 2072 (.ref 201)] 38, #[]⟩
noncomputable def x29_40 (P : Params) : Obj := ⟨.none, none, .fields #[.int 2 0, .int 0 0, .ref 37, .int 6 0, .int 0 0, .ref 44, .int 12 0, .int 0 0, .ref 51, .int 17 0, .int 0 0, .ref 70, .int 32 0, .int 0 0, .ref 103, .int 36 0, .int 0 0, .ref 110, .int 53 0, .int 0 0, .ref 117, .int 65 0, .int 0 0, .ref 124, .int 70 0, .int 0 0, .ref 131, .int 87 0, .int 0 0, .ref 138, .int 101 0, .int 0 0, .ref 145, .int 141 0, .int 0 0, .ref 168, .int 143 0, .int 0 0, .ref 175, .int 149 0, .int 0 0, .ref 188, .int 181 0, .int 0 0, .ref 200], #[]⟩
noncomputable def x165_40 (P : Params) : Obj := ⟨.type "tuple", none, .seq #[.str (Str.ofString "s") 1992] 0, #[]⟩
noncomputable def x167_40 (P : Params) : Obj := ⟨.none, none, .func { name := Str.ofString "unquote", qualname := Str.ofString "unquote", params := pA31, body := .stmts pB31, scope := pS31, globals := 0, closure := [], defaults := .none, kwdefaults := .none, doc := .none, pyModule := .none, annotations := none, code := .none, closureTuple := .none, builtins := 0 }, #[]⟩
noncomputable def x168_40 (P : Params) : Obj := ⟨.type "code", none, .fields #[.str (Str.ofString "unquote") 1989, .str (Str.ofString "unquote") 1990, .str (Str.ofString "/claim/cut.py") 1991, .int 141 0, .int 1 0, .int 0 0, .int 0 0, .int 3 0, .ref 163, .bool true, .int 276 0, .ref 164, .none, .ref 165, .ref 166, .ref 167, .int 1993 0, .int 141 0, .str (Str.ofString "/claim/cut.py") 1994], #[]⟩
noncomputable def x169_40 (P : Params) : Obj := ⟨.type "function", none, .func { name := Str.ofString "unquote", qualname := Str.ofString "unquote", params := pA31, body := .stmts pB31, scope := pS31, globals := 3, closure := [], defaults := .none, kwdefaults := .none, doc := .none, pyModule := .str (Str.ofString "cpy313.email.quoprimime") 1490, annotations := none, code := .ref 168, closureTuple := .none, builtins := 0 }, #[]⟩
noncomputable def x172_40 (P : Params) : Obj := ⟨.type "tuple", none, .seq #[.str (Str.ofString "c") 1999] 0, #[]⟩
noncomputable def x174_40 (P : Params) : Obj := ⟨.none, none, .func { name := Str.ofString "quote", qualname := Str.ofString "quote", params := pA32, body := .stmts pB32, scope := pS32, globals := 0, closure := [], defaults := .none, kwdefaults := .none, doc := .none, pyModule := .none, annotations := none, code := .none, closureTuple := .none, builtins := 0 }, #[]⟩
noncomputable def x175_40 (P : Params) : Obj := ⟨.type "code", none, .fields #[.str (Str.ofString "quote") 1996, .str (Str.ofString "quote") 1997, .str (Str.ofString "/claim/cut.py") 1998, .int 143 0, .int 1 0, .int 0 0, .int 0 0, .int 3 0, .ref 170, .bool true, .int 276 0, .ref 171, .none, .ref 172, .ref 173, .ref 174, .int 2000 0, .int 143 0, .str (Str.ofString "/claim/cut.py") 2001], #[]⟩
noncomputable def x176_40 (P : Params) : Obj := ⟨.type "function", none, .func { name := Str.ofString "quote", qualname := Str.ofString "quote", params := pA32, body := .stmts pB32, scope := pS32, globals := 3, closure := [], defaults := .none, kwdefaults := .none, doc := .none, pyModule := .str (Str.ofString "cpy313.email.quoprimime") 1490, annotations := none, code := .ref 175, closureTuple := .none, builtins := 0 }, #[]⟩
noncomputable def x178_40 (P : Params) : Obj := ⟨.type "list", none, .seq #[.str (Str.ofString "=00") 453, .str (Str.ofString "=01") 457, .str (Str.ofString "=02") 461, .str (Str.ofString "=03") 465, .str (Str.ofString "=04") 469, .str (Str.ofString "=05") 473, .str (Str.ofString "=06") 477, .str (Str.ofString "=07") 481, .str (Str.ofString "=08") 485, .str (Str.ofString "\t") 1988, .str (Str.ofString "\n") 2010, .str (Str.ofString "=0B") 497, .str (Str.ofString "=0C") 501, .str (Str.ofString "\x0d") 2007, .str (Str.ofString "=0E") 509, .str (Str.ofString "=0F") 513, .str (Str.ofString "=10") 517, .str (Str.ofString "=11") 521, .str (Str.ofString "=12") 525, .str (Str.ofString "=13") 529, .str (Str.ofString "=14") 533, .str (Str.ofString "=15") 537, .str (Str.ofString "=16") 541, .str (Str.ofString "=17") 545, .str (Str.ofString "=18") 549, .str (Str.ofString "=19") 553, .str (Str.ofString "=1A") 557, .str (Str.ofString "=1B") 561, .str (Str.ofString "=1C") 565, .str (Str.ofString "=1D") 569, .str (Str.ofString "=1E") 573, .str (Str.ofString "=1F") 577, .str (Str.ofString " ") 1706, .str (Str.ofString "!") 1709, .str (Str.ofString "\"") 1712, .str (Str.ofString "#") 1715, .str (Str.ofString "$") 1718, .str (Str.ofString "%") 1721, .str (Str.ofString "&") 1724, .str (Str.ofString "'") 1727, .str (Str.ofString "(") 1730, .str (Str.ofString ")") 1733, .str (Str.ofString "*") 1736, .str (Str.ofString "+") 1739, .str (Str.ofString ",") 1742, .str (Str.ofString "-") 1745, .str (Str.ofString ".") 1748, .str (Str.ofString "/") 1751, .str (Str.ofString "0") 1754, .str (Str.ofString "1") 1757, .str (Str.ofString "2") 1760, .str (Str.ofString "3") 1763, .str (Str.ofString "4") 1766, .str (Str.ofString "5") 1769, .str (Str.ofString "6") 1772, .str (Str.ofString "7") 1775, .str (Str.ofString "8") 1778, .str (Str.ofString "9") 1781, .str (Str.ofString ":") 1784, .str (Str.ofString ";") 1787, .str (Str.ofString "<") 1790, .str (Str.ofString "=3D") 697, .str (Str.ofString ">") 1793, .str (Str.ofString "?") 1796, .str (Str.ofString "@") 1799, .str (Str.ofString "A") 1802, .str (Str.ofString "B") 1805, .str (Str.ofString "C") 1808, .str (Str.ofString "D") 1811, .str (Str.ofString "E") 1814, .str (Str.ofString "F") 1817, .str (Str.ofString "G") 1820, .str (Str.ofString "H") 1823, .str (Str.ofString "I") 1826, .str (Str.ofString "J") 1829, .str (Str.ofString "K") 1832, .str (Str.ofString "L") 1835, .str (Str.ofString "M") 1838, .str (Str.ofString "N") 1841, .str (Str.ofString "O") 1844, .str (Str.ofString "P") 1847, .str (Str.ofString "Q") 1850, .str (Str.ofString "R") 1853, .str (Str.ofString "S") 1856, .str (Str.ofString "T") 1859, .str (Str.ofString "U") 1862, .str (Str.ofString "V") 1865, .str (Str.ofString "W") 1868, .str (Str.ofString "X") 1871, .str (Str.ofString "Y") 1874, .str (Str.ofString "Z") 1877, .str (Str.ofString "[") 1880, .str (Str.ofString "\\") 1883, .str (Str.ofString "]") 1886, .str (Str.ofString "^") 1889, .str (Str.ofString "_") 1892, .str (Str.ofString "`") 1895, .str (Str.ofString "a") 1898, .str (Str.ofString "b") 1901, .str (Str.ofString "c") 1904, .str (Str.ofString "d") 1907, .str (Str.ofString "e") 1910, .str (Str.ofString "f") 1913, .str (Str.ofString "g") 1916, .str (Str.ofString "h") 1919, .str (Str.ofString "i") 1922, .str (Str.ofString "j") 1925, .str (Str.ofString "k") 1928, .str (Str.ofString "l") 1931, .str (Str.ofString "m") 1934, .str (Str.ofString "n") 1937, .str (Str.ofString "o") 1940, .str (Str.ofString "p") 1943, .str (Str.ofString "q") 1946, .str (Str.ofString "r") 1949, .str (Str.ofString "s") 1952, .str (Str.ofString "t") 1955, .str (Str.ofString "u") 1958, .str (Str.ofString "v") 1961, .str (Str.ofString "w") 1964, .str (Str.ofString "x") 1967, .str (Str.ofString "y") 1970, .str (Str.ofString "z") 1973, .str (Str.ofString "{") 1976, .str (Str.ofString "|") 1979, .str (Str.ofString "}") 1982, .str (Str.ofString "~") 1985, .str (Str.ofString "=7F") 961, .str (Str.ofString "=80") 965, .str (Str.ofString "=81") 969, .str (Str.ofString "=82") 973, .str (Str.ofString "=83") 977, .str (Str.ofString "=84") 981, .str (Str.ofString "=85") 985, .str (Str.ofString "=86") 989, .str (Str.ofString "=87") 993, .str (Str.ofString "=88") 997, .str (Str.ofString "=89") 1001, .str (Str.ofString "=8A") 1005, .str (Str.ofString "=8B") 1009, .str (Str.ofString "=8C") 1013, .str (Str.ofString "=8D") 1017, .str (Str.ofString "=8E") 1021, .str (Str.ofString "=8F") 1025, .str (Str.ofString "=90") 1029, .str (Str.ofString "=91") 1033, .str (Str.ofString "=92") 1037, .str (Str.ofString "=93") 1041, .str (Str.ofString "=94") 1045, .str (Str.ofString "=95") 1049, .str (Str.ofString "=96") 1053, .str (Str.ofString "=97") 1057, .str (Str.ofString "=98") 1061, .str (Str.ofString "=99") 1065, .str (Str.ofString "=9A") 1069, .str (Str.ofString "=9B") 1073, .str (Str.ofString "=9C") 1077, .str (Str.ofString "=9D") 1081, .str (Str.ofString "=9E") 1085, .str (Str.ofString "=9F") 1089, .str (Str.ofString "=A0") 1093, .str (Str.ofString "=A1") 1097, .str (Str.ofString "=A2") 1101, .str (Str.ofString "=A3") 1105, .str (Str.ofString "=A4") 1109, .str (Str.ofString "=A5") 1113, .str (Str.ofString "=A6") 1117, .str (Str.ofString "=A7") 1121, .str (Str.ofString "=A8") 1125, .str (Str.ofString "=A9") 1129, .str (Str.ofString "=AA") 1133, .str (Str.ofString "=AB") 1137, .str (Str.ofString "=AC") 1141, .str (Str.ofString "=AD") 1145, .str (Str.ofString "=AE") 1149, .str (Str.ofString "=AF") 1153, .str (Str.ofString "=B0") 1157, .str (Str.ofString "=B1") 1161, .str (Str.ofString "=B2") 1165, .str (Str.ofString "=B3") 1169, .str (Str.ofString "=B4") 1173, .str (Str.ofString "=B5") 1177, .str (Str.ofString "=B6") 1181, .str (Str.ofString "=B7") 1185, .str (Str.ofString "=B8") 1189, .str (Str.ofString "=B9") 1193, .str (Str.ofString "=BA") 1197, .str (Str.ofString "=BB") 1201, .str (Str.ofString "=BC") 1205, .str (Str.ofString "=BD") 1209, .str (Str.ofString "=BE") 1213, .str (Str.ofString "=BF") 1217, .str (Str.ofString "=C0") 1221, .str (Str.ofString "=C1") 1225, .str (Str.ofString "=C2") 1229, .str (Str.ofString "=C3") 1233, .str (Str.ofString "=C4") 1237, .str (Str.ofString "=C5") 1241, .str (Str.ofString "=C6") 1245, .str (Str.ofString "=C7") 1249, .str (Str.ofString "=C8") 1253, .str (Str.ofString "=C9") 1257, .str (Str.ofString "=CA") 1261, .str (Str.ofString "=CB") 1265, .str (Str.ofString "=CC") 1269, .str (Str.ofString "=CD") 1273, .str (Str.ofString "=CE") 1277, .str (Str.ofString "=CF") 1281, .str (Str.ofString "=D0") 1285, .str (Str.ofString "=D1") 1289, .str (Str.ofString "=D2") 1293, .str (Str.ofString "=D3") 1297, .str (Str.ofString "=D4") 1301, .str (Str.ofString "=D5") 1305, .str (Str.ofString "=D6") 1309, .str (Str.ofString "=D7") 1313, .str (Str.ofString "=D8") 1317, .str (Str.ofString "=D9") 1321, .str (Str.ofString "=DA") 1325, .str (Str.ofString "=DB") 1329, .str (Str.ofString "=DC") 1333, .str (Str.ofString "=DD") 1337, .str (Str.ofString "=DE") 1341, .str (Str.ofString "=DF") 1345, .str (Str.ofString "=E0") 1349, .str (Str.ofString "=E1") 1353, .str (Str.ofString "=E2") 1357, .str (Str.ofString "=E3") 1361, .str (Str.ofString "=E4") 1365, .str (Str.ofString "=E5") 1369, .str (Str.ofString "=E6") 1373, .str (Str.ofString "=E7") 1377, .str (Str.ofString "=E8") 1381, .str (Str.ofString "=E9") 1385, .str (Str.ofString "=EA") 1389, .str (Str.ofString "=EB") 1393, .str (Str.ofString "=EC") 1397, .str (Str.ofString "=ED") 1401, .str (Str.ofString "=EE") 1405, .str (Str.ofString "=EF") 1409, .str (Str.ofString "=F0") 1413, .str (Str.ofString "=F1") 1417, .str (Str.ofString "=F2") 1421, .str (Str.ofString "=F3") 1425, .str (Str.ofString "=F4") 1429, .str (Str.ofString "=F5") 1433, .str (Str.ofString "=F6") 1437, .str (Str.ofString "=F7") 1441, .str (Str.ofString "=F8") 1445, .str (Str.ofString "=F9") 1449, .str (Str.ofString "=FA") 1453, .str (Str.ofString "=FB") 1457, .str (Str.ofString "=FC") 1461, .str (Str.ofString "=FD") 1465, .str (Str.ofString "=FE") 1469, .str (Str.ofString "=FF") 1473] 0, #[]⟩
noncomputable def x179_40 (P : Params) : Obj := ⟨.type "bytes_iterator", none, .fields #[.none, .int 2 0], #[]⟩
noncomputable def x181_40 (P : Params) : Obj := ⟨.type "StopIteration", none, .fields #[.ref 180, .none, .none, .none, .bool false, .none], #[]⟩
noncomputable def x182_40 (P : Params) : Obj := ⟨.type "tuple", none, .seq #[.str (Str.ofString "\n") 445] 0, #[]⟩
noncomputable def x185_40 (P : Params) : Obj := ⟨.type "tuple", none, .seq #[.str (Str.ofString "encoded") 2014, .str (Str.ofString "eol") 2015, .str (Str.ofString "decoded") 2016, .str (Str.ofString "line") 2017, .str (Str.ofString "i") 2018, .str (Str.ofString "n") 2019, .str (Str.ofString "c") 2020] 0, #[]⟩
noncomputable def x187_40 (P : Params) : Obj := ⟨.none, none, .func { name := Str.ofString "decode", qualname := Str.ofString "decode", params := pA36, body := .stmts pB36, scope := pS36, globals := 0, closure := [], defaults := .none, kwdefaults := .none, doc := .none, pyModule := .none, annotations := none, code := .none, closureTuple := .none, builtins := 0 }, #[]⟩
noncomputable def x188_40 (P : Params) : Obj := ⟨.type "code", none, .fields #[.str (Str.ofString "decode") 2011, .str (Str.ofString "decode") 2012, .str (Str.ofString "/claim/cut.py") 2013, .int 149 0, .int 2 0, .int 0 0, .int 0 0, .int 3 0, .ref 183, .bool true, .int 276 0, .ref 184, .none, .ref 185, .ref 186, .ref 187, .int 2021 0, .int 149 0, .str (Str.ofString "/claim/cut.py") 2022], #[]⟩
noncomputable def x189_40 (P : Params) : Obj := ⟨.type "function", none, .func { name := Str.ofString "decode", qualname := Str.ofString "decode", params := pA36, body := .stmts pB36, scope := pS36, globals := 3, closure := [], defaults := .ref 182, kwdefaults := .none, doc := .none, pyModule := .str (Str.ofString "cpy313.email.quoprimime") 1490, annotations := none, code := .ref 188, closureTuple := .none, builtins := 0 }, #[]⟩
noncomputable def x190_40 (P : Params) : Obj := ⟨.type "list", none, .seq #[.int 14 2029, .int 14 2030, .int 4 2031, .int 1 2032, .int 1 2033, .int 9 2034, .int 0 2035, .int 64 2036, .int 0 2037, .int 1342177280 2038, .int 0 2039, .int 0 2040, .int 0 2041, .int 0 2042, .int 0 2043, .int 17 2044, .int 0 2045, .int 13 2046, .int 11 2047, .int 9 2048, .int 0 2049, .int 64 2050, .int 0 2051, .int 1342177280 2052, .int 0 2053, .int 0 2054, .int 0 2055, .int 0 2056, .int 0 2057, .int 17 2058, .int 1 2059, .int 1 2060] 0, #[]⟩
noncomputable def x192_40 (P : Params) : Obj := ⟨.type "tuple", none, .seq #[.none, .none] 0, #[]⟩
noncomputable def x193_40 (P : Params) : Obj := ⟨.type "tuple", none, .seq #[.int 14 0, .int 14 0, .int 4 0, .int 1 0, .int 1 0, .int 9 0, .int 0 0, .int 64 0, .int 0 0, .int 1342177280 0, .int 0 0, .int 0 0, .int 0 0, .int 0 0, .int 0 0, .int 17 0, .int 0 0, .int 13 0, .int 11 0, .int 9 0, .int 0 0, .int 64 0, .int 0 0, .int 1342177280 0, .int 0 0, .int 0 0, .int 0 0, .int 0 0, .int 0 0, .int 17 0, .int 1 0, .int 1 0] 0, #[]⟩
noncomputable def x194_40 (P : Params) : Obj := ⟨.type "re.Pattern", none, .fields #[.str (Str.ofString "([&~|])") 2027, .int 32 2062, .int 1 0, .none, .none, .ref 193, .int 0 0], #[]⟩
noncomputable def x197_40 (P : Params) : Obj := ⟨.type "tuple", none, .seq #[.str (Str.ofString "pat") 2067, .str (Str.ofString "STAR") 2068, .str (Str.ofString "parts") 2069] 0, #[]⟩
noncomputable def x199_40 (P : Params) : Obj := ⟨.none, none, .func { name := Str.ofString "translate", qualname := Str.ofString "translate", params := pA39, body := .stmts pB39, scope := pS39, globals := 0, closure := [], defaults := .none, kwdefaults := .none, doc := .none, pyModule := .none, annotations := none, code := .none, closureTuple := .none, builtins := 0 }, #[]⟩
noncomputable def x200_40 (P : Params) : Obj := ⟨.type "code", none, .fields #[.str (Str.ofString "translate") 2064, .str (Str.ofString "translate") 2065, .str (Str.ofString "/claim/cut.py") 2066, .int 181 0, .int 1 0, .int 0 0, .int 0 0, .int 3 0, .ref 195, .bool true, .int 276 0, .ref 196, .none, .ref 197, .ref 198, .ref 199, .int 2070 0, .int 181 0, .str (Str.ofString "/claim/cut.py") 2071], #[]⟩
noncomputable def x201_40 (P : Params) : Obj := ⟨.type "function", none, .func { name := Str.ofString "translate", qualname := Str.ofString "translate", params := pA39, body := .stmts pB39, scope := pS39, globals := 3, closure := [], defaults := .none, kwdefaults := .none, doc := .none, pyModule := .str (Str.ofString "cpy313.fnmatch") 2024, annotations := none, code := .ref 200, closureTuple := .none, builtins := 0 }, #[]⟩
noncomputable def x3_41 (P : Params) : Obj := ⟨.type "dict", none, .dict #[en P (Str.ofString "__name__") 165 (.str (Str.ofString "re") 2073), en P (Str.ofString "__doc__") 166 (.none), en P (Str.ofString "__package__") 167 (.none), en P (Str.ofString "__loader__") 168 (.builtin "__main__.__loader__#opaque"), en P (Str.ofString "__spec__") 169 (.none), en P (Str.ofString "__annotations__") 170 (.ref 6), en P (Str.ofString "__builtins__") 171 (.ref 4), en P (Str.ofString "__file__") 173 (.str (Str.ofString "/claim/cut.py") 172), en P (Str.ofString "__cached__") 174 (.none), en P (Str.ofString "_sre") 275 (.ref 12), en P (Str.ofString "_wall") 288 (.ref 38), en P (Str.ofString "_plain_name") 299 (.ref 45), en P (Str.ofString "ABCMeta") 325 (.ref 62), en P (Str.ofString "_ABCLike") 368 (.ref 95), en P (Str.ofString "_abc_plain_meta") 375 (.ref 104), en P (Str.ofString "fspath") 387 (.ref 111), en P (Str.ofString "_check_arg_types") 400 (.ref 118), en P (Str.ofString "_get_sep") 409 (.ref 125), en P (Str.ofString "join") 420 (.ref 132), en P (Str.ofString "splitroot") 429 (.ref 139), en P (Str.ofString "normpath") 444 (.ref 146), en P (Str.ofString "NL") 446 (.str (Str.ofString "\n") 445), en P (Str.ofString "_QUOPRI_MAP") 1474 (.ref 149), en P (Str.ofString "_QUOPRI_HEADER_MAP") 1475 (.ref 154), en P (Str.ofString "_QUOPRI_BODY_MAP") 1476 (.ref 156), en P (Str.ofString "ascii_lowercase") 1478 (.str (Str.ofString "abcdefghijklmnopqrstuvwxyz") 1477), en P (Str.ofString "ascii_uppercase") 1480 (.str (Str.ofString "ABCDEFGHIJKLMNOPQRSTUVWXYZ") 1479), en P (Str.ofString "ascii_letters") 1482 (.str (Str.ofString "abcdefghijklmnopqrstuvwxyzABCDEFGHIJKLMNOPQRSTUVWXYZ") 1481), en P (Str.ofString "digits") 1484 (.str (Str.ofString "0123456789") 1483), en P (Str.ofString "hexdigits") 1489 (.str (Str.ofString "0123456789abcdefABCDEF") 1488), en P (Str.ofString "unquote") 1995 (.ref 169), en P (Str.ofString "quote") 2002 (.ref 176), en P (Str.ofString "_QUOPRI_BODY_ENCODE_MAP") 2003 (.ref 178), en P (Str.ofString "decode") 2023 (.ref 189), en P (Str.ofString "_twin_re_1") 2063 (.ref 194), en P (Str.ofString "translate") 2072 (.ref 201), en P (Str.ofString "_special_chars_map") 2220 (.ref 203)] 39, #[]⟩
noncomputable def x202_41 (P : Params) : Obj := ⟨.type "bytes_iterator", none, .fields #[.none, .int 24 0], #[]⟩
noncomputable def x203_41 (P : Params) : Obj := ⟨.type "dict", none, .dict #[⟨40, .int 40 2076, .str (Str.ofString "\\(") 2080⟩, ⟨41, .int 41 2082, .str (Str.ofString "\\)") 2086⟩, ⟨91, .int 91 2088, .str (Str.ofString "\\[") 2092⟩, ⟨93, .int 93 2094, .str (Str.ofString "\\]") 2098⟩, ⟨123, .int 123 2100, .str (Str.ofString "\\{") 2104⟩, ⟨125, .int 125 2106, .str (Str.ofString "\\}") 2110⟩, ⟨63, .int 63 2112, .str (Str.ofString "\\?") 2116⟩, ⟨42, .int 42 2118, .str (Str.ofString "\\*") 2122⟩, ⟨43, .int 43 2124, .str (Str.ofString "\\+") 2128⟩, ⟨45, .int 45 2130, .str (Str.ofString "\\-") 2134⟩, ⟨124, .int 124 2136, .str (Str.ofString "\\|") 2140⟩, ⟨94, .int 94 2142, .str (Str.ofString "\\^") 2146⟩, ⟨36, .int 36 2148, .str (Str.ofString "\\$") 2152⟩, ⟨92, .int 92 2154, .str (Str.ofString "\\\\") 2158⟩, ⟨46, .int 46 2160, .str (Str.ofString "\\.") 2164⟩, ⟨38, .int 38 2166, .str (Str.ofString "\\&") 2170⟩, ⟨126, .int 126 2172, .str (Str.ofString "\\~") 2176⟩, ⟨35, .int 35 2178, .str (Str.ofString "\\#") 2182⟩, ⟨32, .int 32 2184, .str (Str.ofString "\\ ") 2188⟩, ⟨9, .int 9 2190, .str (Str.ofString "\\\t") 2194⟩, ⟨10, .int 10 2196, .str (Str.ofString "\\\n") 2200⟩, ⟨13, .int 13 2202, .str (Str.ofString "\\\x0d") 2206⟩, ⟨11, .int 11 2208, .str (Str.ofString "\\\x0b") 2212⟩, ⟨12, .int 12 2214, .str (Str.ofString "\\\x0c") 2218⟩] 24, #[]⟩
noncomputable def x206_41 (P : Params) : Obj := ⟨.type "StopIteration", none, .fields #[.ref 205, .none, .none, .none, .bool false, .none], #[]⟩
noncomputable def x3_51 (P : Params) : Obj := ⟨.type "dict", none, .dict #[en P (Str.ofString "__name__") 165 (.str (Str.ofString "law_rt0091_01") 2262), en P (Str.ofString "__doc__") 166 (.none), en P (Str.ofString "__package__") 167 (.none), en P (Str.ofString "__loader__") 168 (.builtin "__main__.__loader__#opaque"), en P (Str.ofString "__spec__") 169 (.none), en P (Str.ofString "__annotations__") 170 (.ref 6), en P (Str.ofString "__builtins__") 171 (.ref 4), en P (Str.ofString "__file__") 173 (.str (Str.ofString "/claim/cut.py") 172), en P (Str.ofString "__cached__") 174 (.none), en P (Str.ofString "_sre") 275 (.ref 12), en P (Str.ofString "_wall") 288 (.ref 38), en P (Str.ofString "_plain_name") 299 (.ref 45), en P (Str.ofString "ABCMeta") 325 (.ref 62), en P (Str.ofString "_ABCLike") 368 (.ref 95), en P (Str.ofString "_abc_plain_meta") 375 (.ref 104), en P (Str.ofString "fspath") 387 (.ref 111), en P (Str.ofString "_check_arg_types") 400 (.ref 118), en P (Str.ofString "_get_sep") 409 (.ref 125), en P (Str.ofString "join") 420 (.ref 132), en P (Str.ofString "splitroot") 429 (.ref 139), en P (Str.ofString "normpath") 444 (.ref 146), en P (Str.ofString "NL") 446 (.str (Str.ofString "\n") 445), en P (Str.ofString "_QUOPRI_MAP") 1474 (.ref 149), en P (Str.ofString "_QUOPRI_HEADER_MAP") 1475 (.ref 154), en P (Str.ofString "_QUOPRI_BODY_MAP") 1476 (.ref 156), en P (Str.ofString "ascii_lowercase") 1478 (.str (Str.ofString "abcdefghijklmnopqrstuvwxyz") 1477), en P (Str.ofString "ascii_uppercase") 1480 (.str (Str.ofString "ABCDEFGHIJKLMNOPQRSTUVWXYZ") 1479), en P (Str.ofString "ascii_letters") 1482 (.str (Str.ofString "abcdefghijklmnopqrstuvwxyzABCDEFGHIJKLMNOPQRSTUVWXYZ") 1481), en P (Str.ofString "digits") 1484 (.str (Str.ofString "0123456789") 1483), en P (Str.ofString "hexdigits") 1489 (.str (Str.ofString "0123456789abcdefABCDEF") 1488), en P (Str.ofString "unquote") 1995 (.ref 169), en P (Str.ofString "quote") 2002 (.ref 176), en P (Str.ofString "_QUOPRI_BODY_ENCODE_MAP") 2003 (.ref 178), en P (Str.ofString "decode") 2023 (.ref 189), en P (Str.ofString "_twin_re_1") 2063 (.ref 194), en P (Str.ofString "translate") 2072 (.ref 201), en P (Str.ofString "_special_chars_map") 2220 (.ref 203), en P (Str.ofString "escape") 2227 (.ref 213), en P (Str.ofString "_translate") 2248 (.ref 220), en P (Str.ofString "_join_translated_parts") 2261 (.ref 227), en P (Str.ofString "_law_link") 2273 (.ref 234), en P (Str.ofString "_law_place") 2283 (.ref 241), en P (Str.ofString "_law_takes") 2289 (.ref 246), en P (Str.ofString "_law_records") 2300 (.ref 253), en P (Str.ofString "law") 2306 (.ref 258)] 47, #[]⟩
noncomputable def x29_51 (P : Params) : Obj := ⟨.none, none, .fields #[.int 2 0, .int 0 0, .ref 37, .int 6 0, .int 0 0, .ref 44, .int 12 0, .int 0 0, .ref 51, .int 17 0, .int 0 0, .ref 70, .int 32 0, .int 0 0, .ref 103, .int 36 0, .int 0 0, .ref 110, .int 53 0, .int 0 0, .ref 117, .int 65 0, .int 0 0, .ref 124, .int 70 0, .int 0 0, .ref 131, .int 87 0, .int 0 0, .ref 138, .int 101 0, .int 0 0, .ref 145, .int 141 0, .int 0 0, .ref 168, .int 143 0, .int 0 0, .ref 175, .int 149 0, .int 0 0, .ref 188, .int 181 0, .int 0 0, .ref 200, .int 187 0, .int 0 0, .ref 212, .int 194 0, .int 0 0, .ref 219, .int 256 0, .int 0 0, .ref 226, .int 284 0, .int 0 0, .ref 233, .int 291 0, .int 0 0, .ref 240, .int 296 0, .int 0 0, .ref 245, .int 307 0, .int 0 0, .ref 252, .int 316 0, .int 0 0, .ref 257], #[]⟩
noncomputable def x209_51 (P : Params) : Obj := ⟨.type "tuple", none, .seq #[.str (Str.ofString "pattern") 2224] 0, #[]⟩
noncomputable def x211_51 (P : Params) : Obj := ⟨.none, none, .func { name := Str.ofString "escape", qualname := Str.ofString "escape", params := pA42, body := .stmts pB42, scope := pS42, globals := 0, closure := [], defaults := .none, kwdefaults := .none, doc := .none, pyModule := .none, annotations := none, code := .none, closureTuple := .none, builtins := 0 }, #[]⟩
noncomputable def x212_51 (P : Params) : Obj := ⟨.type "code", none, .fields #[.str (Str.ofString "escape") 2221, .str (Str.ofString "escape") 2222, .str (Str.ofString "/claim/cut.py") 2223, .int 187 0, .int 1 0, .int 0 0, .int 0 0, .int 3 0, .ref 207, .bool true, .int 276 0, .ref 208, .none, .ref 209, .ref 210, .ref 211, .int 2225 0, .int 187 0, .str (Str.ofString "/claim/cut.py") 2226], #[]⟩
noncomputable def x213_51 (P : Params) : Obj := ⟨.type "function", none, .func { name := Str.ofString "escape", qualname := Str.ofString "escape", params := pA42, body := .stmts pB42, scope := pS42, globals := 3, closure := [], defaults := .none, kwdefaults := .none, doc := .none, pyModule := .str (Str.ofString "re") 2073, annotations := none, code := .ref 212, closureTuple := .none, builtins := 0 }, #[]⟩
noncomputable def x216_51 (P : Params) : Obj := ⟨.type "tuple", none, .seq #[.str (Str.ofString "pat") 2233, .str (Str.ofString "STAR") 2234, .str (Str.ofString "QUESTION_MARK") 2235, .str (Str.ofString "res") 2236, .str (Str.ofString "add") 2237, .str (Str.ofString "i") 2238, .str (Str.ofString "n") 2239, .str (Str.ofString "c") 2240, .str (Str.ofString "j") 2241, .str (Str.ofString "stuff") 2242, .str (Str.ofString "chunks") 2243, .str (Str.ofString "k") 2244, .str (Str.ofString "chunk") 2245] 0, #[]⟩
noncomputable def x218_51 (P : Params) : Obj := ⟨.none, none, .func { name := Str.ofString "_translate", qualname := Str.ofString "_translate", params := pA44, body := .stmts pB44, scope := pS44, globals := 0, closure := [], defaults := .none, kwdefaults := .none, doc := .none, pyModule := .none, annotations := none, code := .none, closureTuple := .none, builtins := 0 }, #[]⟩
noncomputable def x219_51 (P : Params) : Obj := ⟨.type "code", none, .fields #[.str (Str.ofString "_translate") 2230, .str (Str.ofString "_translate") 2231, .str (Str.ofString "/claim/cut.py") 2232, .int 194 0, .int 3 0, .int 0 0, .int 0 0, .int 3 0, .ref 214, .bool true, .int 276 0, .ref 215, .none, .ref 216, .ref 217, .ref 218, .int 2246 0, .int 194 0, .str (Str.ofString "/claim/cut.py") 2247], #[]⟩
noncomputable def x220_51 (P : Params) : Obj := ⟨.type "function", none, .func { name := Str.ofString "_translate", qualname := Str.ofString "_translate", params := pA44, body := .stmts pB44, scope := pS44, globals := 3, closure := [], defaults := .none, kwdefaults := .none, doc := .none, pyModule := .str (Str.ofString "cpy313.fnmatch") 2228, annotations := none, code := .ref 219, closureTuple := .none, builtins := 0 }, #[]⟩
noncomputable def x223_51 (P : Params) : Obj := ⟨.type "tuple", none, .seq #[.str (Str.ofString "inp") 2252, .str (Str.ofString "STAR") 2253, .str (Str.ofString "res") 2254, .str (Str.ofString "add") 2255, .str (Str.ofString "i") 2256, .str (Str.ofString "n") 2257, .str (Str.ofString "fixed") 2258] 0, #[]⟩
noncomputable def x225_51 (P : Params) : Obj := ⟨.none, none, .func { name := Str.ofString "_join_translated_parts", qualname := Str.ofString "_join_translated_parts", params := pA45, body := .stmts pB45, scope := pS45, globals := 0, closure := [], defaults := .none, kwdefaults := .none, doc := .none, pyModule := .none, annotations := none, code := .none, closureTuple := .none, builtins := 0 }, #[]⟩
noncomputable def x226_51 (P : Params) : Obj := ⟨.type "code", none, .fields #[.str (Str.ofString "_join_translated_parts") 2249, .str (Str.ofString "_join_translated_parts") 2250, .str (Str.ofString "/claim/cut.py") 2251, .int 256 0, .int 2 0, .int 0 0, .int 0 0, .int 3 0, .ref 221, .bool true, .int 276 0, .ref 222, .none, .ref 223, .ref 224, .ref 225, .int 2259 0, .int 256 0, .str (Str.ofString "/claim/cut.py") 2260], #[]⟩
noncomputable def x227_51 (P : Params) : Obj := ⟨.type "function", none, .func { name := Str.ofString "_join_translated_parts", qualname := Str.ofString "_join_translated_parts", params := pA45, body := .stmts pB45, scope := pS45, globals := 3, closure := [], defaults := .none, kwdefaults := .none, doc := .none, pyModule := .str (Str.ofString "cpy313.fnmatch") 2228, annotations := none, code := .ref 226, closureTuple := .none, builtins := 0 }, #[]⟩
noncomputable def x230_51 (P : Params) : Obj := ⟨.type "tuple", none, .seq #[.str (Str.ofString "link") 2267, .str (Str.ofString "reach") 2268, .str (Str.ofString "way") 2269, .str (Str.ofString "level") 2270] 0, #[]⟩
noncomputable def x232_51 (P : Params) : Obj := ⟨.none, none, .func { name := Str.ofString "_law_link", qualname := Str.ofString "_law_link", params := pA47, body := .stmts pB47, scope := pS47, globals := 0, closure := [], defaults := .none, kwdefaults := .none, doc := .none, pyModule := .none, annotations := none, code := .none, closureTuple := .none, builtins := 0 }, #[]⟩
noncomputable def x233_51 (P : Params) : Obj := ⟨.type "code", none, .fields #[.str (Str.ofString "_law_link") 2264, .str (Str.ofString "_law_link") 2265, .str (Str.ofString "/claim/cut.py") 2266, .int 284 0, .int 2 0, .int 0 0, .int 0 0, .int 3 0, .ref 228, .bool true, .int 276 0, .ref 229, .none, .ref 230, .ref 231, .ref 232, .int 2271 0, .int 284 0, .str (Str.ofString "/claim/cut.py") 2272], #[]⟩
noncomputable def x234_51 (P : Params) : Obj := ⟨.type "function", none, .func { name := Str.ofString "_law_link", qualname := Str.ofString "_law_link", params := pA47, body := .stmts pB47, scope := pS47, globals := 3, closure := [], defaults := .none, kwdefaults := .none, doc := .none, pyModule := .str (Str.ofString "law_rt0091_01") 2262, annotations := none, code := .ref 233, closureTuple := .none, builtins := 0 }, #[]⟩
noncomputable def x237_51 (P : Params) : Obj := ⟨.type "tuple", none, .seq #[.str (Str.ofString "links") 2277, .str (Str.ofString "uses") 2278, .str (Str.ofString "way") 2279, .str (Str.ofString "link") 2280] 0, #[]⟩
noncomputable def x239_51 (P : Params) : Obj := ⟨.none, none, .func { name := Str.ofString "_law_place", qualname := Str.ofString "_law_place", params := pA48, body := .stmts pB48, scope := pS48, globals := 0, closure := [], defaults := .none, kwdefaults := .none, doc := .none, pyModule := .none, annotations := none, code := .none, closureTuple := .none, builtins := 0 }, #[]⟩
noncomputable def x240_51 (P : Params) : Obj := ⟨.type "code", none, .fields #[.str (Str.ofString "_law_place") 2274, .str (Str.ofString "_law_place") 2275, .str (Str.ofString "/claim/cut.py") 2276, .int 291 0, .int 2 0, .int 0 0, .int 0 0, .int 3 0, .ref 235, .bool true, .int 276 0, .ref 236, .none, .ref 237, .ref 238, .ref 239, .int 2281 0, .int 291 0, .str (Str.ofString "/claim/cut.py") 2282], #[]⟩
noncomputable def x241_51 (P : Params) : Obj := ⟨.type "function", none, .func { name := Str.ofString "_law_place", qualname := Str.ofString "_law_place", params := pA48, body := .stmts pB48, scope := pS48, globals := 3, closure := [], defaults := .none, kwdefaults := .none, doc := .none, pyModule := .str (Str.ofString "law_rt0091_01") 2262, annotations := none, code := .ref 240, closureTuple := .none, builtins := 0 }, #[]⟩
noncomputable def x244_51 (P : Params) : Obj := ⟨.none, none, .func { name := Str.ofString "_law_takes", qualname := Str.ofString "_law_takes", params := pA49, body := .stmts pB49, scope := pS49, globals := 0, closure := [], defaults := .none, kwdefaults := .none, doc := .none, pyModule := .none, annotations := none, code := .none, closureTuple := .none, builtins := 0 }, #[]⟩
noncomputable def x245_51 (P : Params) : Obj := ⟨.type "code", none, .fields #[.str (Str.ofString "_law_takes") 2284, .str (Str.ofString "_law_takes") 2285, .str (Str.ofString "/claim/cut.py") 2286, .int 296 0, .int 2 0, .int 0 0, .int 0 0, .int 3 0, .ref 242, .bool true, .int 276 0, .ref 243, .none, .none, .none, .ref 244, .int 2287 0, .int 296 0, .str (Str.ofString "/claim/cut.py") 2288], #[]⟩
noncomputable def x246_51 (P : Params) : Obj := ⟨.type "function", none, .func { name := Str.ofString "_law_takes", qualname := Str.ofString "_law_takes", params := pA49, body := .stmts pB49, scope := pS49, globals := 3, closure := [], defaults := .none, kwdefaults := .none, doc := .none, pyModule := .str (Str.ofString "law_rt0091_01") 2262, annotations := none, code := .ref 245, closureTuple := .none, builtins := 0 }, #[]⟩
noncomputable def x249_51 (P : Params) : Obj := ⟨.type "tuple", none, .seq #[.str (Str.ofString "uses") 2293, .str (Str.ofString "reaches") 2294, .str (Str.ofString "records") 2295, .str (Str.ofString "owners") 2296, .str (Str.ofString "link") 2297] 0, #[]⟩
noncomputable def x251_51 (P : Params) : Obj := ⟨.none, none, .func { name := Str.ofString "_law_records", qualname := Str.ofString "_law_records", params := pA50, body := .stmts pB50, scope := pS50, globals := 0, closure := [], defaults := .none, kwdefaults := .none, doc := .none, pyModule := .none, annotations := none, code := .none, closureTuple := .none, builtins := 0 }, #[]⟩
noncomputable def x252_51 (P : Params) : Obj := ⟨.type "code", none, .fields #[.str (Str.ofString "_law_records") 2290, .str (Str.ofString "_law_records") 2291, .str (Str.ofString "/claim/cut.py") 2292, .int 307 0, .int 2 0, .int 0 0, .int 0 0, .int 3 0, .ref 247, .bool true, .int 276 0, .ref 248, .none, .ref 249, .ref 250, .ref 251, .int 2298 0, .int 307 0, .str (Str.ofString "/claim/cut.py") 2299], #[]⟩
noncomputable def x253_51 (P : Params) : Obj := ⟨.type "function", none, .func { name := Str.ofString "_law_records", qualname := Str.ofString "_law_records", params := pA50, body := .stmts pB50, scope := pS50, globals := 3, closure := [], defaults := .none, kwdefaults := .none, doc := .none, pyModule := .str (Str.ofString "law_rt0091_01") 2262, annotations := none, code := .ref 252, closureTuple := .none, builtins := 0 }, #[]⟩
noncomputable def x256_51 (P : Params) : Obj := ⟨.none, none, .func { name := Str.ofString "law", qualname := Str.ofString "law", params := pA51, body := .stmts pB51, scope := pS51, globals := 0, closure := [], defaults := .none, kwdefaults := .none, doc := .none, pyModule := .none, annotations := none, code := .none, closureTuple := .none, builtins := 0 }, #[]⟩
noncomputable def x257_51 (P : Params) : Obj := ⟨.type "code", none, .fields #[.str (Str.ofString "law") 2301, .str (Str.ofString "law") 2302, .str (Str.ofString "/claim/cut.py") 2303, .int 316 0, .int 1 0, .int 0 0, .int 0 0, .int 3 0, .ref 254, .bool true, .int 276 0, .ref 255, .none, .none, .none, .ref 256, .int 2304 0, .int 316 0, .str (Str.ofString "/claim/cut.py") 2305], #[]⟩
noncomputable def x258_51 (P : Params) : Obj := ⟨.type "function", none, .func { name := Str.ofString "law", qualname := Str.ofString "law", params := pA51, body := .stmts pB51, scope := pS51, globals := 3, closure := [], defaults := .none, kwdefaults := .none, doc := .none, pyModule := .str (Str.ofString "law_rt0091_01") 2262, annotations := none, code := .ref 257, closureTuple := .none, builtins := 0 }, #[]⟩
noncomputable def LE (P : Params) : List Obj := [x0_E P, x1_E P, x2_E P, x3_E P, x4_E P, x5_E P, x6_E P, x7_E P, x8_E P, x9_E P, x10_E P, x11_E P, x12_E P, x13_E P, x14_E P, x7_E P, x16_E P, x17_E P, x18_E P, x19_E P, x20_E P, x21_E P, x22_E P, x23_E P, x24_E P, x25_E P, x26_E P, x27_E P]
noncomputable def L0 (P : Params) : List Obj := [x0_E P, x1_E P, x2_E P, x3_E P, x4_E P, x5_E P, x6_E P, x7_E P, x8_E P, x9_E P, x10_E P, x11_0 P, x12_E P, x13_E P, x14_E P, x7_E P, x16_E P, x17_E P, x18_E P, x19_E P, x20_E P, x21_E P, x22_E P, x23_E P, x24_E P, x25_E P, x26_E P, x27_E P]
noncomputable def LA (P : Params) : List Obj := [x0_E P, x1_E P, x2_E P, x3_E P, x4_E P, x5_E P, x6_E P, x7_E P, x8_E P, x9_E P, x10_E P, x11_0 P, x12_E P, x13_E P, x14_E P, x7_E P, x16_E P, x17_E P, x18_E P, x19_E P, x20_E P, x21_E P, x22_E P, x23_E P, x24_E P, x25_E P, x26_E P, x27_E P, x7_E P, x8_E P, x30_A P, x31_A P]
noncomputable def L18 (P : Params) : List Obj := [x0_E P, x1_E P, x2_E P, x3_18 P, x4_E P, x5_E P, x6_E P, x7_E P, x8_E P, x9_E P, x10_E P, x11_0 P, x12_E P, x13_E P, x14_E P, x7_E P, x16_E P, x17_E P, x18_E P, x19_E P, x20_E P, x21_E P, x22_E P, x23_E P, x24_E P, x25_E P, x26_E P, x27_E P, x7_E P, x29_18 P, x30_A P, x31_A P, x7_E P, x8_E P, x34_18 P, x7_E P, x36_18 P, x37_18 P, x38_18 P, x7_E P, x8_E P, x41_18 P, x7_E P, x43_18 P, x44_18 P, x45_18 P, x46_18 P, x47_18 P, x48_18 P, x7_E P, x50_18 P, x51_18 P, x52_18 P, x7_E P, x8_E P, x55_18 P, x7_E P, x57_18 P, x58_18 P, x59_18 P, x7_E P, x61_18 P, x62_18 P, x63_18 P, x64_18 P, x65_18 P, x47_18 P, x67_18 P, x7_E P, x69_18 P, x70_18 P, x71_18 P, x7_E P, x8_E P, x74_18 P, x7_E P, x76_18 P, x77_18 P, x78_18 P, x7_E P, x8_E P, x81_18 P, x7_E P, x83_18 P, x84_18 P, x85_18 P, x7_E P, x8_E P, x88_18 P, x7_E P, x90_18 P, x91_18 P, x92_18 P, x7_E P, x94_18 P, x95_18 P, x96_18 P, x97_18 P, x7_E P, x8_E P, x100_18 P, x7_E P, x102_18 P, x103_18 P, x104_18 P, x7_E P, x8_E P, x107_18 P, x7_E P, x109_18 P, x110_18 P, x111_18 P, x7_E P, x8_E P, x114_18 P, x7_E P, x116_18 P, x117_18 P, x118_18 P, x7_E P, x8_E P, x121_18 P, x7_E P, x123_18 P, x124_18 P, x125_18 P, x7_E P, x8_E P, x128_18 P, x7_E P, x130_18 P, x131_18 P, x132_18 P, x7_E P, x8_E P, x135_18 P, x7_E P, x137_18 P, x138_18 P, x139_18 P, x7_E P, x8_E P, x142_18 P, x7_E P, x144_18 P, x145_18 P, x146_18 P]
noncomputable def L19 (P : Params) : List Obj := [x0_E P, x1_E P, x2_E P, x3_19 P, x4_E P, x5_E P, x6_E P, x7_E P, x8_E P, x9_E P, x10_E P, x11_0 P, x12_E P, x13_E P, x14_E P, x7_E P, x16_E P, x17_E P, x18_E P, x19_E P, x20_E P, x21_E P, x22_E P, x23_E P, x24_E P, x25_E P, x26_E P, x27_E P, x7_E P, x29_18 P, x30_A P, x31_A P, x7_E P, x8_E P, x34_18 P, x7_E P, x36_18 P, x37_18 P, x38_18 P, x7_E P, x8_E P, x41_18 P, x7_E P, x43_18 P, x44_18 P, x45_18 P, x46_18 P, x47_18 P, x48_18 P, x7_E P, x50_18 P, x51_18 P, x52_18 P, x7_E P, x8_E P, x55_18 P, x7_E P, x57_18 P, x58_18 P, x59_18 P, x7_E P, x61_18 P, x62_18 P, x63_18 P, x64_18 P, x65_18 P, x47_18 P, x67_18 P, x7_E P, x69_18 P, x70_18 P, x71_18 P, x7_E P, x8_E P, x74_18 P, x7_E P, x76_18 P, x77_18 P, x78_18 P, x7_E P, x8_E P, x81_18 P, x7_E P, x83_18 P, x84_18 P, x85_18 P, x7_E P, x8_E P, x88_18 P, x7_E P, x90_18 P, x91_18 P, x92_18 P, x7_E P, x94_18 P, x95_18 P, x96_18 P, x97_18 P, x7_E P, x8_E P, x100_18 P, x7_E P, x102_18 P, x103_18 P, x104_18 P, x7_E P, x8_E P, x107_18 P, x7_E P, x109_18 P, x110_18 P, x111_18 P, x7_E P, x8_E P, x114_18 P, x7_E P, x116_18 P, x117_18 P, x118_18 P, x7_E P, x8_E P, x121_18 P, x7_E P, x123_18 P, x124_18 P, x125_18 P, x7_E P, x8_E P, x128_18 P, x7_E P, x130_18 P, x131_18 P, x132_18 P, x7_E P, x8_E P, x135_18 P, x7_E P, x137_18 P, x138_18 P, x139_18 P, x7_E P, x8_E P, x142_18 P, x7_E P, x144_18 P, x145_18 P, x146_18 P, x147_19 P, x148_19 P, x149_19 P, x150_19 P, x7_E P, x152_19 P]
noncomputable def L27 (P : Params) : List Obj := [x0_E P, x1_E P, x2_E P, x3_27 P, x4_E P, x5_E P, x6_E P, x7_E P, x8_E P, x9_E P, x10_E P, x11_0 P, x12_E P, x13_E P, x14_E P, x7_E P, x16_E P, x17_E P, x18_E P, x19_E P, x20_E P, x21_E P, x22_E P, x23_E P, x24_E P, x25_E P, x26_E P, x27_E P, x7_E P, x29_18 P, x30_A P, x31_A P, x7_E P, x8_E P, x34_18 P, x7_E P, x36_18 P, x37_18 P, x38_18 P, x7_E P, x8_E P, x41_18 P, x7_E P, x43_18 P, x44_18 P, x45_18 P, x46_18 P, x47_18 P, x48_18 P, x7_E P, x50_18 P, x51_18 P, x52_18 P, x7_E P, x8_E P, x55_18 P, x7_E P, x57_18 P, x58_18 P, x59_18 P, x7_E P, x61_18 P, x62_18 P, x63_18 P, x64_18 P, x65_18 P, x47_18 P, x67_18 P, x7_E P, x69_18 P, x70_18 P, x71_18 P, x7_E P, x8_E P, x74_18 P, x7_E P, x76_18 P, x77_18 P, x78_18 P, x7_E P, x8_E P, x81_18 P, x7_E P, x83_18 P, x84_18 P, x85_18 P, x7_E P, x8_E P, x88_18 P, x7_E P, x90_18 P, x91_18 P, x92_18 P, x7_E P, x94_18 P, x95_18 P, x96_18 P, x97_18 P, x7_E P, x8_E P, x100_18 P, x7_E P, x102_18 P, x103_18 P, x104_18 P, x7_E P, x8_E P, x107_18 P, x7_E P, x109_18 P, x110_18 P, x111_18 P, x7_E P, x8_E P, x114_18 P, x7_E P, x116_18 P, x117_18 P, x118_18 P, x7_E P, x8_E P, x121_18 P, x7_E P, x123_18 P, x124_18 P, x125_18 P, x7_E P, x8_E P, x128_18 P, x7_E P, x130_18 P, x131_18 P, x132_18 P, x7_E P, x8_E P, x135_18 P, x7_E P, x137_18 P, x138_18 P, x139_18 P, x7_E P, x8_E P, x142_18 P, x7_E P, x144_18 P, x145_18 P, x146_18 P, x147_19 P, x148_19 P, x149_19 P, x150_19 P, x7_E P, x152_19 P, x153_27 P, x154_27 P, x153_27 P, x154_27 P]
noncomputable def L28 (P : Params) : List Obj := [x0_E P, x1_E P, x2_E P, x3_28 P, x4_E P, x5_E P, x6_E P, x7_E P, x8_E P, x9_E P, x10_E P, x11_0 P, x12_E P, x13_E P, x14_E P, x7_E P, x16_E P, x17_E P, x18_E P, x19_E P, x20_E P, x21_E P, x22_E P, x23_E P, x24_E P, x25_E P, x26_E P, x27_E P, x7_E P, x29_18 P, x30_A P, x31_A P, x7_E P, x8_E P, x34_18 P, x7_E P, x36_18 P, x37_18 P, x38_18 P, x7_E P, x8_E P, x41_18 P, x7_E P, x43_18 P, x44_18 P, x45_18 P, x46_18 P, x47_18 P, x48_18 P, x7_E P, x50_18 P, x51_18 P, x52_18 P, x7_E P, x8_E P, x55_18 P, x7_E P, x57_18 P, x58_18 P, x59_18 P, x7_E P, x61_18 P, x62_18 P, x63_18 P, x64_18 P, x65_18 P, x47_18 P, x67_18 P, x7_E P, x69_18 P, x70_18 P, x71_18 P, x7_E P, x8_E P, x74_18 P, x7_E P, x76_18 P, x77_18 P, x78_18 P, x7_E P, x8_E P, x81_18 P, x7_E P, x83_18 P, x84_18 P, x85_18 P, x7_E P, x8_E P, x88_18 P, x7_E P, x90_18 P, x91_18 P, x92_18 P, x7_E P, x94_18 P, x95_18 P, x96_18 P, x97_18 P, x7_E P, x8_E P, x100_18 P, x7_E P, x102_18 P, x103_18 P, x104_18 P, x7_E P, x8_E P, x107_18 P, x7_E P, x109_18 P, x110_18 P, x111_18 P, x7_E P, x8_E P, x114_18 P, x7_E P, x116_18 P, x117_18 P, x118_18 P, x7_E P, x8_E P, x121_18 P, x7_E P, x123_18 P, x124_18 P, x125_18 P, x7_E P, x8_E P, x128_18 P, x7_E P, x130_18 P, x131_18 P, x132_18 P, x7_E P, x8_E P, x135_18 P, x7_E P, x137_18 P, x138_18 P, x139_18 P, x7_E P, x8_E P, x142_18 P, x7_E P, x144_18 P, x145_18 P, x146_18 P, x147_19 P, x148_19 P, x149_19 P, x150_19 P, x7_E P, x152_19 P, x153_27 P, x154_28 P, x153_27 P, x154_27 P, x157_28 P, x7_E P, x159_28 P]
noncomputable def L29 (P : Params) : List Obj := [x0_E P, x1_E P, x2_E P, x3_28 P, x4_E P, x5_E P, x6_E P, x7_E P, x8_E P, x9_E P, x10_E P, x11_0 P, x12_E P, x13_E P, x14_E P, x7_E P, x16_E P, x17_E P, x18_E P, x19_E P, x20_E P, x21_E P, x22_E P, x23_E P, x24_E P, x25_E P, x26_E P, x27_E P, x7_E P, x29_18 P, x30_A P, x31_A P, x7_E P, x8_E P, x34_18 P, x7_E P, x36_18 P, x37_18 P, x38_18 P, x7_E P, x8_E P, x41_18 P, x7_E P, x43_18 P, x44_18 P, x45_18 P, x46_18 P, x47_18 P, x48_18 P, x7_E P, x50_18 P, x51_18 P, x52_18 P, x7_E P, x8_E P, x55_18 P, x7_E P, x57_18 P, x58_18 P, x59_18 P, x7_E P, x61_18 P, x62_18 P, x63_18 P, x64_18 P, x65_18 P, x47_18 P, x67_18 P, x7_E P, x69_18 P, x70_18 P, x71_18 P, x7_E P, x8_E P, x74_18 P, x7_E P, x76_18 P, x77_18 P, x78_18 P, x7_E P, x8_E P, x81_18 P, x7_E P, x83_18 P, x84_18 P, x85_18 P, x7_E P, x8_E P, x88_18 P, x7_E P, x90_18 P, x91_18 P, x92_18 P, x7_E P, x94_18 P, x95_18 P, x96_18 P, x97_18 P, x7_E P, x8_E P, x100_18 P, x7_E P, x102_18 P, x103_18 P, x104_18 P, x7_E P, x8_E P, x107_18 P, x7_E P, x109_18 P, x110_18 P, x111_18 P, x7_E P, x8_E P, x114_18 P, x7_E P, x116_18 P, x117_18 P, x118_18 P, x7_E P, x8_E P, x121_18 P, x7_E P, x123_18 P, x124_18 P, x125_18 P, x7_E P, x8_E P, x128_18 P, x7_E P, x130_18 P, x131_18 P, x132_18 P, x7_E P, x8_E P, x135_18 P, x7_E P, x137_18 P, x138_18 P, x139_18 P, x7_E P, x8_E P, x142_18 P, x7_E P, x144_18 P, x145_18 P, x146_18 P, x147_19 P, x148_19 P, x149_19 P, x150_19 P, x7_E P, x152_19 P, x153_27 P, x154_29 P, x153_27 P, x154_27 P, x157_28 P, x7_E P, x159_28 P]
noncomputable def L30 (P : Params) : List Obj := [x0_E P, x1_E P, x2_E P, x3_30 P, x4_E P, x5_E P, x6_E P, x7_E P, x8_E P, x9_E P, x10_E P, x11_0 P, x12_E P, x13_E P, x14_E P, x7_E P, x16_E P, x17_E P, x18_E P, x19_E P, x20_E P, x21_E P, x22_E P, x23_E P, x24_E P, x25_E P, x26_E P, x27_E P, x7_E P, x29_18 P, x30_A P, x31_A P, x7_E P, x8_E P, x34_18 P, x7_E P, x36_18 P, x37_18 P, x38_18 P, x7_E P, x8_E P, x41_18 P, x7_E P, x43_18 P, x44_18 P, x45_18 P, x46_18 P, x47_18 P, x48_18 P, x7_E P, x50_18 P, x51_18 P, x52_18 P, x7_E P, x8_E P, x55_18 P, x7_E P, x57_18 P, x58_18 P, x59_18 P, x7_E P, x61_18 P, x62_18 P, x63_18 P, x64_18 P, x65_18 P, x47_18 P, x67_18 P, x7_E P, x69_18 P, x70_18 P, x71_18 P, x7_E P, x8_E P, x74_18 P, x7_E P, x76_18 P, x77_18 P, x78_18 P, x7_E P, x8_E P, x81_18 P, x7_E P, x83_18 P, x84_18 P, x85_18 P, x7_E P, x8_E P, x88_18 P, x7_E P, x90_18 P, x91_18 P, x92_18 P, x7_E P, x94_18 P, x95_18 P, x96_18 P, x97_18 P, x7_E P, x8_E P, x100_18 P, x7_E P, x102_18 P, x103_18 P, x104_18 P, x7_E P, x8_E P, x107_18 P, x7_E P, x109_18 P, x110_18 P, x111_18 P, x7_E P, x8_E P, x114_18 P, x7_E P, x116_18 P, x117_18 P, x118_18 P, x7_E P, x8_E P, x121_18 P, x7_E P, x123_18 P, x124_18 P, x125_18 P, x7_E P, x8_E P, x128_18 P, x7_E P, x130_18 P, x131_18 P, x132_18 P, x7_E P, x8_E P, x135_18 P, x7_E P, x137_18 P, x138_18 P, x139_18 P, x7_E P, x8_E P, x142_18 P, x7_E P, x144_18 P, x145_18 P, x146_18 P, x147_19 P, x148_19 P, x149_19 P, x150_19 P, x7_E P, x152_19 P, x153_27 P, x154_29 P, x153_27 P, x156_30 P, x157_28 P, x7_E P, x159_28 P, x160_30 P, x7_E P, x162_30 P]
noncomputable def L40 (P : Params) : List Obj := [x0_E P, x1_E P, x2_E P, x3_40 P, x4_E P, x5_E P, x6_E P, x7_E P, x8_E P, x9_E P, x10_E P, x11_0 P, x12_E P, x13_E P, x14_E P, x7_E P, x16_E P, x17_E P, x18_E P, x19_E P, x20_E P, x21_E P, x22_E P, x23_E P, x24_E P, x25_E P, x26_E P, x27_E P, x7_E P, x29_40 P, x30_A P, x31_A P, x7_E P, x8_E P, x34_18 P, x7_E P, x36_18 P, x37_18 P, x38_18 P, x7_E P, x8_E P, x41_18 P, x7_E P, x43_18 P, x44_18 P, x45_18 P, x46_18 P, x47_18 P, x48_18 P, x7_E P, x50_18 P, x51_18 P, x52_18 P, x7_E P, x8_E P, x55_18 P, x7_E P, x57_18 P, x58_18 P, x59_18 P, x7_E P, x61_18 P, x62_18 P, x63_18 P, x64_18 P, x65_18 P, x47_18 P, x67_18 P, x7_E P, x69_18 P, x70_18 P, x71_18 P, x7_E P, x8_E P, x74_18 P, x7_E P, x76_18 P, x77_18 P, x78_18 P, x7_E P, x8_E P, x81_18 P, x7_E P, x83_18 P, x84_18 P, x85_18 P, x7_E P, x8_E P, x88_18 P, x7_E P, x90_18 P, x91_18 P, x92_18 P, x7_E P, x94_18 P, x95_18 P, x96_18 P, x97_18 P, x7_E P, x8_E P, x100_18 P, x7_E P, x102_18 P, x103_18 P, x104_18 P, x7_E P, x8_E P, x107_18 P, x7_E P, x109_18 P, x110_18 P, x111_18 P, x7_E P, x8_E P, x114_18 P, x7_E P, x116_18 P, x117_18 P, x118_18 P, x7_E P, x8_E P, x121_18 P, x7_E P, x123_18 P, x124_18 P, x125_18 P, x7_E P, x8_E P, x128_18 P, x7_E P, x130_18 P, x131_18 P, x132_18 P, x7_E P, x8_E P, x135_18 P, x7_E P, x137_18 P, x138_18 P, x139_18 P, x7_E P, x8_E P, x142_18 P, x7_E P, x144_18 P, x145_18 P, x146_18 P, x147_19 P, x148_19 P, x149_19 P, x150_19 P, x7_E P, x152_19 P, x153_27 P, x154_29 P, x153_27 P, x156_30 P, x157_28 P, x7_E P, x159_28 P, x160_30 P, x7_E P, x162_30 P, x7_E P, x8_E P, x165_40 P, x7_E P, x167_40 P, x168_40 P, x169_40 P, x7_E P, x8_E P, x172_40 P, x7_E P, x174_40 P, x175_40 P, x176_40 P, x153_27 P, x178_40 P, x179_40 P, x7_E P, x181_40 P, x182_40 P, x7_E P, x8_E P, x185_40 P, x7_E P, x187_40 P, x188_40 P, x189_40 P, x190_40 P, x6_E P, x192_40 P, x193_40 P, x194_40 P, x7_E P, x8_E P, x197_40 P, x7_E P, x199_40 P, x200_40 P, x201_40 P]
noncomputable def L41 (P : Params) : List Obj := [x0_E P, x1_E P, x2_E P, x3_41 P, x4_E P, x5_E P, x6_E P, x7_E P, x8_E P, x9_E P, x10_E P, x11_0 P, x12_E P, x13_E P, x14_E P, x7_E P, x16_E P, x17_E P, x18_E P, x19_E P, x20_E P, x21_E P, x22_E P, x23_E P, x24_E P, x25_E P, x26_E P, x27_E P, x7_E P, x29_40 P, x30_A P, x31_A P, x7_E P, x8_E P, x34_18 P, x7_E P, x36_18 P, x37_18 P, x38_18 P, x7_E P, x8_E P, x41_18 P, x7_E P, x43_18 P, x44_18 P, x45_18 P, x46_18 P, x47_18 P, x48_18 P, x7_E P, x50_18 P, x51_18 P, x52_18 P, x7_E P, x8_E P, x55_18 P, x7_E P, x57_18 P, x58_18 P, x59_18 P, x7_E P, x61_18 P, x62_18 P, x63_18 P, x64_18 P, x65_18 P, x47_18 P, x67_18 P, x7_E P, x69_18 P, x70_18 P, x71_18 P, x7_E P, x8_E P, x74_18 P, x7_E P, x76_18 P, x77_18 P, x78_18 P, x7_E P, x8_E P, x81_18 P, x7_E P, x83_18 P, x84_18 P, x85_18 P, x7_E P, x8_E P, x88_18 P, x7_E P, x90_18 P, x91_18 P, x92_18 P, x7_E P, x94_18 P, x95_18 P, x96_18 P, x97_18 P, x7_E P, x8_E P, x100_18 P, x7_E P, x102_18 P, x103_18 P, x104_18 P, x7_E P, x8_E P, x107_18 P, x7_E P, x109_18 P, x110_18 P, x111_18 P, x7_E P, x8_E P, x114_18 P, x7_E P, x116_18 P, x117_18 P, x118_18 P, x7_E P, x8_E P, x121_18 P, x7_E P, x123_18 P, x124_18 P, x125_18 P, x7_E P, x8_E P, x128_18 P, x7_E P, x130_18 P, x131_18 P, x132_18 P, x7_E P, x8_E P, x135_18 P, x7_E P, x137_18 P, x138_18 P, x139_18 P, x7_E P, x8_E P, x142_18 P, x7_E P, x144_18 P, x145_18 P, x146_18 P, x147_19 P, x148_19 P, x149_19 P, x150_19 P, x7_E P, x152_19 P, x153_27 P, x154_29 P, x153_27 P, x156_30 P, x157_28 P, x7_E P, x159_28 P, x160_30 P, x7_E P, x162_30 P, x7_E P, x8_E P, x165_40 P, x7_E P, x167_40 P, x168_40 P, x169_40 P, x7_E P, x8_E P, x172_40 P, x7_E P, x174_40 P, x175_40 P, x176_40 P, x153_27 P, x178_40 P, x179_40 P, x7_E P, x181_40 P, x182_40 P, x7_E P, x8_E P, x185_40 P, x7_E P, x187_40 P, x188_40 P, x189_40 P, x190_40 P, x6_E P, x192_40 P, x193_40 P, x194_40 P, x7_E P, x8_E P, x197_40 P, x7_E P, x199_40 P, x200_40 P, x201_40 P, x202_41 P, x203_41 P, x150_19 P, x7_E P, x206_41 P]
noncomputable def L51 (P : Params) : List Obj := [x0_E P, x1_E P, x2_E P, x3_51 P, x4_E P, x5_E P, x6_E P, x7_E P, x8_E P, x9_E P, x10_E P, x11_0 P, x12_E P, x13_E P, x14_E P, x7_E P, x16_E P, x17_E P, x18_E P, x19_E P, x20_E P, x21_E P, x22_E P, x23_E P, x24_E P, x25_E P, x26_E P, x27_E P, x7_E P, x29_51 P, x30_A P, x31_A P, x7_E P, x8_E P, x34_18 P, x7_E P, x36_18 P, x37_18 P, x38_18 P, x7_E P, x8_E P, x41_18 P, x7_E P, x43_18 P, x44_18 P, x45_18 P, x46_18 P, x47_18 P, x48_18 P, x7_E P, x50_18 P, x51_18 P, x52_18 P, x7_E P, x8_E P, x55_18 P, x7_E P, x57_18 P, x58_18 P, x59_18 P, x7_E P, x61_18 P, x62_18 P, x63_18 P, x64_18 P, x65_18 P, x47_18 P, x67_18 P, x7_E P, x69_18 P, x70_18 P, x71_18 P, x7_E P, x8_E P, x74_18 P, x7_E P, x76_18 P, x77_18 P, x78_18 P, x7_E P, x8_E P, x81_18 P, x7_E P, x83_18 P, x84_18 P, x85_18 P, x7_E P, x8_E P, x88_18 P, x7_E P, x90_18 P, x91_18 P, x92_18 P, x7_E P, x94_18 P, x95_18 P, x96_18 P, x97_18 P, x7_E P, x8_E P, x100_18 P, x7_E P, x102_18 P, x103_18 P, x104_18 P, x7_E P, x8_E P, x107_18 P, x7_E P, x109_18 P, x110_18 P, x111_18 P, x7_E P, x8_E P, x114_18 P, x7_E P, x116_18 P, x117_18 P, x118_18 P, x7_E P, x8_E P, x121_18 P, x7_E P, x123_18 P, x124_18 P, x125_18 P, x7_E P, x8_E P, x128_18 P, x7_E P, x130_18 P, x131_18 P, x132_18 P, x7_E P, x8_E P, x135_18 P, x7_E P, x137_18 P, x138_18 P, x139_18 P, x7_E P, x8_E P, x142_18 P, x7_E P, x144_18 P, x145_18 P, x146_18 P, x147_19 P, x148_19 P, x149_19 P, x150_19 P, x7_E P, x152_19 P, x153_27 P, x154_29 P, x153_27 P, x156_30 P, x157_28 P, x7_E P, x159_28 P, x160_30 P, x7_E P, x162_30 P, x7_E P, x8_E P, x165_40 P, x7_E P, x167_40 P, x168_40 P, x169_40 P, x7_E P, x8_E P, x172_40 P, x7_E P, x174_40 P, x175_40 P, x176_40 P, x153_27 P, x178_40 P, x179_40 P, x7_E P, x181_40 P, x182_40 P, x7_E P, x8_E P, x185_40 P, x7_E P, x187_40 P, x188_40 P, x189_40 P, x190_40 P, x6_E P, x192_40 P, x193_40 P, x194_40 P, x7_E P, x8_E P, x197_40 P, x7_E P, x199_40 P, x200_40 P, x201_40 P, x202_41 P, x203_41 P, x150_19 P, x7_E P, x206_41 P, x7_E P, x8_E P, x209_51 P, x7_E P, x211_51 P, x212_51 P, x213_51 P, x7_E P, x8_E P, x216_51 P, x7_E P, x218_51 P, x219_51 P, x220_51 P, x7_E P, x8_E P, x223_51 P, x7_E P, x225_51 P, x226_51 P, x227_51 P, x7_E P, x8_E P, x230_51 P, x7_E P, x232_51 P, x233_51 P, x234_51 P, x7_E P, x8_E P, x237_51 P, x7_E P, x239_51 P, x240_51 P, x241_51 P, x7_E P, x8_E P, x244_51 P, x245_51 P, x246_51 P, x7_E P, x8_E P, x249_51 P, x7_E P, x251_51 P, x252_51 P, x253_51 P, x7_E P, x8_E P, x256_51 P, x257_51 P, x258_51 P]
abbrev p0 : Pos := ⟨0, 0, 0, 0⟩
noncomputable def tenv : Env := { scope := pw.main.scope, locals := mainNs, globals := mainNs, cells := [], code := .ref 30, frame := some 31 }
noncomputable abbrev tcode : Code := .body (behindTheImports pw) tenv
noncomputable abbrev tB : List Frame := [topFrame p0]
abbrev ann : Option Value := some (.ref 6)
noncomputable def sl (a m : Nat) : List Stmt := ((behindTheImports pw).drop a).take m
/-- the run of m statements from the a-th -/
abbrev PC (w : World) (os : OsState) (a m n k₁ t₁ : Nat) (l₁ : List Obj) (p₁ : Pos) (k₂ t₂ : Nat) (l₂ : List Obj) (p₂ : Pos) : Prop :=
  segRunT treeTable pw w 28 ann 1 n (St k₁ t₁ l₁ os) (piecesOf (sl a m) tenv tcode p₁ tB) = some (.next, St k₂ t₂ l₂ os, tcode, p₂)
theorem pc18 (w : World) (os : OsState) : PC w os 0 18 1000 32 282 (LA w.params) p0 147 447 (L18 w.params) ⟨126, 0, 126, 2⟩ := by
  unfold PC
  rw [PySem.W.Fast.te10110043849684766642]
  kernel_rfl
section
variable {tb : String → Option Builtin} {p : Program} {w : World} {n₀ : Nat} {an : Option Value} {b : Nat}
theorem go_run : ∀ {k n : Nat} {s s' : SharedT} {t t' : Thread}, segGoT tb p w n₀ an b k s t = some (s', t') → segRunT tb p w n₀ an b (k + n) s t = segRunT tb p w n₀ an b n s' t'
  | 0, n, s, s', t, t', h => by
    rw [segGoT] at h
    cases h
    rw [Nat.zero_add]
  | k + 1, n, s, s', t, t', h => by
    rw [segGoT] at h
    rw [show k + 1 + n = (k + n) + 1 by omega, segRunT]
    cases e1 : endAt b t with
    | some f => rw [e1] at h; cases h
    | none =>
      rw [e1] at h
      cases e2 : stepOk n₀ an t with
      | false => rw [e2] at h; cases h
      | true =>
        rw [e2] at h
        cases e3 : stepT (denote tb) p w s t with
        | none => rw [e3] at h; cases h
        | some x => obtain ⟨s1, t1⟩ := x; rw [e3] at h; exact go_run h
theorem run_more : ∀ {n k : Nat} {s : SharedT} {t : Thread} {r : Flow × SharedT × Code × Pos}, segRunT tb p w n₀ an b n s t = some r → segRunT tb p w n₀ an b (n + k) s t = some r
  | 0, k, s, t, r, h => by rw [segRunT] at h; cases h
  | n + 1, k, s, t, r, h => by
    rw [segRunT] at h
    rw [show n + 1 + k = (n + k) + 1 by omega, segRunT]
    cases e1 : endAt b t with
    | some f => rw [e1] at h; exact h
    | none =>
      rw [e1] at h
      cases e2 : stepOk n₀ an t with
      | false => rw [e2] at h; cases h
      | true =>
        rw [e2] at h
        cases e3 : stepT (denote tb) p w s t with
        | none => rw [e3] at h; cases h
        | some x => obtain ⟨s1, t1⟩ := x; rw [e3] at h; exact run_more h
end
noncomputable abbrev G18 (w : World) (os : OsState) (k : Nat) : Option (SharedT × Thread) := segGoT treeTable pw w 28 ann 1 k (St 147 447 (L18 w.params) os) (piecesOf (sl 18 1) tenv tcode ⟨126, 0, 126, 2⟩ tB)
noncomputable abbrev ctw (w : World) (b : Bool) : World := w.withFollow "comprehension-iter-twice" b
noncomputable abbrev sgw (w : World) (b : Bool) : World := w.withFollow "special-get-raises" b
theorem mid_f (w : World) (os : OsState) : G18 (ctw (sgw w false) false) os 52 = G18 (ctw (sgw w false) true) os 42 := by
  unfold G18
  rw [PySem.W.Fast.te10295753902157049106]
  kernel_rfl
theorem mid_t (w : World) (os : OsState) : G18 (ctw (sgw w true) false) os 52 = G18 (ctw (sgw w true) true) os 42 := by
  unfold G18
  rw [PySem.W.Fast.te10295753902157049106]
  kernel_rfl
theorem lp_f (w : World) (os : OsState) (b : Bool) : ((G18 (ctw (sgw w false) true) os 42).elim none fun x => segRunT treeTable pw (ctw (sgw w false) b) 28 ann 1 9540 x.1 x.2) = some (.next, St 153 1475 (L19 (ctw (sgw w false) b).params) os, tcode, ⟨127, 0, 127, 11⟩) := by
  unfold G18
  rw [PySem.W.Fast.te10295753902157049106, PySem.W.Fast.te10110043849684766642]
  kernel_rfl
theorem lp_t (w : World) (os : OsState) (b : Bool) : ((G18 (ctw (sgw w true) true) os 42).elim none fun x => segRunT treeTable pw (ctw (sgw w true) b) 28 ann 1 9540 x.1 x.2) = some (.next, St 153 1475 (L19 (ctw (sgw w true) b).params) os, tcode, ⟨127, 0, 127, 11⟩) := by
  unfold G18
  rw [PySem.W.Fast.te10295753902157049106, PySem.W.Fast.te10110043849684766642]
  kernel_rfl
theorem pc19_of {W : World} {os : OsState} {M : Option (SharedT × Thread)} {k j : Nat} {r : Flow × SharedT × Code × Pos} (h : G18 W os k = M) (l : (M.elim none fun x => segRunT treeTable pw W 28 ann 1 9540 x.1 x.2) = some r) :
    segRunT treeTable pw W 28 ann 1 (k + (9540 + j)) (St 147 447 (L18 W.params) os) (piecesOf (sl 18 1) tenv tcode ⟨126, 0, 126, 2⟩ tB) = some r := by
  subst h
  cases e : G18 W os k with
  | none => rw [e] at l; cases l
  | some x =>
    obtain ⟨s', t'⟩ := x
    rw [e] at l
    rw [go_run e]
    exact run_more l
theorem pc19ff (w : World) (os : OsState) : PC ((w.withFollow "special-get-raises" false).withFollow "comprehension-iter-twice" false) os 18 1 9600 147 447 (L18 ((w.withFollow "special-get-raises" false).withFollow "comprehension-iter-twice" false).params) ⟨126, 0, 126, 2⟩ 153 1475 (L19 ((w.withFollow "special-get-raises" false).withFollow "comprehension-iter-twice" false).params) ⟨127, 0, 127, 11⟩ :=
  pc19_of (k := 52) (j := 8) (mid_f w os) (lp_f w os false)
theorem pc19ft (w : World) (os : OsState) : PC ((w.withFollow "special-get-raises" false).withFollow "comprehension-iter-twice" true) os 18 1 9600 147 447 (L18 ((w.withFollow "special-get-raises" false).withFollow "comprehension-iter-twice" true).params) ⟨126, 0, 126, 2⟩ 153 1475 (L19 ((w.withFollow "special-get-raises" false).withFollow "comprehension-iter-twice" true).params) ⟨127, 0, 127, 11⟩ :=
  pc19_of (k := 42) (j := 18) rfl (lp_f w os true)
theorem pc19tf (w : World) (os : OsState) : PC ((w.withFollow "special-get-raises" true).withFollow "comprehension-iter-twice" false) os 18 1 9600 147 447 (L18 ((w.withFollow "special-get-raises" true).withFollow "comprehension-iter-twice" false).params) ⟨126, 0, 126, 2⟩ 153 1475 (L19 ((w.withFollow "special-get-raises" true).withFollow "comprehension-iter-twice" false).params) ⟨127, 0, 127, 11⟩ :=
  pc19_of (k := 52) (j := 8) (mid_t w os) (lp_t w os false)
theorem pc19tt (w : World) (os : OsState) : PC ((w.withFollow "special-get-raises" true).withFollow "comprehension-iter-twice" true) os 18 1 9600 147 447 (L18 ((w.withFollow "special-get-raises" true).withFollow "comprehension-iter-twice" true).params) ⟨126, 0, 126, 2⟩ 153 1475 (L19 ((w.withFollow "special-get-raises" true).withFollow "comprehension-iter-twice" true).params) ⟨127, 0, 127, 11⟩ :=
  pc19_of (k := 42) (j := 18) rfl (lp_t w os true)
theorem pc19 (w : World) (os : OsState) : PC w os 18 1 9600 147 447 (L18 w.params) ⟨126, 0, 126, 2⟩ 153 1475 (L19 w.params) ⟨127, 0, 127, 11⟩ := byRow2 "comprehension-iter-twice" (P := fun w => PC w os 18 1 9600 147 447 (L18 w.params) ⟨126, 0, 126, 2⟩ 153 1475 (L19 w.params) ⟨127, 0, 127, 11⟩) (fun w => byRow2 "special-get-raises" (P := fun w => PC (w.withFollow "comprehension-iter-twice" false) os 18 1 9600 147 447 (L18 (w.withFollow "comprehension-iter-twice" false).params) ⟨126, 0, 126, 2⟩ 153 1475 (L19 (w.withFollow "comprehension-iter-twice" false).params) ⟨127, 0, 127, 11⟩) (fun w => pc19ff w os) (fun w => pc19tf w os) w) (fun w => byRow2 "special-get-raises" (P := fun w => PC (w.withFollow "comprehension-iter-twice" true) os 18 1 9600 147 447 (L18 (w.withFollow "comprehension-iter-twice" true).params) ⟨126, 0, 126, 2⟩ 153 1475 (L19 (w.withFollow "comprehension-iter-twice" true).params) ⟨127, 0, 127, 11⟩) (fun w => pc19ft w os) (fun w => pc19tt w os) w) w
theorem pc27 (w : World) (os : OsState) : PC w os 19 8 200 153 1475 (L19 w.params) ⟨127, 0, 127, 11⟩ 157 1492 (L27 w.params) ⟨135, 0, 135, 8⟩ := by
  unfold PC
  rw [PySem.W.Fast.te10110043849684766642]
  kernel_rfl
theorem pc28f (w : World) (os : OsState) : PC (w.withFollow "special-get-raises" false) os 27 1 3200 157 1492 (L27 (w.withFollow "special-get-raises" false).params) ⟨135, 0, 135, 8⟩ 160 1700 (L28 (w.withFollow "special-get-raises" false).params) ⟨136, 9, 136, 74⟩ := by
  unfold PC
  rw [PySem.W.Fast.te10110043849684766642]
  kernel_rfl
theorem pc28t (w : World) (os : OsState) : PC (w.withFollow "special-get-raises" true) os 27 1 3200 157 1492 (L27 (w.withFollow "special-get-raises" true).params) ⟨135, 0, 135, 8⟩ 160 1700 (L28 (w.withFollow "special-get-raises" true).params) ⟨136, 9, 136, 74⟩ := by
  unfold PC
  rw [PySem.W.Fast.te10110043849684766642]
  kernel_rfl
theorem pc28 (w : World) (os : OsState) : PC w os 27 1 3200 157 1492 (L27 w.params) ⟨135, 0, 135, 8⟩ 160 1700 (L28 w.params) ⟨136, 9, 136, 74⟩ := byRow2 "special-get-raises" (P := fun w => PC w os 27 1 3200 157 1492 (L27 w.params) ⟨135, 0, 135, 8⟩ 160 1700 (L28 w.params) ⟨136, 9, 136, 74⟩) (fun w => pc28f w os) (fun w => pc28t w os) w
theorem pc29 (w : World) (os : OsState) : PC w os 28 1 100 160 1700 (L28 w.params) ⟨136, 9, 136, 74⟩ 160 1703 (L29 w.params) ⟨138, 0, 138, 28⟩ := by
  unfold PC
  rw [PySem.W.Fast.te10110043849684766642]
  kernel_rfl
theorem pc30f (w : World) (os : OsState) : PC (w.withFollow "special-get-raises" false) os 29 1 4400 160 1703 (L29 (w.withFollow "special-get-raises" false).params) ⟨138, 0, 138, 28⟩ 163 1989 (L30 (w.withFollow "special-get-raises" false).params) ⟨139, 9, 139, 110⟩ := by
  unfold PC
  rw [PySem.W.Fast.te10110043849684766642]
  kernel_rfl
theorem pc30t (w : World) (os : OsState) : PC (w.withFollow "special-get-raises" true) os 29 1 4400 160 1703 (L29 (w.withFollow "special-get-raises" true).params) ⟨138, 0, 138, 28⟩ 163 1989 (L30 (w.withFollow "special-get-raises" true).params) ⟨139, 9, 139, 110⟩ := by
  unfold PC
  rw [PySem.W.Fast.te10110043849684766642]
  kernel_rfl
theorem pc30 (w : World) (os : OsState) : PC w os 29 1 4400 160 1703 (L29 w.params) ⟨138, 0, 138, 28⟩ 163 1989 (L30 w.params) ⟨139, 9, 139, 110⟩ := byRow2 "special-get-raises" (P := fun w => PC w os 29 1 4400 160 1703 (L29 w.params) ⟨138, 0, 138, 28⟩ 163 1989 (L30 w.params) ⟨139, 9, 139, 110⟩) (fun w => pc30f w os) (fun w => pc30t w os) w
theorem pc40f (w : World) (os : OsState) : PC (w.withFollow "special-get-raises" false) os 30 10 500 163 1989 (L30 (w.withFollow "special-get-raises" false).params) ⟨139, 9, 139, 110⟩ 202 2075 (L40 (w.withFollow "special-get-raises" false).params) ⟨185, 0, 185, 8⟩ := by
  unfold PC
  rw [PySem.W.Fast.te10110043849684766642]
  kernel_rfl
theorem pc40t (w : World) (os : OsState) : PC (w.withFollow "special-get-raises" true) os 30 10 500 163 1989 (L30 (w.withFollow "special-get-raises" true).params) ⟨139, 9, 139, 110⟩ 202 2075 (L40 (w.withFollow "special-get-raises" true).params) ⟨185, 0, 185, 8⟩ := by
  unfold PC
  rw [PySem.W.Fast.te10110043849684766642]
  kernel_rfl
theorem pc40 (w : World) (os : OsState) : PC w os 30 10 500 163 1989 (L30 w.params) ⟨139, 9, 139, 110⟩ 202 2075 (L40 w.params) ⟨185, 0, 185, 8⟩ := byRow2 "special-get-raises" (P := fun w => PC w os 30 10 500 163 1989 (L30 w.params) ⟨139, 9, 139, 110⟩ 202 2075 (L40 w.params) ⟨185, 0, 185, 8⟩) (fun w => pc40f w os) (fun w => pc40t w os) w
theorem pc41ff (w : World) (os : OsState) : PC ((w.withFollow "special-get-raises" false).withFollow "comprehension-iter-twice" false) os 40 1 1300 202 2075 (L40 ((w.withFollow "special-get-raises" false).withFollow "comprehension-iter-twice" false).params) ⟨185, 0, 185, 8⟩ 207 2221 (L41 ((w.withFollow "special-get-raises" false).withFollow "comprehension-iter-twice" false).params) ⟨186, 0, 186, 18⟩ := by
  unfold PC
  rw [PySem.W.Fast.te10110043849684766642]
  kernel_rfl
theorem pc41ft (w : World) (os : OsState) : PC ((w.withFollow "special-get-raises" false).withFollow "comprehension-iter-twice" true) os 40 1 1300 202 2075 (L40 ((w.withFollow "special-get-raises" false).withFollow "comprehension-iter-twice" true).params) ⟨185, 0, 185, 8⟩ 207 2221 (L41 ((w.withFollow "special-get-raises" false).withFollow "comprehension-iter-twice" true).params) ⟨186, 0, 186, 18⟩ := by
  unfold PC
  rw [PySem.W.Fast.te10110043849684766642]
  kernel_rfl
theorem pc41tf (w : World) (os : OsState) : PC ((w.withFollow "special-get-raises" true).withFollow "comprehension-iter-twice" false) os 40 1 1300 202 2075 (L40 ((w.withFollow "special-get-raises" true).withFollow "comprehension-iter-twice" false).params) ⟨185, 0, 185, 8⟩ 207 2221 (L41 ((w.withFollow "special-get-raises" true).withFollow "comprehension-iter-twice" false).params) ⟨186, 0, 186, 18⟩ := by
  unfold PC
  rw [PySem.W.Fast.te10110043849684766642]
  kernel_rfl
theorem pc41tt (w : World) (os : OsState) : PC ((w.withFollow "special-get-raises" true).withFollow "comprehension-iter-twice" true) os 40 1 1300 202 2075 (L40 ((w.withFollow "special-get-raises" true).withFollow "comprehension-iter-twice" true).params) ⟨185, 0, 185, 8⟩ 207 2221 (L41 ((w.withFollow "special-get-raises" true).withFollow "comprehension-iter-twice" true).params) ⟨186, 0, 186, 18⟩ := by
  unfold PC
  rw [PySem.W.Fast.te10110043849684766642]
  kernel_rfl
theorem pc41 (w : World) (os : OsState) : PC w os 40 1 1300 202 2075 (L40 w.params) ⟨185, 0, 185, 8⟩ 207 2221 (L41 w.params) ⟨186, 0, 186, 18⟩ := byRow2 "comprehension-iter-twice" (P := fun w => PC w os 40 1 1300 202 2075 (L40 w.params) ⟨185, 0, 185, 8⟩ 207 2221 (L41 w.params) ⟨186, 0, 186, 18⟩) (fun w => byRow2 "special-get-raises" (P := fun w => PC (w.withFollow "comprehension-iter-twice" false) os 40 1 1300 202 2075 (L40 (w.withFollow "comprehension-iter-twice" false).params) ⟨185, 0, 185, 8⟩ 207 2221 (L41 (w.withFollow "comprehension-iter-twice" false).params) ⟨186, 0, 186, 18⟩) (fun w => pc41ff w os) (fun w => pc41tf w os) w) (fun w => byRow2 "special-get-raises" (P := fun w => PC (w.withFollow "comprehension-iter-twice" true) os 40 1 1300 202 2075 (L40 (w.withFollow "comprehension-iter-twice" true).params) ⟨185, 0, 185, 8⟩ 207 2221 (L41 (w.withFollow "comprehension-iter-twice" true).params) ⟨186, 0, 186, 18⟩) (fun w => pc41ft w os) (fun w => pc41tt w os) w) w
theorem pc51 (w : World) (os : OsState) : PC w os 41 10 301 207 2221 (L41 w.params) ⟨186, 0, 186, 18⟩ 259 2307 (L51 w.params) ⟨316, 0, 342, 15⟩ := by
  unfold PC
  rw [PySem.W.Fast.te10110043849684766642]
  kernel_rfl
noncomputable def H0 (P : Params) : Heap := ⟨(L0 P).toArray, {}⟩
noncomputable def HE (P : Params) : Heap := ⟨(LE P).toArray, {}⟩
noncomputable def H1 (P : Params) : Heap := ⟨(L51 P).toArray, {}⟩
abbrev N0 : Nat := 39826
theorem opens (w : World) : importEnds treeTable (opening pw) w 900 (start (opening pw)).1 (start (opening pw)).2 = some ⟨HE w.params, #[], {}, 276, (start (opening pw)).1.os⟩ := by
  rw [PySem.W.Fast.te10274390034422433532]
  kernel_rfl
theorem fenced (w : World) : (fun os => (fenceModules? pw ⟨HE w.params, #[], {}, 276, os⟩).map (fun s => (s.heap, s.gens, s.drawn, s.toks))) = fun _ => some (H0 w.params, #[], {}, 276) := by
  kernel_rfl
theorem opened (w : World) : (fencedOpening treeTable pw w N0).map (fun s => (s.heap, s.gens, s.drawn, s.toks)) = some (H0 w.params, #[], {}, 276) :=
  open_cut (N := N0) (M := 900) (He := HE) (H₀ := H0) (ge := #[]) (g₀ := #[]) (de := {}) (d₀ := {}) (ke := 276) (k₀ := 276) opens (by decide) fenced w
noncomputable def HA (P : Params) : Heap := ⟨(LA P).toArray, {}⟩
theorem pre (w : World) (os : OsState) : topGo treeTable pw w 28 ann 12 ⟨H0 w.params, #[], {}, 276, os⟩ (topStub pw) = some (⟨HA w.params, #[], {}, 282, os⟩, ⟨denote treeTable tcode, tcode, p0, tB⟩) := by
  kernel_rfl
theorem same (P : Params) (os : OsState) : (St 32 282 (LA P) os).abs = ⟨HA P, #[], {}, 282, os⟩ := by
  kernel_rfl
theorem block (w : World) (os : OsState) : segRun treeTable pw w 28 ann 1 1 (St 32 282 (LA w.params) os).abs (blockOf (behindTheImports pw) tenv tcode p0 tB) = some (.next, (St 32 282 (LA w.params) os).abs, tcode, p0) := by
  kernel_rfl
theorem fin (w : World) (os : OsState) : topRun treeTable pw w 28 ann 2 (St 259 2307 (L51 w.params) os).abs ⟨doneF .next, tcode, ⟨316, 0, 342, 15⟩, tB⟩ = some ⟨H1 w.params, #[], {}, 2307, os⟩ := by
  rw [PySem.W.Fast.te14082659384304107361]
  kernel_rfl
theorem size (w : World) : ((H0 w.params).isNs mainGlobals && (#[] : Array GenState).size == 0, (H0 w.params).objs.size, (H0 w.params).nsMap mainGlobals "__annotations__") = (true, 28, ann) := by
  kernel_rfl
theorem sl_cat (a m b : Nat) (h : a + m = b) : (behindTheImports pw).drop a = sl a m ++ (behindTheImports pw).drop b := by
  subst h
  unfold sl
  rw [← List.drop_drop, List.take_append_drop]
theorem pcs {w : World} {os : OsState} {a m b n N k₁ t₁ k₂ t₂ : Nat} {l₁ l₂ : List Obj} {p₁ p₂ : Pos} {r : Shared} (h : PC w os a m n k₁ t₁ l₁ p₁ k₂ t₂ l₂ p₂) (hb : a + m = b)
    (k : topRun treeTable pw w 28 ann N (St k₂ t₂ l₂ os).abs (restOf ((behindTheImports pw).drop b) tenv tcode p₂ tB) = some r) :
    topRun treeTable pw w 28 ann (n + N) (St k₁ t₁ l₁ os).abs (restOf ((behindTheImports pw).drop a) tenv tcode p₁ tB) = some r := by
  rw [sl_cat a m b hb]
  exact piece_app (segRun_of h) k
theorem all51 : (behindTheImports pw).drop 51 = [] := by kernel_rfl
theorem run (w : World) (os : OsState) : topRun treeTable pw w 28 ann (12 + (1 + (1000 + (9600 + (200 + (3200 + (100 + (4400 + (500 + (1300 + (301 + 2))))))))))) ⟨H0 w.params, #[], {}, 276, os⟩ (topStub pw) = some ⟨H1 w.params, #[], {}, 2307, os⟩ := by
  refine go_top (pre w os) ?_
  rw [← same]
  refine piece_block (block w os) ?_
  have e : behindTheImports pw = (behindTheImports pw).drop 0 := rfl
  rw [e]
  refine pcs (pc18 w os) rfl ?_
  refine pcs (pc19 w os) rfl ?_
  refine pcs (pc27 w os) rfl ?_
  refine pcs (pc28 w os) rfl ?_
  refine pcs (pc29 w os) rfl ?_
  refine pcs (pc30 w os) rfl ?_
  refine pcs (pc40 w os) rfl ?_
  refine pcs (pc41 w os) rfl ?_
  refine pcs (pc51 w os) rfl ?_
  rw [all51]
  exact piece_nil (fin w os)
noncomputable def y38 (P : Params) : Obj := (fun (g : Obj) (_ : x38_18 P = g) => g) _ (by
  delta x38_18 pA1 pB1 pS1
  dsimp only)
noncomputable def y45 (P : Params) : Obj := (fun (g : Obj) (_ : x45_18 P = g) => g) _ (by
  delta x45_18 pA3 pB3 pS3
  dsimp only)
noncomputable def y59 (P : Params) : Obj := (fun (g : Obj) (_ : x59_18 P = g) => g) _ (by
  delta x59_18 pA5_0 pB5_0 pS5_0
  dsimp only)
noncomputable def y78 (P : Params) : Obj := (fun (g : Obj) (_ : x78_18 P = g) => g) _ (by
  delta x78_18 pA7_0 pB7_0 pS7_0
  dsimp only)
noncomputable def y85 (P : Params) : Obj := (fun (g : Obj) (_ : x85_18 P = g) => g) _ (by
  delta x85_18 pA7_1 pB7_1 pS7_1
  dsimp only)
noncomputable def y92 (P : Params) : Obj := (fun (g : Obj) (_ : x92_18 P = g) => g) _ (by
  delta x92_18 pA7_2 pB7_2 pS7_2
  dsimp only)
noncomputable def y104 (P : Params) : Obj := (fun (g : Obj) (_ : x104_18 P = g) => g) _ (by
  delta x104_18 pA8 pB8 pS8
  dsimp only)
noncomputable def y111 (P : Params) : Obj := (fun (g : Obj) (_ : x111_18 P = g) => g) _ (by
  delta x111_18 pA10 pB10 pS10
  dsimp only)
noncomputable def y118 (P : Params) : Obj := (fun (g : Obj) (_ : x118_18 P = g) => g) _ (by
  delta x118_18 pA12 pB12 pS12
  dsimp only)
noncomputable def y125 (P : Params) : Obj := (fun (g : Obj) (_ : x125_18 P = g) => g) _ (by
  delta x125_18 pA14 pB14 pS14
  dsimp only)
noncomputable def y132 (P : Params) : Obj := (fun (g : Obj) (_ : x132_18 P = g) => g) _ (by
  delta x132_18 pA15 pB15 pS15
  dsimp only)
noncomputable def y139 (P : Params) : Obj := (fun (g : Obj) (_ : x139_18 P = g) => g) _ (by
  delta x139_18 pA16 pB16 pS16
  dsimp only)
noncomputable def y146 (P : Params) : Obj := (fun (g : Obj) (_ : x146_18 P = g) => g) _ (by
  delta x146_18 pA17 pB17 pS17
  dsimp only)
noncomputable def y169 (P : Params) : Obj := (fun (g : Obj) (_ : x169_40 P = g) => g) _ (by
  delta x169_40 pA31 pB31 pS31
  dsimp only)
noncomputable def y176 (P : Params) : Obj := (fun (g : Obj) (_ : x176_40 P = g) => g) _ (by
  delta x176_40 pA32 pB32 pS32
  dsimp only)
noncomputable def y189 (P : Params) : Obj := (fun (g : Obj) (_ : x189_40 P = g) => g) _ (by
  delta x189_40 pA36 pB36 pS36
  dsimp only)
noncomputable def y201 (P : Params) : Obj := (fun (g : Obj) (_ : x201_40 P = g) => g) _ (by
  delta x201_40 pA39 pB39 pS39
  dsimp only)
noncomputable def y213 (P : Params) : Obj := (fun (g : Obj) (_ : x213_51 P = g) => g) _ (by
  delta x213_51 pA42 pB42 pS42
  dsimp only)
noncomputable def y220 (P : Params) : Obj := (fun (g : Obj) (_ : x220_51 P = g) => g) _ (by
  delta x220_51 pA44 pB44 pS44
  dsimp only)
noncomputable def y227 (P : Params) : Obj := (fun (g : Obj) (_ : x227_51 P = g) => g) _ (by
  delta x227_51 pA45 pB45 pS45
  dsimp only)
noncomputable def y234 (P : Params) : Obj := (fun (g : Obj) (_ : x234_51 P = g) => g) _ (by
  delta x234_51 pA47 pB47 pS47
  dsimp only)
noncomputable def y241 (P : Params) : Obj := (fun (g : Obj) (_ : x241_51 P = g) => g) _ (by
  delta x241_51 pA48 pB48 pS48
  dsimp only)
noncomputable def y246 (P : Params) : Obj := (fun (g : Obj) (_ : x246_51 P = g) => g) _ (by
  delta x246_51 pA49 pB49 pS49
  dsimp only)
noncomputable def y253 (P : Params) : Obj := (fun (g : Obj) (_ : x253_51 P = g) => g) _ (by
  delta x253_51 pA50 pB50 pS50
  dsimp only)
noncomputable def y258 (P : Params) : Obj := (fun (g : Obj) (_ : x258_51 P = g) => g) _ (by
  delta x258_51 pA51 pB51 pS51
  dsimp only)
noncomputable def heap_39 (P : Params) : Frag := (nat_lit 2, x2_E P) :: (nat_lit 3, x3_51 P) :: (nat_lit 32, x7_E P) :: (nat_lit 34, x34_18 P) :: (nat_lit 35, x7_E P) :: (nat_lit 37, x37_18 P) :: (nat_lit 38, y38 P) :: (nat_lit 39, x7_E P) :: (nat_lit 41, x41_18 P) :: (nat_lit 42, x7_E P) :: (nat_lit 44, x44_18 P) :: (nat_lit 45, y45 P) :: (nat_lit 46, x46_18 P) :: (nat_lit 53, x7_E P) :: (nat_lit 55, x55_18 P) :: (nat_lit 56, x7_E P) :: (nat_lit 58, x58_18 P) :: (nat_lit 59, y59 P) :: (nat_lit 60, x7_E P) :: (nat_lit 61, x61_18 P) :: (nat_lit 62, x62_18 P) :: (nat_lit 65, x65_18 P) :: (nat_lit 72, x7_E P) :: (nat_lit 74, x74_18 P) :: (nat_lit 75, x7_E P) :: (nat_lit 77, x77_18 P) :: (nat_lit 78, y78 P) :: (nat_lit 79, x7_E P) :: (nat_lit 81, x81_18 P) :: (nat_lit 82, x7_E P) :: (nat_lit 84, x84_18 P) :: (nat_lit 85, y85 P) :: (nat_lit 86, x7_E P) :: (nat_lit 88, x88_18 P) :: (nat_lit 89, x7_E P) :: (nat_lit 91, x91_18 P) :: (nat_lit 92, y92 P) :: (nat_lit 93, x7_E P) :: (nat_lit 94, x94_18 P) :: (nat_lit 95, x95_18 P) :: (nat_lit 98, x7_E P) :: (nat_lit 100, x100_18 P) :: (nat_lit 101, x7_E P) :: (nat_lit 103, x103_18 P) :: (nat_lit 104, y104 P) :: (nat_lit 105, x7_E P) :: (nat_lit 107, x107_18 P) :: (nat_lit 108, x7_E P) :: (nat_lit 110, x110_18 P) :: (nat_lit 111, y111 P) :: (nat_lit 112, x7_E P) :: (nat_lit 114, x114_18 P) :: (nat_lit 115, x7_E P) :: (nat_lit 117, x117_18 P) :: (nat_lit 118, y118 P) :: (nat_lit 119, x7_E P) :: (nat_lit 121, x121_18 P) :: (nat_lit 122, x7_E P) :: (nat_lit 124, x124_18 P) :: (nat_lit 125, y125 P) :: (nat_lit 126, x7_E P) :: (nat_lit 128, x128_18 P) :: (nat_lit 129, x7_E P) :: (nat_lit 131, x131_18 P) :: (nat_lit 132, y132 P) :: (nat_lit 133, x7_E P) :: (nat_lit 135, x135_18 P) :: (nat_lit 136, x7_E P) :: (nat_lit 138, x138_18 P) :: (nat_lit 139, y139 P) :: (nat_lit 140, x7_E P) :: (nat_lit 142, x142_18 P) :: (nat_lit 143, x7_E P) :: (nat_lit 145, x145_18 P) :: (nat_lit 146, y146 P) :: (nat_lit 149, x149_19 P) :: (nat_lit 163, x7_E P) :: (nat_lit 165, x165_40 P) :: (nat_lit 166, x7_E P) :: (nat_lit 168, x168_40 P) :: (nat_lit 169, y169 P) :: (nat_lit 170, x7_E P) :: (nat_lit 172, x172_40 P) :: (nat_lit 173, x7_E P) :: (nat_lit 175, x175_40 P) :: (nat_lit 176, y176 P) :: (nat_lit 182, x182_40 P) :: (nat_lit 183, x7_E P) :: (nat_lit 185, x185_40 P) :: (nat_lit 186, x7_E P) :: (nat_lit 188, x188_40 P) :: (nat_lit 189, y189 P) :: (nat_lit 193, x193_40 P) :: (nat_lit 194, x194_40 P) :: (nat_lit 195, x7_E P) :: (nat_lit 197, x197_40 P) :: (nat_lit 198, x7_E P) :: (nat_lit 200, x200_40 P) :: (nat_lit 201, y201 P) :: (nat_lit 203, x203_41 P) :: (nat_lit 207, x7_E P) :: (nat_lit 209, x209_51 P) :: (nat_lit 210, x7_E P) :: (nat_lit 212, x212_51 P) :: (nat_lit 213, y213 P) :: (nat_lit 214, x7_E P) :: (nat_lit 216, x216_51 P) :: (nat_lit 217, x7_E P) :: (nat_lit 219, x219_51 P) :: (nat_lit 220, y220 P) :: (nat_lit 221, x7_E P) :: (nat_lit 223, x223_51 P) :: (nat_lit 224, x7_E P) :: (nat_lit 226, x226_51 P) :: (nat_lit 227, y227 P) :: (nat_lit 228, x7_E P) :: (nat_lit 230, x230_51 P) :: (nat_lit 231, x7_E P) :: (nat_lit 233, x233_51 P) :: (nat_lit 234, y234 P) :: (nat_lit 235, x7_E P) :: (nat_lit 237, x237_51 P) :: (nat_lit 238, x7_E P) :: (nat_lit 240, x240_51 P) :: (nat_lit 241, y241 P) :: (nat_lit 242, x7_E P) :: (nat_lit 245, x245_51 P) :: (nat_lit 246, y246 P) :: (nat_lit 247, x7_E P) :: (nat_lit 249, x249_51 P) :: (nat_lit 250, x7_E P) :: (nat_lit 252, x252_51 P) :: (nat_lit 253, y253 P) :: (nat_lit 254, x7_E P) :: (nat_lit 257, x257_51 P) :: (nat_lit 258, y258 P) :: []
abbrev addrs : List Addr := [2, 3, 32, 34, 35, 37, 38, 39, 41, 42, 44, 45, 46, 53, 55, 56, 58, 59, 60, 61, 62, 65, 72, 74, 75, 77, 78, 79, 81, 82, 84, 85, 86, 88, 89, 91, 92, 93, 94, 95, 98, 100, 101, 103, 104, 105, 107, 108, 110, 111, 112, 114, 115, 117, 118, 119, 121, 122, 124, 125, 126, 128, 129, 131, 132, 133, 135, 136, 138, 139, 140, 142, 143, 145, 146, 149, 163, 165, 166, 168, 169, 170, 172, 173, 175, 176, 182, 183, 185, 186, 188, 189, 193, 194, 195, 197, 198, 200, 201, 203, 207, 209, 210, 212, 213, 214, 216, 217, 219, 220, 221, 223, 224, 226, 227, 228, 230, 231, 233, 234, 235, 237, 238, 240, 241, 242, 245, 246, 247, 249, 250, 252, 253, 254, 257, 258]
noncomputable def view_39 : Program := { pw with main := { pw.main with body := [st 0, st 1, st 3, st 5, st 7, st 8, st 10, st 12, st 14, st 15, st 16, st 17, st 18, st 19, st 20, st 21, st 22, st 23, st 24, st 25, st 26, st 31, st 32, st 33, st 38, st 39, st 41, st 42, st 44, st 45, st 47, st 48, st 49, st 50, st 51] } }
abbrev loose : List PySem.Str := [Str.ofString "_QUOPRI_MAP", Str.ofString "_QUOPRI_HEADER_MAP", Str.ofString "_QUOPRI_BODY_MAP", Str.ofString "ascii_letters", Str.ofString "hexdigits", Str.ofString "_QUOPRI_BODY_ENCODE_MAP", Str.ofString "decode", Str.ofString "_twin_re_1", Str.ofString "_special_chars_map"]
abbrev lits : List (PySem.Str × WData) := [(Str.ofString "ascii_letters", .str ⟨#[97, 98, 99, 100, 101, 102, 103, 104, 105, 106, 107, 108, 109, 110, 111, 112, 113, 114, 115, 116, 117, 118, 119, 120, 121, 122, 65, 66, 67, 68, 69, 70, 71, 72, 73, 74, 75, 76, 77, 78, 79, 80, 81, 82, 83, 84, 85, 86, 87, 88, 89, 90]⟩), (Str.ofString "hexdigits", .str ⟨#[48, 49, 50, 51, 52, 53, 54, 55, 56, 57, 97, 98, 99, 100, 101, 102, 65, 66, 67, 68, 69, 70]⟩)]
theorem addrs_of (P : Params) : addrs = (heap_39 P).map (·.1) := by kernel_rfl
noncomputable abbrev Hk : Hook := kmHook heap_39 addrs addrs_of [215]
noncomputable abbrev Xt (s : Shared) : Bool := xlAt view_39 lits s && recOk (RowW.records PySem.Challenge.rw_rt0091_01.row.toRowW) s
theorem looks1 (w : World) (os : OsState) : (staticsOk (importedModules pw.main.body) (H0 w.params) (H1 w.params) && namesBound pw (H1 w.params) && gensDone ⟨H1 w.params, #[], {}, 2307, os⟩ && laidKept (H0 w.params) (H1 w.params)) = true := by
  kernel_rfl
theorem looks2 (w : World) (os : OsState) : openSeen view_39 loose (importedModules pw.main.body) Xt true ⟨H1 w.params, #[], {}, 2307, os⟩ = openGood view_39 loose := by
  kernel_rfl
theorem looks3 (w : World) (os : OsState) : Hk.obs ⟨H1 w.params, #[], {}, 2307, os⟩ = Hk.val w := by
  kernel_rfl
theorem looks (w : World) : (fun os => ((staticsOk (importedModules pw.main.body) (H0 w.params) (H1 w.params) && namesBound pw (H1 w.params) && gensDone ⟨H1 w.params, #[], {}, 2307, os⟩ && laidKept (H0 w.params) (H1 w.params)), openSeen view_39 loose (importedModules pw.main.body) Xt true ⟨H1 w.params, #[], {}, 2307, os⟩, Hk.obs ⟨H1 w.params, #[], {}, 2307, os⟩)) = fun _ => (true, openGood view_39 loose, Hk.val w) := by
  funext os
  rw [looks1, looks2, looks3]
theorem left : LeftO pw view_39 loose Xt Hk.obs Hk.val N0 :=
  LeftO.of_pieces (H₀ := H0) (H₁ := H1) (gs₀ := #[]) (gs₁ := #[]) (d₀ := {}) (d₁ := {}) (k₀ := 276) (k₁ := 2307) (m₀ := 28) (ann := ann) (M := 12 + (1 + (1000 + (9600 + (200 + (3200 + (100 + (4400 + (500 + (1300 + (301 + 2)))))))))))
    opened size run (by decide) looks
theorem said : PySem.Challenge.rw_rt0091_01.wellSaid = true := by
  rw [PySem.W.Fast.te9446332074065402090]
  kernel_rfl
end hd
end Nine
example : (fun (_ : OpenLaw) (_ : Params → Frag) => True) PySem.Challenge.rw_rt0091_01 Nine.hd.heap_39 := by
  k_fill
  trivial
namespace Nine
local macro_rules | `(tactic| walk_at $s:str) => `(tactic| k_extra $s)
section
open PySem.Builtin PySem.Builtin.Str
abbrev sl : PySem.Str := ⟨#[47]⟩
abbrev dt : PySem.Str := ⟨#[46]⟩
abbrev dd : PySem.Str := ⟨#[46, 46]⟩

/-! lists of owners -/
/-- the state behind the uses (level 1 first) -/
def fore (rr : Fin 4 → Nat) (us : List (Fin 4)) : List (Fin 4) := us.foldl (fun o k => List.replicate (rr k) k ++ o.drop (rr k)) []
def backStep (rr : Fin 4 → Nat) (o : List (Fin 4)) (k : Fin 4) : List (Fin 4) := if o.length < rr k then o ++ List.replicate (rr k - o.length) k else o
def back (rr : Fin 4 → Nat) (o us : List (Fin 4)) : List (Fin 4) := us.foldl (backStep rr) o

theorem fore_snoc (rr : Fin 4 → Nat) (us : List (Fin 4)) (k : Fin 4) : fore rr (us ++ [k]) = List.replicate (rr k) k ++ (fore rr us).drop (rr k) := by
  simp [fore]

theorem back_fore (rr : Fin 4 → Nat) : ∀ (rv : List (Fin 4)) (o : List (Fin 4)), back rr o rv = o ++ (fore rr rv.reverse).drop o.length
  | [], o => by simp [back, fore]
  | k :: rv, o => by
    have ih := back_fore rr rv
    show back rr (backStep rr o k) rv = _
    rw [ih, List.reverse_cons, fore_snoc]
    unfold backStep
    by_cases h : o.length < rr k
    · rw [if_pos h, List.append_assoc]
      congr 1
      rw [List.drop_append, List.drop_replicate, List.length_append, List.length_replicate, List.length_replicate]
      congr 1
      rw [List.drop_drop]
      congr 1
      omega
    · rw [if_neg h]
      congr 1
      rw [List.drop_append, List.drop_replicate, List.length_replicate, List.drop_drop]
      rw [show rr k - o.length = 0 by omega]
      simp only [List.replicate_zero, List.nil_append]
      congr 1
      omega

theorem back_nil (rr : Fin 4 → Nat) (us : List (Fin 4)) : back rr [] us.reverse = fore rr us := by
  rw [back_fore]; simp

theorem back_snoc (rr : Fin 4 → Nat) (o us : List (Fin 4)) (k : Fin 4) : back rr o (us ++ [k]) = backStep rr (back rr o us) k := by
  simp [back]

theorem backStep_len (rr : Fin 4 → Nat) (o : List (Fin 4)) (k : Fin 4) : o.length ≤ (backStep rr o k).length ∧ rr k ≤ (backStep rr o k).length := by
  unfold backStep
  split
  · simp; omega
  · constructor <;> omega

theorem back_len (rr : Fin 4 → Nat) : ∀ (us o : List (Fin 4)), o.length ≤ (back rr o us).length ∧ ∀ k ∈ us, rr k ≤ (back rr o us).length
  | [], o => ⟨Nat.le_refl _, fun _ h => nomatch h⟩
  | x :: us, o => by
    have ih := back_len rr us (backStep rr o x)
    have h1 := backStep_len rr o x
    refine ⟨Nat.le_trans h1.1 ih.1, fun k hk => ?_⟩
    cases hk with
    | head => exact Nat.le_trans h1.2 ih.1
    | tail _ h => exact ih.2 k h

/-- the last uses -/
def lasts : List (Fin 4) → List (Fin 4)
  | [] => []
  | x :: t => if x ∈ t then lasts t else x :: lasts t

theorem lasts_mem : ∀ (us : List (Fin 4)) (x : Fin 4), x ∈ lasts us ↔ x ∈ us
  | [], x => Iff.rfl
  | y :: t, x => by
    unfold lasts
    have ih := lasts_mem t x
    split
    · rename_i h
      rw [ih, List.mem_cons]
      constructor
      · exact .inr
      · rintro (rfl | h'); exact h; exact h'
    · rw [List.mem_cons, List.mem_cons, ih]

theorem fore_lasts (rr : Fin 4 → Nat) (us : List (Fin 4)) : fore rr (lasts us) = fore rr us := by
  rw [← back_nil, ← back_nil]
  induction us with
  | nil => rfl
  | cons x t ih =>
    unfold lasts
    rw [List.reverse_cons, back_snoc]
    split
    · rename_i h
      rw [ih]
      have hl := (back_len rr t.reverse []).2 x (List.mem_reverse.mpr h)
      unfold backStep
      rw [if_neg (by omega)]
    · rw [List.reverse_cons, back_snoc, ih]

/-- the records: (in the order of the search, owners) -/
def recStep (rr : Fin 4 → Nat) (p : List (Fin 4) × List (Fin 4)) (k : Fin 4) : List (Fin 4) × List (Fin 4) :=
  if p.2.length < rr k then (p.1 ++ [k], p.2 ++ List.replicate (rr k - p.2.length) k) else p
def recRun (rr : Fin 4 → Nat) (p : List (Fin 4) × List (Fin 4)) (us : List (Fin 4)) : List (Fin 4) × List (Fin 4) := us.foldl (recStep rr) p

theorem recRun_owners (rr : Fin 4 → Nat) : ∀ (us : List (Fin 4)) (p : List (Fin 4) × List (Fin 4)), (recRun rr p us).2 = back rr p.2 us
  | [], _ => rfl
  | k :: us, p => by
    show (recRun rr (recStep rr p k) us).2 = back rr (backStep rr p.2 k) us
    rw [recRun_owners rr us]
    congr 1
    unfold recStep backStep
    split <;> rfl

/-- what the records alone make -/
theorem recRun_records (rr : Fin 4 → Nat) : ∀ (us : List (Fin 4)) (p : List (Fin 4) × List (Fin 4)) (o : List (Fin 4)), back rr o p.1 = p.2 → back rr o (recRun rr p us).1 = (recRun rr p us).2
  | [], _, _, h => h
  | k :: us, p, o, h => by
    show back rr o (recRun rr (recStep rr p k) us).1 = (recRun rr (recStep rr p k) us).2
    refine recRun_records rr us _ o ?_
    unfold recStep
    split
    · rename_i hk
      dsimp only
      rw [back_snoc, h]
      unfold backStep
      rw [if_pos hk]
    · exact h

theorem recRun_mem (rr : Fin 4 → Nat) (x : Fin 4) : ∀ (us : List (Fin 4)) (p : List (Fin 4) × List (Fin 4)), (x ∈ p.1 ↔ x ∈ p.2) → (x ∈ (recRun rr p us).1 ↔ x ∈ (recRun rr p us).2)
  | [], _, h => h
  | k :: us, p, h => by
    show x ∈ (recRun rr (recStep rr p k) us).1 ↔ x ∈ (recRun rr (recStep rr p k) us).2
    refine recRun_mem rr x us _ ?_
    unfold recStep
    split
    · rename_i hk
      simp only [List.mem_append, List.mem_singleton, List.mem_replicate, h]
      constructor
      · rintro (h | rfl)
        · exact .inl h
        · exact .inr ⟨by omega, rfl⟩
      · rintro (h | ⟨_, rfl⟩)
        · exact .inl h
        · exact .inr rfl
    · exact h

theorem recRun_len (rr : Fin 4 → Nat) (B : Nat) (hr : ∀ k, rr k ≤ B) : ∀ (us : List (Fin 4)) (p : List (Fin 4) × List (Fin 4)), p.1.length ≤ p.2.length ∧ p.2.length ≤ B → (recRun rr p us).1.length ≤ (recRun rr p us).2.length ∧ (recRun rr p us).2.length ≤ B
  | [], _, h => h
  | k :: us, p, h => by
    refine recRun_len rr B hr us _ ?_
    have := hr k
    unfold recStep
    split
    · simp only [List.length_append, List.length_singleton, List.length_replicate]; omega
    · exact h

/-- the records' row means what the uses mean -/
theorem fore_records (rr : Fin 4 → Nat) (us : List (Fin 4)) : fore rr (recRun rr ([], []) us.reverse).1.reverse = fore rr us := by
  rw [← back_nil, List.reverse_reverse, recRun_records rr us.reverse ([], []) [] rfl, recRun_owners, back_nil]

theorem owners_fore (rr : Fin 4 → Nat) (us : List (Fin 4)) : (recRun rr ([], []) us.reverse).2 = fore rr us := by
  rw [recRun_owners, back_nil]

theorem fore_len (rr : Fin 4 → Nat) (B : Nat) (hr : ∀ k, rr k ≤ B) (us : List (Fin 4)) : (fore rr us).length ≤ B := by
  rw [← owners_fore]
  exact (recRun_len rr B hr us.reverse ([], []) ⟨Nat.le_refl _, Nat.zero_le _⟩).2

/-! components -/
inductive Cm where
  | up
  | dot
  | nm (k : Fin 4) (l : Fin 3)
  deriving DecidableEq
def Cm.txt : Cm → PySem.Str
  | .up => dd
  | .dot => dt
  | .nm k l => ⟨#[61, 50 + k.val, if l.val = 0 then 70 else if l.val = 1 then 69 else 65]⟩

def cstep (st : List Cm) (c : Cm) : List Cm := match c with
  | .dot => st
  | .up => if st = [] ∨ st.getLast? = some .up then st ++ [.up] else st.dropLast
  | .nm k l => st ++ [.nm k l]
def cnorm (st : List Cm) (xs : List Cm) : List Cm := xs.foldl cstep st

def lev (k : Fin 4) : Nat → List Cm
  | 0 => []
  | 1 => [.nm k 0]
  | 2 => [.nm k 1, .nm k 0]
  | _ => [.nm k 2, .nm k 1, .nm k 0]
def linkC (k : Fin 4) (r : Nat) : List Cm := List.replicate r .up ++ lev k r

def namesC : List (Fin 4) → List Cm
  | [] => []
  | [a] => [.nm a 0]
  | [a, b] => [.nm b 1, .nm a 0]
  | a :: b :: c :: _ => [.nm c 2, .nm b 1, .nm a 0]
def canon (o : List (Fin 4)) : List Cm := List.replicate o.length .up ++ namesC o

theorem canon_step0 : ∀ (k : Fin 4) (r : Fin 4), cnorm (canon []) (linkC k r.val) = canon (List.replicate r.val k ++ ([] : List (Fin 4)).drop r.val) := by decide +kernel
theorem canon_step1 : ∀ (a : Fin 4) (k : Fin 4) (r : Fin 4), cnorm (canon [a]) (linkC k r.val) = canon (List.replicate r.val k ++ [a].drop r.val) := by decide +kernel
theorem canon_step2 : ∀ (a b : Fin 4) (k : Fin 4) (r : Fin 4), cnorm (canon [a, b]) (linkC k r.val) = canon (List.replicate r.val k ++ [a, b].drop r.val) :=
  fun a b k r => match r with
  | 0 => by kernel_rfl
  | 1 => by kernel_rfl
  | 2 => by kernel_rfl
  | 3 => by kernel_rfl
theorem canon_step3 : ∀ (a b c : Fin 4) (k : Fin 4) (r : Fin 4), cnorm (canon [a, b, c]) (linkC k r.val) = canon (List.replicate r.val k ++ [a, b, c].drop r.val) :=
  fun a b c k r => match r with
  | 0 => by kernel_rfl
  | 1 => by kernel_rfl
  | 2 => by kernel_rfl
  | 3 => by kernel_rfl

theorem canon_step (o : List (Fin 4)) (ho : o.length ≤ 3) (k : Fin 4) (r : Nat) (hr : r ≤ 3) : cnorm (canon o) (linkC k r) = canon (List.replicate r k ++ o.drop r) := by
  have hr' : r < 4 := by omega
  match o, ho with
  | [], _ => exact canon_step0 k ⟨r, hr'⟩
  | [a], _ => exact canon_step1 a k ⟨r, hr'⟩
  | [a, b], _ => exact canon_step2 a b k ⟨r, hr'⟩
  | [a, b, c], _ => exact canon_step3 a b c k ⟨r, hr'⟩
  | _ :: _ :: _ :: _ :: _, h => simp at h

/-- the components of a row of uses -/
def rowC (rr : Fin 4 → Nat) (us : List (Fin 4)) : List Cm := us.flatMap fun k => linkC k (rr k)

theorem rowC_snoc (rr : Fin 4 → Nat) (us : List (Fin 4)) (k : Fin 4) : rowC rr (us ++ [k]) = rowC rr us ++ linkC k (rr k) := by
  simp [rowC]

theorem foldl_fore_len (rr : Fin 4 → Nat) (hr : ∀ k, rr k ≤ 3) (us : List (Fin 4)) : ∀ o : List (Fin 4), o.length ≤ 3 → (us.foldl (fun o k => List.replicate (rr k) k ++ o.drop (rr k)) o).length ≤ 3 := by
  induction us with
  | nil => exact fun _ h => h
  | cons k us ih =>
    intro o ho
    refine ih _ ?_
    have := hr k
    simp only [List.length_append, List.length_replicate, List.length_drop]
    omega

theorem cnorm_row (rr : Fin 4 → Nat) (hr : ∀ k, rr k ≤ 3) : ∀ (us o : List (Fin 4)), o.length ≤ 3 → cnorm (canon o) (rowC rr us) = canon (us.foldl (fun o k => List.replicate (rr k) k ++ o.drop (rr k)) o)
  | [], _, _ => rfl
  | k :: us, o, ho => by
    have e : rowC rr (k :: us) = linkC k (rr k) ++ rowC rr us := by simp [rowC]
    rw [e]
    unfold cnorm
    rw [List.foldl_append]
    have h1 := canon_step o ho k (rr k) (hr k)
    unfold cnorm at h1
    rw [h1]
    refine cnorm_row rr hr us _ ?_
    have := hr k
    simp only [List.length_append, List.length_replicate, List.length_drop]
    omega

/-- normal forms are their own -/
theorem cnorm_canon0 : cnorm [] (canon []) = canon [] := by decide +kernel
theorem cnorm_canon1 : ∀ a, cnorm [] (canon [a]) = canon [a] := by decide +kernel
theorem cnorm_canon2 : ∀ a b, cnorm [] (canon [a, b]) = canon [a, b] := by decide +kernel
theorem cnorm_canon3 : ∀ a b c, cnorm [] (canon [a, b, c]) = canon [a, b, c] := by decide +kernel
theorem cnorm_canon (o : List (Fin 4)) (ho : o.length ≤ 3) : cnorm [] (canon o) = canon o := by
  match o, ho with
  | [], _ => exact cnorm_canon0
  | [a], _ => exact cnorm_canon1 a
  | [a, b], _ => exact cnorm_canon2 a b
  | [a, b, c], _ => exact cnorm_canon3 a b c
  | _ :: _ :: _ :: _ :: _, h => simp at h

/-- the second part, as its normal form, does what it does -/
def top2 (o p : List (Fin 4)) : List (Fin 4) := p ++ o.drop p.length
theorem two0 : ∀ (o : List (Fin 4)), cnorm (canon o) (canon []) = canon (top2 o []) := fun o => by simp [top2, canon, namesC, cnorm]
theorem two1 : ∀ (a x : Fin 4), cnorm (canon []) (canon [x]) = canon (top2 [] [x]) ∧ cnorm (canon [a]) (canon [x]) = canon (top2 [a] [x]) := by
  intros
  exact ⟨by kernel_rfl, by kernel_rfl⟩
theorem two1b : ∀ (a b x : Fin 4), cnorm (canon [a, b]) (canon [x]) = canon (top2 [a, b] [x]) := by
  intros
  kernel_rfl
theorem two1c : ∀ (a b c x : Fin 4), cnorm (canon [a, b, c]) (canon [x]) = canon (top2 [a, b, c] [x]) := by
  intros
  kernel_rfl
theorem two2 : ∀ (a x y : Fin 4), cnorm (canon []) (canon [x, y]) = canon (top2 [] [x, y]) ∧ cnorm (canon [a]) (canon [x, y]) = canon (top2 [a] [x, y]) := by
  intros
  exact ⟨by kernel_rfl, by kernel_rfl⟩
theorem two2b : ∀ (a b x y : Fin 4), cnorm (canon [a, b]) (canon [x, y]) = canon (top2 [a, b] [x, y]) := by
  intros
  kernel_rfl
theorem two2c : ∀ (a b c x y : Fin 4), cnorm (canon [a, b, c]) (canon [x, y]) = canon (top2 [a, b, c] [x, y]) := by
  intros
  kernel_rfl
theorem two3 : ∀ (a x y z : Fin 4), cnorm (canon []) (canon [x, y, z]) = canon (top2 [] [x, y, z]) ∧ cnorm (canon [a]) (canon [x, y, z]) = canon (top2 [a] [x, y, z]) := by
  intros
  exact ⟨by kernel_rfl, by kernel_rfl⟩
theorem two3b : ∀ (a b x y z : Fin 4), cnorm (canon [a, b]) (canon [x, y, z]) = canon (top2 [a, b] [x, y, z]) := by
  intros
  kernel_rfl
theorem two3c : ∀ (a b c x y z : Fin 4), cnorm (canon [a, b, c]) (canon [x, y, z]) = canon (top2 [a, b, c] [x, y, z]) := by
  intros
  kernel_rfl
theorem two (o p : List (Fin 4)) (ho : o.length ≤ 3) (hp : p.length ≤ 3) : cnorm (canon o) (canon p) = canon (top2 o p) := by
  match p, hp, o, ho with
  | [], _, o, _ => exact two0 o
  | [x], _, [], _ => exact (two1 0 x).1
  | [x], _, [a], _ => exact (two1 a x).2
  | [x], _, [a, b], _ => exact two1b a b x
  | [x], _, [a, b, c], _ => exact two1c a b c x
  | [x, y], _, [], _ => exact (two2 0 x y).1
  | [x, y], _, [a], _ => exact (two2 a x y).2
  | [x, y], _, [a, b], _ => exact two2b a b x y
  | [x, y], _, [a, b, c], _ => exact two2c a b c x y
  | [x, y, z], _, [], _ => exact (two3 0 x y z).1
  | [x, y, z], _, [a], _ => exact (two3 a x y z).2
  | [x, y, z], _, [a, b], _ => exact two3b a b x y z
  | [x, y, z], _, [a, b, c], _ => exact two3c a b c x y z
  | _ :: _ :: _ :: _ :: _, h, _, _ => simp at h
  | _, _, _ :: _ :: _ :: _ :: _, h => simp at h

theorem fore_append (rr : Fin 4 → Nat) (us vs : List (Fin 4)) : fore rr (us ++ vs) = top2 (fore rr us) (fore rr vs) := by
  have key' : ∀ (rv o : List (Fin 4)), rv.reverse.foldl (fun o k => List.replicate (rr k) k ++ o.drop (rr k)) o = top2 o (fore rr rv.reverse) := by
    intro rv
    induction rv with
    | nil => intro o; simp [fore, top2]
    | cons k rv ih =>
      intro o
      rw [List.reverse_cons, fore_snoc, List.foldl_append, ih]
      show List.replicate (rr k) k ++ (top2 o (fore rr rv.reverse)).drop (rr k) = _
      unfold top2
      rw [List.append_assoc]
      congr 1
      rw [List.drop_append, List.length_append, List.length_replicate, List.length_drop, List.drop_drop]
      congr 2
      omega
  have key : ∀ (vs o : List (Fin 4)), vs.foldl (fun o k => List.replicate (rr k) k ++ o.drop (rr k)) o = top2 o (fore rr vs) := fun vs o => by
    have := key' vs.reverse o
    rwa [List.reverse_reverse] at this
  unfold fore at key ⊢
  rw [List.foldl_append, key]
end

/-! ## contracts -/
abbrev At (dp un : Nat) (gd : Option (List Code)) (fr : Option (List Env)) : Around := { handled := none, depth := dp, frames := fr, guards := gd, units := un }
/-- what a call of f upon vs hands back, from whatever state in which the top's objects stand (n: the room it asks): a value, and objects of its own; all that stood stays -/
def Cg (n : Nat) (prog : Program) (w : World) (p : Program) (loose : List PySem.Str) (mean : ExcName → Option Value) (mg mb : PySem.Str → Option Value) (f : Addr) (vs : List Value) (pre : Heap → Prop) (R : Value → List (Addr × Obj) → Prop) : Prop :=
  ∀ (dp un : Nat) (gd : Option (List Code)) (fr : Option (List Env)) (g : Heap) (gens : Array GenState) (dr : Drawn) (tk : Nat) (os : OsState) (Q E : Value → Shared → Prop), dp + n ≤ 350 → un + 20 * n ≤ 900 → (Nine.hd.heap_39 w.params).In g → Top p loose mean mg mb g → pre g →
    (∀ v add h' tk', R v add → g.StaysIn h' → (∀ q ∈ add, h'.get? q.1 = some q.2 ∧ g.get? q.1 = none) → Q v ⟨h', gens, dr, tk', os⟩) →
    wpAny (model prog w) (At dp un gd fr) (call (.ref f) vs) Q E ⟨g, gens, dr, tk, os⟩

theorem Cg.use {n : Nat} {prog : Program} {w : World} {p : Program} {loose : List PySem.Str} {mean : ExcName → Option Value} {mg mb : PySem.Str → Option Value} {f : Addr} {vs : List Value} {pre : Heap → Prop} {R : Value → List (Addr × Obj) → Prop}
    (C : Cg n prog w p loose mean mg mb f vs pre R)
    {dp un : Nat} {gd : Option (List Code)} {fr : Option (List Env)} {h₀ h : Heap} {gens : Array GenState} {dr : Drawn} {tk : Nat} {os : OsState} {L : Addr} {m : PySem.Str → Option Value} {news : List (Addr × Obj)} {Q E : Value → Shared → Prop}
    (F : Fr h₀ L h m) (X : (Nine.hd.heap_39 w.params).In h₀) (N : News h₀ L h news) (T : Top p loose mean mg mb h₀) (hd : dp + n ≤ 350) (hu : un + 20 * n ≤ 900) (hp : pre h)
    (ret : ∀ v add h' tk', R v add → Fr h₀ L h' m → News h₀ L h' (add ++ news) → Q v ⟨h', gens, dr, tk', os⟩) :
    wpAny (model prog w) (At dp un gd fr) (call (.ref f) vs) Q E ⟨h, gens, dr, tk, os⟩ := by
  refine C dp un gd fr h gens dr tk os Q E hd hu (X.keeps F.keep) (T.keeps F.keep) hp fun v add h' tk' hR hk hn => ?_
  obtain ⟨oL, es, ep, hL, hr⟩ := F.ns
  refine ret v add h' tk' hR ⟨⟨oL, es, ep, hk _ _ hL, hr⟩, fun b o e => hk _ _ (F.keep b o e), F.above⟩ fun q hq => ?_
  rcases List.mem_append.mp hq with hq | hq
  · obtain ⟨h1, h2⟩ := hn q hq
    refine ⟨h1, fun e => ?_, ?_⟩
    · rw [e, hL] at h2; cases h2
    · cases e : h₀.get? q.1 with
      | none => rfl
      | some o => rw [F.keep _ _ e] at h2; cases h2
  · exact ⟨hk _ _ (N q hq).1, (N q hq).2⟩

/-- the end of a def's walk: its frame still stands over what stood -/
def Dn (g : Heap) (L : Addr) (P : Value → Shared → Prop) (v : Value) (s' : Shared) : Prop := ∃ m', Fr g L s'.heap m' ∧ P v s'
theorem Dn.intro {g : Heap} {L : Addr} {P : Value → Shared → Prop} {v : Value} {s' : Shared} {m' : PySem.Str → Option Value} (F : Fr g L s'.heap m') (h : P v s') : Dn g L P v s' := ⟨m', F, h⟩

theorem call_G {prog : Program} {w : World} {A : Around} {g : Heap} {gens : Array GenState} {dr : Drawn} {tk : Nat} {os : OsState} {K : Frag} {Q E : Value → Shared → Prop} {name qual : PySem.Str} {params : Arguments} {body : List Stmt} {scope : Scope} {dV kV doc pm cdv ct oc : Value} {an od : Option Addr} {osl : Array (Option Value)} {f : Addr} {vs : List Value} {binds : List (PySem.Str × Value)}
    (X : K.In g) (hlim : g.NoLimit) (ho : K.lookup f = some ⟨oc, od, .func (fnOf name qual params body scope dV kV doc pm an cdv ct), osl⟩) (hcd : codeIn K cdv qual = true) (hroom : A.depth < recursionLimit)
    (hbind : BindsTo ⟨g, gens, dr, tk, os⟩ (fnOf name qual params body scope dV kV doc pm an cdv ct) ⟨vs, []⟩ binds) (hloc : ∀ y ∈ binds, scope.names.lookup y.1 = some .local)
    (h : ∀ L' h₁ tk', Fr g L' h₁ (fun y => binds.reverse.lookup y) → News g L' h₁ [] →
      wpAny (model prog w) (A.deeper (envOf qual scope L' f cdv)) (execs body (envOf qual scope L' f cdv))
        (fun fl s' => Dn g L' Q (match fl with | .ret v => v | _ => .none) s') (fun _ _ => False)
        ⟨h₁, gens, dr, tk', os⟩)
    (hco : scope.isCoroutine = false := by rfl) (hgen : scope.isGenerator = false := by rfl) (hk : scope.kind = .function := by rfl)
    (hcell : ∀ x ∈ scope.names, x.2 ≠ .cell := by decide) : wpAny (model prog w) A (call (.ref f) vs) Q E ⟨g, gens, dr, tk, os⟩ := by
  refine wpAny_call (codeAny_call_def (fd := fnOf name qual params body scope dV kV doc pm an cdv ct) (body := body) (binds := binds) hroom (X _ _ ho) rfl hlim (codeRec_of X hcd) rfl hbind hcell hloc (fun h₁ hns hk₁ => ?_) hco hgen hk)
  exact wpAny_mono (h g.objs.size h₁ _ ⟨hns, hk₁, Nat.le_refl _⟩ News.nil) (fun fl s' hl => let ⟨_, _, q⟩ := hl; q) fun _ _ x => x.elim

theorem wp_of_peek1' {α : Type} {K : Frag} {M : Model} {A : Around} {E : Value → Shared → Prop} {Q : α → Shared → Prop} {s : Shared} {o : Obj} {r : Addr → α}
    (X : K.In s.heap) (q : Q (r s.heap.objs.size) { s with heap := s.heap.push o }) :
    ∀ (t : Sem α) (g : Addr → Option α), peek1 K ⟨M.prog, M.w.params⟩ t = some (o, g) → (∀ D, g D = some (r D)) → wpAny M A t Q E s := by
  intro t
  induction t with
  | rule _ k ih => intro g e hg Γ p hΓ; exact ih () g e hg Γ p hΓ
  | point _ k ih => intro g e hg Γ p hΓ; exact ih () g e hg Γ p hΓ
  | ask k ih => intro g e hg Γ p hΓ; exact ih _ g e hg Γ p hΓ
  | load a _ k ih =>
    intro g e hg Γ p hΓ
    simp only [peek1] at e
    split at e
    · rename_i ob ho; exact ⟨ob, X _ _ ho, ih ob g e hg Γ p hΓ⟩
    · cases e
  | alloc ob k _ =>
    intro g e hg
    have e : some (ob, fun D => peek K ⟨M.prog, M.w.params⟩ (k D)) = some (o, g) := e
    obtain ⟨e1, e2⟩ := Prod.mk.inj (Option.some.inj e)
    subst e1
    subst e2
    have X' : K.In (s.heap.push ob) := X.keeps fun b x hb => Heap.get?_push_of_some _ hb
    show wpAny M A (alloc ob >>= k) Q E s
    refine wpAny_bind (wpAny_alloc ?_)
    exact (Looks.of_peek (M := M) (h := s.heap.push ob) X' (hg s.heap.objs.size)).here (s := { s with heap := s.heap.push ob }) q
  | _ => intro g e; cases e

/-- the same, of a def with a star -/
theorem call_GR {prog : Program} {w : World} {A : Around} {g : Heap} {gens : Array GenState} {dr : Drawn} {tk : Nat} {os : OsState} {K : Frag} {Q E : Value → Shared → Prop} {name qual : PySem.Str} {params : Arguments} {body : List Stmt} {scope : Scope} {dV kV doc pm cdv ct oc : Value} {an od : Option Addr} {osl : Array (Option Value)} {f : Addr} {args vs : List Value} {g₁ : Addr → Option (List (PySem.Str × Value))} {binds : Addr → List (PySem.Str × Value)}
    (X : K.In g) (hlim : g.NoLimit) (ho : K.lookup f = some ⟨oc, od, .func (fnOf name qual params body scope dV kV doc pm an cdv ct), osl⟩) (hcd : codeIn K cdv qual = true) (hroom : A.depth < recursionLimit)
    (hv : args.drop (params.posonlyargs.length + params.args.length) = vs)
    (hp : peek1 K ⟨prog, w.params⟩ (bindArgs (fnOf name qual params body scope dV kV doc pm an cdv ct) ⟨args, []⟩) = some (({ cls := .type "tuple", data := .seq vs.toArray } : Obj), g₁))
    (hg : ∀ D, g₁ D = some (binds D)) (hloc : ∀ D, ∀ y ∈ binds D, scope.names.lookup y.1 = some .local)
    (h : ∀ D L' h₁ tk', Fr g L' h₁ (fun y => (binds D).reverse.lookup y) → News g L' h₁ [(D, ({ cls := .type "tuple", data := .seq vs.toArray } : Obj))] →
      wpAny (model prog w) (A.deeper (envOf qual scope L' f cdv)) (execs body (envOf qual scope L' f cdv))
        (fun fl s' => Dn g L' Q (match fl with | .ret v => v | _ => .none) s') (fun _ _ => False)
        ⟨h₁, gens, dr, tk', os⟩)
    (hco : scope.isCoroutine = false := by rfl) (hgen : scope.isGenerator = false := by rfl) (hk : scope.kind = .function := by rfl)
    (hcell : ∀ x ∈ scope.names, x.2 ≠ .cell := by decide) : wpAny (model prog w) A (call (.ref f) args) Q E ⟨g, gens, dr, tk, os⟩ := by
  have _ := hv
  refine wpAny_call (codeAny_call_function (fd := fnOf name qual params body scope dV kV doc pm an cdv ct) (body := body) hroom (X _ _ ho) rfl hco hgen rfl (codeRec_of X hcd) ?_)
  refine wp_of_peek1' (o := ({ cls := .type "tuple", data := .seq vs.toArray } : Obj)) X (r := binds) ?_ _ g₁ hp hg
  have kp : ∀ b x, g.get? b = some x → (g.push ({ cls := .type "tuple", data := .seq vs.toArray } : Obj)).get? b = some x := fun b x hb => Heap.get?_push_of_some _ hb
  refine wpAny_newFunctionEnv hcell (hloc _) (fun h₁ hns hsb => ⟨(hlim.keeps kp).fresh _ hsb, codeAny_func ?_⟩) hk
  have hk₁ : ∀ b x, (g.push ({ cls := .type "tuple", data := .seq vs.toArray } : Obj)).get? b = some x → h₁.get? b = some x := fun b x e => hsb.extBut b x (Nat.ne_of_lt (Heap.lt_size e)) (Heap.get?_push_of_some _ e)
  have hD := Heap.get?_push_size (o := ({ cls := .type "tuple", data := .seq vs.toArray } : Obj)) g rfl
  have hnone : g.get? g.objs.size = none := by
    cases e : g.get? g.objs.size with
    | none => rfl
    | some x => exact absurd (Heap.lt_size e) (Nat.lt_irrefl _)
  refine wpAny_mono (h g.objs.size _ h₁ _ ⟨hns, fun b x e => hk₁ b x (kp b x e), ?_⟩ ?_) (fun fl s' hl => let ⟨_, _, q⟩ := hl; q) fun _ _ x => x.elim
  · show g.objs.size ≤ (g.push _).objs.size
    rw [Heap.size_push]; exact Nat.le_succ _
  · intro q hq
    rw [List.mem_singleton.mp hq]
    exact ⟨hk₁ _ _ hD, Nat.ne_of_lt (Heap.lt_size hD), hnone⟩

theorem wp_room {α : Type} {M : Model} {A : Around} {t : Sem α} {Q : α → Shared → Prop} {E : Value → Shared → Prop} {s : Shared} (hA : A.handled = none) (hd : A.depth ≤ 400) (hu : A.units ≤ 1000)
    (h : wpAny M { handled := none, depth := 400, frames := A.frames, guards := A.guards, units := 1000 } t Q E s) : wpAny M A t Q E s :=
  fun Γ p hΓ => h Γ p ⟨hΓ.1.trans hA, Nat.le_trans hΓ.2.1 hd, hΓ.2.2.1, hΓ.2.2.2.1, Nat.le_trans hΓ.2.2.2.2 hu⟩
theorem wp_never {α : Type} {M : Model} {A : Around} {t : Sem α} {Q : α → Shared → Prop} {E : Value → Shared → Prop} {s : Shared} (h : wpAny M A t Q (fun _ _ => False) s) : wpAny M A t Q E s := wpAny_mono h (fun _ _ x => x) fun _ _ x => x.elim

section
 local macro_rules | `(tactic| x_close) => do let h := Lean.mkIdent `hret; `(tactic| exact $h)
theorem xsub {prog : Program} {w : World} {fr gd} {s : Shared} {D : Addr} {Q E : Value → Shared → Prop} (ho : s.heap.get? D = some { cls := .type "tuple", data := .seq #[.type "str", .type "bytes"] 0 })
   (K : (hd.heap_39 w.params).In s.heap) (hret : Q (.bool true) s) :
   wpAny (model prog w) { handled := none, depth := 400, frames := fr, guards := gd, units := 1000 } (call (.builtin "issubclass") [.type "str", .ref D]) Q E s := by
  obtain ⟨hp, g, d, t, os⟩ := s
  x_run
end
theorem issub_K {prog : Program} {w : World} {A : Around} {s : Shared} {h₀ : Heap} {L D : Addr} {m : PySem.Str → Option Value} {news : List (Addr × Obj)} {Q E : Value → Shared → Prop} (F : Fr h₀ L s.heap m) (X : (hd.heap_39 w.params).In h₀) (N : News h₀ L s.heap news)
    (hm : (D, ({ cls := .type "tuple", data := .seq #[.type "str", .type "bytes"] 0 } : Obj)) ∈ news) (hA : A.handled = none) (hd : A.depth ≤ 400) (hu : A.units ≤ 1000) (h : Q (.bool true) s) :
    wpAny (model prog w) A (call (.builtin "issubclass") [.type "str", .ref D]) Q E s :=
  wp_room hA hd hu (xsub (N _ hm).1 (X.keeps F.keep) h)

/-! ## fspath, _get_sep -/
local macro_rules | `(tactic| tb_start) => `(tactic| first | omega | (dsimp only [At, Around.deeper, Around.in1, Around.mark]; omega))
example : True := by
  k_with "call builtin:issubclass" => (k_here; k_dflt (refine' issub_K ?z9k1 ?z9k2 ?z9k3 ?z9k4 ?z9k5 ?z9k6 ?z9k7 ?_; (case z9k1 => k_asm); (case z9k2 => k_asm); (case z9k3 => k_asm); (case z9k4 => k_mem); (case z9k5 => exact rfl); (case z9k6 => tb_start); (case z9k7 => tb_start); k_whole))
  trivial
-- the way into a def
local macro_rules | `(tactic| ktr_rel) => `(tactic| ((refine' call_G ?k1 ?k2 ?k6 ?k7 ?k8 ?k9 ?kB ?_ ?c2 ?c3 ?c4 ?c5); (case k1 => k_asm); (case k2 => exact Top.nolimit (by k_asm)); (case k6 => k_is); (case k7 => k_is); (case k8 => (show _ < 1000; tb_start)); (case k9 => exact BindsTo.of_eq rfl); (case c5 => decide); (case kB => exact locs rfl); (case c2 => exact rfl); (case c3 => exact rfl); (case c4 => exact rfl); k_whole; intro L' h' tk' F' N'; (try dsimp only); (try k_fold)))
section
variable {prog : Program} {w : World} {p : Program} {loose : List PySem.Str} {mean : ExcName → Option Value} {mg mb : PySem.Str → Option Value}
theorem fspath_ok (x : PySem.Str) (tx : Tok) : Cg 1 prog w p loose mean mg mb 111 [.str x tx] (fun _ => True) (fun v add => add = [] ∧ ∃ t, v = .str x t) := by
  intro dp un gd fr g gens dr tk os Q E hd hu X T _ hret
  k_dflt ktr_rel
  k_steps
  exact Dn.intro (by k_asm) (hret _ [] _ _ ⟨rfl, _, rfl⟩ (Fr.keep (by k_asm)) (by simp))
theorem get_sep_ok (x : PySem.Str) (tx : Tok) : Cg 1 prog w p loose mean mg mb 125 [.str x tx] (fun _ => True) (fun v add => add = [] ∧ ∃ t, v = .str sl t) := by
  intro dp un gd fr g gens dr tk os Q E hd hu X T _ hret
  k_dflt ktr_rel
  k_steps
  exact Dn.intro (by k_asm) (hret _ [] _ _ ⟨rfl, _, rfl⟩ (Fr.keep (by k_asm)) (by simp))
end

def joinT (a b : PySem.Str) : PySem.Str :=
  if Txt.startswith b sl || a.length == 0 then b
  else if Txt.endswith a sl then a ++ b
  else a ++ (sl ++ b)
theorem joinT_1 {a b : PySem.Str} (h : Txt.startswith b sl = true) : joinT a b = b := by unfold joinT; rw [h]; rfl
theorem joinT_2 {a b : PySem.Str} (h : (a.length : Int) = 0) : joinT a b = b := by
  unfold joinT
  have h' : (a.length == 0) = true := by simp; omega
  rw [h', Bool.or_true]; rfl
theorem joinT_3 {a b : PySem.Str} (h : Txt.startswith b sl = false) (h2 : ¬ (a.length : Int) = 0) (h3 : Txt.endswith a sl = true) : joinT a b = a ++ b := by
  unfold joinT
  have h' : (a.length == 0) = false := by simp; omega
  rw [h, h', h3]; rfl
theorem joinT_4 {a b : PySem.Str} (h : Txt.startswith b sl = false) (h2 : ¬ (a.length : Int) = 0) (h3 : Txt.endswith a sl = false) : joinT a b = a ++ (sl ++ b) := by
  unfold joinT
  have h' : (a.length == 0) = false := by simp; omega
  rw [h, h', h3]; rfl
theorem sl_len : sl.length = 1 := rfl
example : True := by
  k_with "inplaceOp Add str str" => (k_here; k_dflt (refine' SB.iadd ?_ ?z9z; (case z9z => (simp only [Str.length_append, sl_len]; rw [sizeLine_eq]; omega))); intro t' tk')
  trivial
-- a call by its contract
example : True := by
  k_with "call ref" => (k_here; (with_reducible show wpAny _ _ (call (Value.ref 111) _ _) _ _ _); k_dflt (refine' Cg.use (fspath_ok _ _) ?z9k1 ?z9k2 ?z9k3 ?z9k4 ?z9k6 ?z9k7 ?z9k8 ?_; (case z9k1 => k_asm); (case z9k2 => k_asm); (case z9k3 => k_asm); (case z9k4 => k_asm); (case z9k6 => tb_start); (case z9k7 => tb_start); (case z9k8 => trivial)); intro v' add' h' tk' hv' F' N'; obtain ⟨ha', t', hv'⟩ := hv'; subst hv'; subst ha'; simp only [List.nil_append] at N'; (try k_sweep))
  trivial
example : True := by
  k_with "call ref" => (k_here; (with_reducible show wpAny _ _ (call (Value.ref 125) _ _) _ _ _); k_dflt (refine' Cg.use (get_sep_ok _ _) ?z9k1 ?z9k2 ?z9k3 ?z9k4 ?z9k6 ?z9k7 ?z9k8 ?_; (case z9k1 => k_asm); (case z9k2 => k_asm); (case z9k3 => k_asm); (case z9k4 => k_asm); (case z9k6 => tb_start); (case z9k7 => tb_start); (case z9k8 => trivial)); intro v' add' h' tk' hv' F' N'; obtain ⟨ha', t', hv'⟩ := hv'; subst hv'; subst ha'; simp only [List.nil_append] at N'; (try k_sweep))
  trivial
section
variable {prog : Program} {w : World} {p : Program} {loose : List PySem.Str} {mean : ExcName → Option Value} {mg mb : PySem.Str → Option Value}
theorem join_ok (x y : PySem.Str) (tx ty : Tok) (hl : x.length + y.length ≤ 100000) : Cg 2 prog w p loose mean mg mb 132 [.str x tx, .str y ty] (fun _ => True) (fun v add => add = [] ∧ ∃ t, v = .str (joinT x y) t) := by
  intro dp un gd fr g gens dr tk os Q E hd hu X T _ hret
  k_dflt (refine' call_GR ?k1 ?k2 ?k6 ?k7 ?k8 ?kV ?kP ?kG ?kB ?_ ?c2 ?c3 ?c4 ?c5; (case k1 => k_asm); (case k2 => exact Top.nolimit (by k_asm)); (case k6 => k_is); (case k7 => k_is); (case k8 => (show _ < 1000; tb_start)); (case kV => kl_lit); (case kP => exact rfl); (case kG => exact fun _ => rfl); (case kB => exact fun _ => locs rfl); (case c5 => decide); (case c2 => exact rfl); (case c3 => exact rfl); (case c4 => exact rfl); k_whole; intro D' L' h' tk' F' N'; (try dsimp only); (try k_fold))
  k_steps
  all_goals (try dsimp only)
  all_goals (show Dn _ _ _ _ _)
  all_goals first
    | exact Dn.intro (by k_asm) (hret _ [] _ _ ⟨rfl, _, by rw [joinT_1 (by assumption)]⟩ (Fr.keep (by k_asm)) (by simp))
    | exact Dn.intro (by k_asm) (hret _ [] _ _ ⟨rfl, _, by rw [joinT_2 (by assumption)]⟩ (Fr.keep (by k_asm)) (by simp))
    | exact Dn.intro (by k_asm) (hret _ [] _ _ ⟨rfl, _, by rw [joinT_3 (by assumption) (by assumption) (by assumption)]⟩ (Fr.keep (by k_asm)) (by simp))
    | exact Dn.intro (by k_asm) (hret _ [] _ _ ⟨rfl, _, by rw [joinT_4 (by assumption) (by assumption) (by assumption)]⟩ (Fr.keep (by k_asm)) (by simp))
    | w_report
end

-- a call by its contract
section
variable {prog : Program} {w : World} {p : Program} {loose : List PySem.Str} {mean : ExcName → Option Value} {mg mb : PySem.Str → Option Value}
theorem splitroot_ok (x : PySem.Str) (tx : Tok) (hl : x.length ≤ 100000) (h1 : (Txt.slice x none (some 1) != PySem.Str.ofString "/") = true) : Cg 2 prog w p loose mean mg mb 139 [.str x tx] (fun _ => True)
    (fun v add => ∃ a t t' t'', v = .ref a ∧ add = [(a, ({ cls := .type "tuple", data := .seq #[.str Str.empty t, .str Str.empty t', .str x t''] } : Obj))]) := by
  intro dp un gd fr g gens dr tk os Q E hd hu X T _ hret
  k_dflt ktr_rel
  k_steps
  all_goals (try dsimp only)
  all_goals (show Dn _ _ _ _ _)
  all_goals first
    | exact Dn.intro (by k_asm) (hret _ _ _ _ ⟨_, _, _, _, rfl, rfl⟩ (Fr.keep (by k_asm)) (fun q hq => ⟨(News.get (by k_asm) hq), News.fresh (by k_asm) hq⟩))
    | w_report
end

section loops
variable {prog : Program} {w : World} {A : Around} {E : Value → Shared → Prop} {env : Env} {h₀ : Heap} {x : PySem.Str} {body : List Stmt} {Q : Flow → Shared → Prop} {h : Heap} {gens : Array GenState} {dr : Drawn} {tk : Nat} {os : OsState} {σ : Type}

/-- a turn's end: the state c, its ledger, its names -/
def TE (h₀ : Heap) (L : Addr) (Ld : σ → List (Addr × Obj)) (cst : List (Addr × Obj)) (ps : σ → List (PySem.Str × Value)) (x : PySem.Str) (stored : List PySem.Str) (m₀ : PySem.Str → Option Value) (P : σ → Prop) (it : Addr × Obj) (gens : Array GenState) (dr : Drawn) (os : OsState) (s₂ : Shared) : Prop :=
  ∃ c h' tk m' news', s₂ = ⟨h', gens, dr, tk, os⟩ ∧ Fr h₀ L h' m' ∧ News h₀ L h' news' ∧ (∀ p ∈ Ld c ++ (cst ++ [it]), p ∈ news') ∧ (∀ p ∈ ps c, m' p.1 = some p.2) ∧ (∀ z, z ≠ x → (∀ p ∈ ps c, z ≠ p.1) → stored.contains z = false → m' z = m₀ z) ∧ P c
theorem TE.intro {L : Addr} {Ld : σ → List (Addr × Obj)} {cst : List (Addr × Obj)} {ps : σ → List (PySem.Str × Value)} {stored : List PySem.Str} {m₀ m' : PySem.Str → Option Value} {P : σ → Prop} {it : Addr × Obj} {news' : List (Addr × Obj)} (c : σ)
    (F : Fr h₀ L h m') (N : News h₀ L h news') (hn : ∀ p ∈ Ld c ++ (cst ++ [it]), p ∈ news') (hk : ∀ p ∈ ps c, m' p.1 = some p.2) (hr : ∀ z, z ≠ x → (∀ p ∈ ps c, z ≠ p.1) → stored.contains z = false → m' z = m₀ z) (hp : P c) :
    TE h₀ L Ld cst ps x stored m₀ P it gens dr os ⟨h, gens, dr, tk, os⟩ := ⟨c, h, tk, m', news', rfl, F, N, hn, hk, hr, hp⟩
def TP (h₀ : Heap) (L : Addr) (Ld : σ → List (Addr × Obj)) (cst : List (Addr × Obj)) (ps : σ → List (PySem.Str × Value)) (x : PySem.Str) (stored : List PySem.Str) (m₀ : PySem.Str → Option Value) (P : σ → Prop) (it : Addr × Obj) (gens : Array GenState) (dr : Drawn) (os : OsState) (Q : Flow → Shared → Prop) (f : Flow) (s₂ : Shared) : Prop :=
  match f with
  | .ret v => Q (.ret v) s₂
  | .brk => Q .next s₂
  | _ => TE h₀ L Ld cst ps x stored m₀ P it gens dr os s₂

theorem loop_W {I : Addr} {fp : List Addr} {n : Nat} {Pv : Nat → Value → Prop} {St : Nat → Heap → Prop} {m₀ : PySem.Str → Option Value} (Ld : σ → List (Addr × Obj)) (cst : List (Addr × Obj)) (ps : σ → List (PySem.Str × Value)) (stored : List PySem.Str) (P : Nat → σ → Prop) (adr : List Addr) (c₀ : σ)
    (W : Walks prog w A I fp [I] n Pv St) (hI : St 0 h) (hwr : h₀.get? I = none) (hLf : env.locals ∉ fp)
    (hfp : ∀ b ∈ fp, b = I ∨ (∃ o, h₀.get? b = some o) ∨ ∃ o, (b, o) ∈ cst) (hlive : ∀ i h, St i h → ∃ o, h.get? I = some o)
    (hadr : ∀ c, (Ld c ++ cst).map (·.1) = adr) (hadrI : I ∉ adr)
    (F : Fr h₀ env.locals h m₀) (N : News h₀ env.locals h (Ld c₀ ++ cst)) (hk : ∀ p ∈ ps c₀, m₀ p.1 = some p.2) (hp : P 0 c₀)
    (turn : ∀ i c v (u : PySem.Str → Option Value) h' tk' o', i < n → Pv i v → P i c → Fr h₀ env.locals h' (fun y => if y = x then some v else kstB (fun z => if stored.contains z then u z else m₀ z) (ps c) y) → News h₀ env.locals h' (Ld c ++ (cst ++ [(I, o')])) →
      wpAny (model prog w) A (execs body env) (TP h₀ env.locals Ld cst ps x stored m₀ (P (i + 1)) (I, o') gens dr os Q) E ⟨h', gens, dr, tk', os⟩)
    (done : ∀ c (u : PySem.Str → Option Value) h' tk', P n c → Fr h₀ env.locals h' (fun y => if y = x then u y else kstB (fun z => if stored.contains z then u z else m₀ z) (ps c) y) → News h₀ env.locals h' (Ld c ++ cst) → Q .next ⟨h', gens, dr, tk', os⟩) :
    LoopAtV prog w A h₀ env x body Q E (.ref I) ⟨h, gens, dr, tk, os⟩ := by
  have nadr : ∀ c, ∀ p ∈ Ld c ++ cst, p.1 ∉ [I] := fun c p hp hI' => hadrI (by
    have : p.1 ∈ (Ld c ++ cst).map (·.1) := List.mem_map.mpr ⟨p, hp, rfl⟩
    rw [hadr c] at this
    rwa [← List.mem_singleton.mp hI'])
  refine ⟨I, fp, [I], n, Pv, St, m₀, Ld c₀ ++ cst, (fun i m nx => ∃ c, nx = Ld c ++ cst ∧ P i c ∧ (∀ p ∈ ps c, m p.1 = some p.2) ∧ (∀ z, z ≠ x → (∀ p ∈ ps c, z ≠ p.1) → stored.contains z = false → m z = m₀ z)), rfl, W, hLf, ?_, nadr c₀, hI, F, N, ⟨c₀, rfl, hp, hk, fun _ _ _ _ => rfl⟩, ?_, ?_⟩
  · intro b hb
    rw [List.mem_singleton.mp hb]; exact hwr
  · rintro i v m₁ news₁ s₁ own ⟨hh, tk', rfl⟩ hin hPv ⟨c, rfl, hPc, h1, h2⟩ _ hown hget hall hst F₁ N₁
    obtain ⟨o', ho'⟩ := hlive _ _ hst
    have hIown : (I, o') ∈ own := hall I (W.sub I (by simp)) hwr o' ho'
    refine wpAny_mono (turn i c v m₁ hh tk' o' hin hPv hPc (kst_fr h1 h2 F₁) fun p hp => N₁ p ?_) (fun f s₂ p => ?_) fun _ _ e => e
    · rcases List.mem_append.mp hp with hp | hp
      · exact List.mem_append_right _ (List.mem_append_left _ hp)
      · rcases List.mem_append.mp hp with hp | hp
        · exact List.mem_append_right _ (List.mem_append_right _ hp)
        · rw [List.mem_singleton.mp hp]; exact List.mem_append_left _ hIown
    have fin : ∀ s₂, TE h₀ env.locals Ld cst ps x stored m₀ (P (i + 1)) (I, o') gens dr os s₂ → LoopStepU h₀ env.locals [I] own (fun m nx => ∃ c, nx = Ld c ++ cst ∧ P (i + 1) c ∧ (∀ p ∈ ps c, m p.1 = some p.2) ∧ (∀ z, z ≠ x → (∀ p ∈ ps c, z ≠ p.1) → stored.contains z = false → m z = m₀ z)) ⟨hh, gens, dr, tk', os⟩ .next s₂ := by
      rintro s₂ ⟨c', h', tk₂, m', news', rfl, F', N', hn, h1', h2', hP'⟩
      refine ⟨rfl, h', tk₂, m', Ld c' ++ cst, rfl, F', fun p hp => ?_, nadr c', c', rfl, hP', h1', h2'⟩
      rcases List.mem_append.mp hp with hp | hp
      · have hg := hget p hp
        rcases hfp _ (hown p hp) with e | ⟨o, e⟩ | ⟨o, e⟩
        · have : p = (I, o') := Prod.ext e (by
            dsimp only at hg
            rw [e, ho'] at hg
            exact (Option.some.inj hg).symm)
          rw [this]
          exact N' _ (hn _ (List.mem_append_right _ (List.mem_append_right _ (by simp))))
        · have := (N₁ p (List.mem_append_left _ hp)).2.2
          rw [e] at this; cases this
        · have hc := (N₁ (p.1, o) (List.mem_append_right _ (List.mem_append_right _ e))).1
          have : p = (p.1, o) := Prod.ext rfl (by
            dsimp only at hg hc
            rw [hg] at hc
            exact Option.some.inj hc)
          rw [this]
          exact N' _ (hn _ (List.mem_append_right _ (List.mem_append_left _ e)))
      · refine N' p (hn p ?_)
        rcases List.mem_append.mp hp with hp | hp
        · exact List.mem_append_left _ hp
        · exact List.mem_append_right _ (List.mem_append_left _ hp)
    cases f with
    | ret v => exact p
    | brk => exact p
    | next => exact fin _ p
    | cont => exact fin _ p
  · rintro h' tk' m' news' F' N' _ ⟨c, rfl, hPc, h1, h2⟩
    exact done c m' h' tk' hPc (kst_frOut h1 h2 F') N'

theorem adr_new {L : Addr} {l : List (Addr × Obj)} {adr : List Addr} (N : News h₀ L h l) (e : l.map (·.1) = adr) : ∀ a ∈ adr, a < h.objs.size := by
  intro a ha
  rw [← e] at ha
  obtain ⟨p, hp, rfl⟩ := List.mem_map.mp ha
  exact Heap.lt_size (N p hp).1

/-- a loop over a list: one that stands in what the call found, or in the ledger's part that stays -/
theorem it_list {ax : Addr} {vs : List Value} {m₀ : PySem.Str → Option Value} (Ld : σ → List (Addr × Obj)) (cst : List (Addr × Obj)) (ps : σ → List (PySem.Str × Value)) (stored : List PySem.Str) (P : Nat → σ → Prop) (adr : List Addr) (c₀ : σ)
    (hh : A.handled = none) (hl : h.IsList ax vs.toArray) (hsrc : (∃ o, h₀.get? ax = some o) ∨ ∃ o, (ax, o) ∈ cst)
    (hadr : ∀ c, (Ld c ++ cst).map (·.1) = adr)
    (F : Fr h₀ env.locals h m₀) (N : News h₀ env.locals h (Ld c₀ ++ cst)) (hk : ∀ p ∈ ps c₀, m₀ p.1 = some p.2) (hp : P 0 c₀)
    (turn : ∀ I, (∀ a ∈ adr, a < I) → ∀ i c v (u : PySem.Str → Option Value) h' tk' o', vs[i]? = some v → P i c → Fr h₀ env.locals h' (fun y => if y = x then some v else kstB (fun z => if stored.contains z then u z else m₀ z) (ps c) y) → News h₀ env.locals h' (Ld c ++ (cst ++ [(I, o')])) →
      wpAny (model prog w) A (execs body env) (TP h₀ env.locals Ld cst ps x stored m₀ (P (i + 1)) (I, o') gens dr os Q) E ⟨h', gens, dr, tk', os⟩)
    (done : ∀ c (u : PySem.Str → Option Value) h' tk', P vs.length c → Fr h₀ env.locals h' (fun y => if y = x then u y else kstB (fun z => if stored.contains z then u z else m₀ z) (ps c) y) → News h₀ env.locals h' (Ld c ++ cst) → Q .next ⟨h', gens, dr, tk', os⟩) :
    wpAny (model prog w) A (pyIter (.ref ax)) (fun it s₂ => LoopAtV prog w A h₀ env x body Q E it s₂) E ⟨h, gens, dr, tk, os⟩ := by
  obtain ⟨ol, hol, hol'⟩ := id hl
  have hlt : ax < h.objs.size := Heap.lt_size hol
  have hne : ax ≠ h.objs.size := Nat.ne_of_lt hlt
  have hLs : env.locals < h.objs.size := F.ns.lt
  have hLa : env.locals ≠ ax := by
    rcases hsrc with ⟨o, e⟩ | ⟨o, e⟩
    · exact Nat.ne_of_gt (Nat.lt_of_lt_of_le (Heap.lt_size e) F.above)
    · exact fun q => (N _ (List.mem_append_right _ e)).2.1 q.symm
  have kp : ∀ b y, h.get? b = some y → (h.push { cls := .type "list_iterator", data := .fields #[.ref ax, .int 0 0] }).get? b = some y := fun b y hb => Heap.get?_push_of_some _ hb
  refine wpAny_pyIter_list hl ?_
  have W := Walks.list (prog := prog) (w := w) hh h.objs.size ax hne vs.toArray
  refine loop_W Ld cst ps stored P adr c₀ W ⟨⟨_, Heap.get?_push_size _ rfl, rfl, rfl⟩, hl.at fun o e => Heap.get?_push_of_some _ e⟩ (next_is_new F) ?_ ?_ ?_ hadr ?_ (F.push _) (fun p hp => ⟨kp _ _ (N p hp).1, (N p hp).2⟩) hk hp ?_ ?_
  · intro hm
    rcases List.mem_cons.mp hm with e | hm
    · exact Nat.ne_of_lt hLs e
    · exact hLa (List.mem_singleton.mp hm)
  · intro b hb
    rcases List.mem_cons.mp hb with e | hb
    · exact .inl e
    · rw [List.mem_singleton.mp hb]; exact .inr hsrc
  · rintro i h ⟨⟨o, ho, _⟩, _⟩
    exact ⟨o, ho⟩
  · exact fun hm => Nat.lt_irrefl _ (adr_new N (hadr c₀) _ hm)
  · intro i c v u h' tk' o' hi hv hPc F' N'
    exact turn h.objs.size (adr_new N (hadr c₀)) i c v u h' tk' o' (by simpa using hv) hPc F' N'
  · intro c u h' tk' hPc
    exact done c u h' tk' (by simpa using hPc)

/-- a loop over a range -/
theorem it_range {r : Addr} {a₀ b₀ d₀ : Int} {t₀ u₀ v₀ : Tok} {n : Nat} {m₀ : PySem.Str → Option Value} (Ld : σ → List (Addr × Obj)) (cst : List (Addr × Obj)) (ps : σ → List (PySem.Str × Value)) (stored : List PySem.Str) (P : Nat → σ → Prop) (adr : List Addr) (c₀ : σ)
    (hh : A.handled = none) (hr : IsRange h r a₀ b₀ d₀ t₀ u₀ v₀) (hsmall : Builtin.Range.small a₀ b₀ d₀ = true) (hn : Builtin.Range.rangeSize a₀ b₀ d₀ = (n : Int))
    (hadr : ∀ c, (Ld c ++ cst).map (·.1) = adr)
    (F : Fr h₀ env.locals h m₀) (N : News h₀ env.locals h (Ld c₀ ++ cst)) (hk : ∀ p ∈ ps c₀, m₀ p.1 = some p.2) (hp : P 0 c₀)
    (turn : ∀ I, (∀ a ∈ adr, a < I) → ∀ (i : Nat) c t (u : PySem.Str → Option Value) h' tk' o', i < n → P i c → Fr h₀ env.locals h' (fun y => if y = x then some (.int (a₀ + i * d₀) t) else kstB (fun z => if stored.contains z then u z else m₀ z) (ps c) y) → News h₀ env.locals h' (Ld c ++ (cst ++ [(I, o')])) →
      wpAny (model prog w) A (execs body env) (TP h₀ env.locals Ld cst ps x stored m₀ (P (i + 1)) (I, o') gens dr os Q) E ⟨h', gens, dr, tk', os⟩)
    (done : ∀ c (u : PySem.Str → Option Value) h' tk', P n c → Fr h₀ env.locals h' (fun y => if y = x then u y else kstB (fun z => if stored.contains z then u z else m₀ z) (ps c) y) → News h₀ env.locals h' (Ld c ++ cst) → Q .next ⟨h', gens, dr, tk', os⟩) :
    wpAny (model prog w) A (pyIter (.ref r)) (fun it s₂ => LoopAtV prog w A h₀ env x body Q E it s₂) E ⟨h, gens, dr, tk, os⟩ := by
  have hLs : env.locals < h.objs.size := F.ns.lt
  refine wpAny_pyIter_range hr hsmall ?_
  have W := Walks.range (prog := prog) (w := w) hh h.objs.size a₀ d₀ n
  refine loop_W Ld cst ps stored P adr c₀ W (by show IsRangeIter _ _ _ _ _; rw [hn]; simpa using Heap.get?_push_size _ rfl) (next_is_new F) ?_ ?_ ?_ hadr ?_ (F.push _) (fun p hp => ⟨Heap.get?_push_of_some _ (N p hp).1, (N p hp).2⟩) hk hp ?_ done
  · exact fun hm => Nat.ne_of_lt hLs (List.mem_singleton.mp hm)
  · exact fun b hb => .inl (List.mem_singleton.mp hb)
  · exact fun i h st => ⟨_, st⟩
  · exact fun hm => Nat.lt_irrefl _ (adr_new N (hadr c₀) _ hm)
  · rintro i c v u h' tk' o' hi ⟨t, rfl⟩ hPc F' N'
    exact turn h.objs.size (adr_new N (hadr c₀)) i c t u h' tk' o' hi hPc F' N'

/-- a loop over a range that turns one text -/
theorem it_rS {y : PySem.Str} {r : Addr} {a₀ b₀ d₀ : Int} {t₀ u₀ v₀ ty₀ : Tok} {n : Nat} {m₀ : PySem.Str → Option Value} {cst : List (Addr × Obj)} (f : Nat → PySem.Str)
    (hh : A.handled = none) (hr : IsRange h r a₀ b₀ d₀ t₀ u₀ v₀) (hsmall : Builtin.Range.small a₀ b₀ d₀ = true) (hn : Builtin.Range.rangeSize a₀ b₀ d₀ = (n : Int))
    (F : Fr h₀ env.locals h m₀) (N : News h₀ env.locals h cst) (hy : m₀ y = some (.str (f 0) ty₀))
    (turn : ∀ I : Nat, (∀ a ∈ cst.map (·.1), @LT.lt Nat _ a I) → ∀ (i : Nat) tl ty h' tk' o', i < n → Fr h₀ env.locals h' (fun z => if z = x then some (.int (a₀ + i * d₀) tl) else if z = y then some (.str (f i) ty) else m₀ z) → News h₀ env.locals h' (cst ++ [(I, o')]) →
      wpAny (model prog w) A (execs body env) (TP h₀ env.locals (fun (_ : PySem.Str × Tok) => []) cst (fun c => [(y, .str c.1 c.2)]) x [] m₀ (fun c => c.1 = f (i + 1)) (I, o') gens dr os Q) E ⟨h', gens, dr, tk', os⟩)
    (done : ∀ (u : PySem.Str → Option Value) ty h' tk', Fr h₀ env.locals h' (fun z => if z = x then u z else if z = y then some (.str (f n) ty) else m₀ z) → News h₀ env.locals h' cst → Q .next ⟨h', gens, dr, tk', os⟩) :
    wpAny (model prog w) A (pyIter (.ref r)) (fun it s₂ => LoopAtV prog w A h₀ env x body Q E it s₂) E ⟨h, gens, dr, tk, os⟩ := by
  refine it_range (fun (_ : PySem.Str × Tok) => []) cst (fun c => [(y, .str c.1 c.2)]) [] (fun i c => c.1 = f i) (cst.map (·.1)) (f 0, ty₀) hh hr hsmall hn (fun _ => rfl) F N (by intro p hp; rw [List.mem_singleton.mp hp]; exact hy) rfl ?_ ?_
  · rintro I hI i ⟨c, ty⟩ tl u h' tk' o' hi hc F' N'
    dsimp only at hc
    subst hc
    exact turn I hI i tl ty h' tk' o' hi F' N'
  · rintro ⟨c, ty⟩ u h' tk' hc F' N'
    dsimp only at hc
    subst hc
    exact done u ty h' tk' F' N'
/-- a loop over a list that turns one text -/
theorem it_lS {y : PySem.Str} {ax : Addr} {vs : List Value} {ty₀ : Tok} {m₀ : PySem.Str → Option Value} {cst : List (Addr × Obj)} (f : Nat → PySem.Str)
    (hh : A.handled = none) (hl : h.IsList ax vs.toArray) (hsrc : (∃ o, h₀.get? ax = some o) ∨ ∃ o, (ax, o) ∈ cst)
    (F : Fr h₀ env.locals h m₀) (N : News h₀ env.locals h cst) (hy : m₀ y = some (.str (f 0) ty₀))
    (turn : ∀ I : Nat, (∀ a ∈ cst.map (·.1), @LT.lt Nat _ a I) → ∀ (i : Nat) v ty h' tk' o', vs[i]? = some v → Fr h₀ env.locals h' (fun z => if z = x then some v else if z = y then some (.str (f i) ty) else m₀ z) → News h₀ env.locals h' (cst ++ [(I, o')]) →
      wpAny (model prog w) A (execs body env) (TP h₀ env.locals (fun (_ : PySem.Str × Tok) => []) cst (fun c => [(y, .str c.1 c.2)]) x [] m₀ (fun c => c.1 = f (i + 1)) (I, o') gens dr os Q) E ⟨h', gens, dr, tk', os⟩)
    (done : ∀ (u : PySem.Str → Option Value) ty h' tk', Fr h₀ env.locals h' (fun z => if z = x then u z else if z = y then some (.str (f vs.length) ty) else m₀ z) → News h₀ env.locals h' cst → Q .next ⟨h', gens, dr, tk', os⟩) :
    wpAny (model prog w) A (pyIter (.ref ax)) (fun it s₂ => LoopAtV prog w A h₀ env x body Q E it s₂) E ⟨h, gens, dr, tk, os⟩ := by
  refine it_list (fun (_ : PySem.Str × Tok) => []) cst (fun c => [(y, .str c.1 c.2)]) [] (fun i c => c.1 = f i) (cst.map (·.1)) (f 0, ty₀) hh hl hsrc (fun _ => rfl) F N (by intro p hp; rw [List.mem_singleton.mp hp]; exact hy) rfl ?_ ?_
  · rintro I hI i ⟨c, ty⟩ v u h' tk' o' hi hc F' N'
    dsimp only at hc
    subst hc
    exact turn I hI i v ty h' tk' o' hi F' N'
  · rintro ⟨c, ty⟩ u h' tk' hc F' N'
    dsimp only at hc
    subst hc
    exact done u ty h' tk' F' N'
theorem TE_S {L : Addr} {cst news' : List (Addr × Obj)} {y : PySem.Str} {m₀ : PySem.Str → Option Value} {it : Addr × Obj} {a b : Option Value} {v s : PySem.Str} {t : Tok}
    (F : Fr h₀ L h (fun z => if z = y then some (.str v t) else if z = x then a else if z = y then b else m₀ z)) (N : News h₀ L h news') (hn : ∀ p ∈ cst ++ [it], p ∈ news') (e : v = s) :
    TE h₀ L (fun (_ : PySem.Str × Tok) => []) cst (fun c => [(y, .str c.1 c.2)]) x [] m₀ (fun c => c.1 = s) it gens dr os ⟨h, gens, dr, tk, os⟩ :=
  TE.intro (v, t) F N hn (by intro p hp; rw [List.mem_singleton.mp hp]; exact if_pos rfl) (fun z h1 h2 _ => by
    have h3 : z ≠ y := h2 _ (List.mem_singleton.mpr rfl)
    rw [if_neg h3, if_neg h1, if_neg h3]) e
end loops
theorem small_dn {a b : Int} (ha : -(2 ^ 62) ≤ a) (ha' : a < 2 ^ 62) (hb : -(2 ^ 62) ≤ b) (hb' : b < 2 ^ 62) : Builtin.Range.small a b (-1) = true := small_down ha ha' hb hb'
theorem size_up (r : Nat) : Builtin.Range.rangeSize 0 (r : Int) 1 = (r : Int) := by
  rw [rangeSize_one]
  split <;> omega
theorem size_dn (r : Nat) : Builtin.Range.rangeSize (r : Int) 0 (-1) = (r : Int) := by
  rw [rangeSize_downNat]
  omega

def nstep (st : List PySem.Str) (c : PySem.Str) : List PySem.Str :=
  if c.length = 0 ∨ c = dt then st else if c ≠ dd ∨ st = [] ∨ st.getLast? = some dd then st ++ [c] else st.dropLast
def nfold (ps : List PySem.Str) : List PySem.Str := ps.foldl nstep []
theorem nfold_snoc (ps : List PySem.Str) (c : PySem.Str) : nfold (ps ++ [c]) = nstep (nfold ps) c := by simp [nfold]
theorem nfold_take {ps : List PySem.Str} {i : Nat} {y : PySem.Str} (h : ps[i]? = some y) : nfold (ps.take (i + 1)) = nstep (nfold (ps.take i)) y := by
  rw [List.take_add_one, h]
  exact nfold_snoc _ _

theorem ne_dot {y : PySem.Str} (h : (y == PySem.Str.ofString ".") = false) : y ≠ dt := fun e => by subst e; revert h; decide
theorem eq_dot {y : PySem.Str} (h : (y == PySem.Str.ofString ".") = true) : y = dt := by
  have := eq_of_beq h
  rw [this]; rfl
theorem ne_dd {y : PySem.Str} (h : (y != PySem.Str.ofString "..") = true) : y ≠ dd := fun e => by subst e; revert h; decide
theorem eq_dd {y : PySem.Str} (h : (y != PySem.Str.ofString "..") = false) : y = dd := by
  have : (y == PySem.Str.ofString "..") = true := by simpa [bne] using h
  rw [eq_of_beq this]; decide
theorem nstep_0 {st : List PySem.Str} {y : PySem.Str} (h : (y.length : Int) = 0) : nstep st y = st := by
  unfold nstep; rw [if_pos (.inl (by omega))]
theorem nstep_dot {st : List PySem.Str} {y : PySem.Str} (h : (y == PySem.Str.ofString ".") = true) : nstep st y = st := by
  unfold nstep; rw [if_pos (.inr (eq_dot h))]
theorem nstep_name {st : List PySem.Str} {y : PySem.Str} (h0 : (y.length : Int) ≠ 0) (h : (y == PySem.Str.ofString ".") = false) (h2 : (y != PySem.Str.ofString "..") = true) : nstep st y = st ++ [y] := by
  unfold nstep; rw [if_neg (by rintro (e | e); omega; exact ne_dot h e), if_pos (.inl (ne_dd h2))]
theorem nstep_up0 {st : List PySem.Str} {y : PySem.Str} {vs : List Value} (h0 : (y.length : Int) ≠ 0) (h : (y == PySem.Str.ofString ".") = false) (hv : StrsAre vs st) (h2 : vs.isEmpty = true) : nstep st y = st ++ [y] := by
  have : vs = [] := by simpa using h2
  subst this
  cases hv
  unfold nstep; rw [if_neg (by rintro (e | e); omega; exact ne_dot h e), if_pos (.inr (.inl rfl))]
theorem nstep_up1 {st : List PySem.Str} {y z : PySem.Str} (h0 : (y.length : Int) ≠ 0) (h : (y == PySem.Str.ofString ".") = false) (hz : st.getLast? = some z) (h2 : (z == PySem.Str.ofString "..") = true) : nstep st y = st ++ [y] := by
  have e2 : st.getLast? = some dd := by rw [hz, eq_of_beq h2]; decide
  unfold nstep; rw [if_neg (by rintro (e | e); omega; exact ne_dot h e), if_pos (.inr (.inr e2))]
theorem nstep_pop {st : List PySem.Str} {y z : PySem.Str} (h : (y != PySem.Str.ofString "..") = false) (hz : st.getLast? = some z) (h2 : (z == PySem.Str.ofString "..") = false) : nstep st y = st.dropLast := by
  have hy := eq_dd h
  subst hy
  unfold nstep
  rw [if_neg (by decide), if_neg]
  rintro (e | e | e)
  · exact e rfl
  · subst e; cases hz
  · rw [hz] at e
    have := Option.some.inj e
    subst this; revert h2; decide
theorem last_of {vs : List Value} {st : List PySem.Str} (hv : StrsAre vs st) (h : vs.isEmpty = false) : ∃ z t, vs.getLast? = some (.str z t) ∧ st.getLast? = some z := by
  rw [List.getLast?_eq_getElem?, List.getLast?_eq_getElem?]
  have hl := StrsAre.length hv
  have hne : vs.length ≠ 0 := by
    cases vs with
    | nil => simp at h
    | cons _ _ => simp
  cases e : vs[vs.length - 1]? with
  | none => rw [List.getElem?_eq_none_iff] at e; omega
  | some v =>
    obtain ⟨y, t, rfl, hy⟩ := hv.item _ _ e
    exact ⟨y, t, rfl, by rw [← hl]; exact hy⟩

def wgt (ys : List PySem.Str) : Nat := (ys.map (·.length)).sum + ys.length
theorem wgt_append (a b : List PySem.Str) : wgt (a ++ b) = wgt a + wgt b := by
  simp only [wgt, List.map_append, List.sum_append, List.length_append]; omega
theorem wgt_nstep (st : List PySem.Str) (y : PySem.Str) : wgt (nstep st y) ≤ wgt st + wgt [y] := by
  unfold nstep
  split
  · omega
  · split
    · rw [wgt_append]; exact Nat.le_refl _
    · by_cases h : st = []
      · subst h; simp [wgt]
      · have := wgt_append st.dropLast [st.getLast h]
        rw [List.dropLast_concat_getLast h] at this
        omega
theorem wgt_nfold (ps : List PySem.Str) : wgt (nfold ps) ≤ wgt ps := by
  have key : ∀ (ps st : List PySem.Str), wgt (ps.foldl nstep st) ≤ wgt st + wgt ps := by
    intro ps
    induction ps with
    | nil => intro st; simp [wgt]
    | cons y ps ih =>
      intro st
      have h1 := ih (nstep st y)
      have h2 := wgt_nstep st y
      have h3 : wgt (y :: ps) = wgt [y] + wgt ps := wgt_append [y] ps
      show wgt (ps.foldl nstep (nstep st y)) ≤ _
      omega
  have := key ps []
  simpa [nfold, wgt] using this
theorem wgt_take (ps : List PySem.Str) (i : Nat) : wgt (ps.take i) ≤ wgt ps := by
  have h : ps.take i ++ ps.drop i = ps := List.take_append_drop i ps
  have h2 := wgt_append (ps.take i) (ps.drop i)
  rw [h] at h2
  omega
theorem wgt_split (x : PySem.Str) : wgt (Txt.split x (PySem.Str.ofString "/")) ≤ x.length + 1 := split_weight x _ (by decide)
theorem strs_short {vs : List Value} {x : PySem.Str} {i : Nat} (hl : x.length ≤ 100000) (h : StrsAre vs (nfold ((Txt.split x (PySem.Str.ofString "/")).take i))) : vs.length ≤ 100001 := by
  rw [StrsAre.length h]
  have h1 := wgt_nfold ((Txt.split x (PySem.Str.ofString "/")).take i)
  have h2 := wgt_take (Txt.split x (PySem.Str.ofString "/")) i
  have h3 := wgt_split x
  unfold wgt at h1 h2 h3
  omega
theorem strs_short' {vs : List Value} {x : PySem.Str} (hl : x.length ≤ 100000) (h : StrsAre vs (nfold (Txt.split x (PySem.Str.ofString "/")))) : vs.length ≤ 100001 := by
  rw [StrsAre.length h]
  have h1 := wgt_nfold (Txt.split x (PySem.Str.ofString "/"))
  have h3 := wgt_split x
  unfold wgt at h1 h3
  omega
theorem wgt_norm {x : PySem.Str} (hl : x.length ≤ 100000) : ((nfold (Txt.split x (PySem.Str.ofString "/"))).map (·.length)).sum + (nfold (Txt.split x (PySem.Str.ofString "/"))).length ≤ 1048576 := by
  have h1 := wgt_nfold (Txt.split x (PySem.Str.ofString "/"))
  have h3 := wgt_split x
  unfold wgt at h1 h3
  omega
def joinedT (x : PySem.Str) : PySem.Str := Txt.join (PySem.Str.ofString "/") (nfold (Txt.split x (PySem.Str.ofString "/")))
def normT (x : PySem.Str) : PySem.Str := if (joinedT x).length = 0 then dt else joinedT x
theorem normT_1 {x : PySem.Str} (h : ((Str.empty ++ Txt.join (PySem.Str.ofString "/") (nfold (Txt.split x (PySem.Str.ofString "/")))).length : Int) ≠ 0) : normT x = Str.empty ++ Txt.join (PySem.Str.ofString "/") (nfold (Txt.split x (PySem.Str.ofString "/"))) := by
  rw [Str.empty_append] at h ⊢
  unfold normT joinedT
  rw [if_neg (by omega)]
theorem normT_2 {x : PySem.Str} (h : ((Str.empty ++ Txt.join (PySem.Str.ofString "/") (nfold (Txt.split x (PySem.Str.ofString "/")))).length : Int) = 0) : normT x = dt := by
  rw [Str.empty_append] at h
  unfold normT joinedT
  rw [if_pos (by omega)]
theorem joined_len {x : PySem.Str} (hl : x.length ≤ 100000) : (joinedT x).length ≤ 300000 := by
  have h1 := wgt_norm hl
  have h2 := StrLaws.join_length_le (PySem.Str.ofString "/") (nfold (Txt.split x (PySem.Str.ofString "/")))
  have h3 : (PySem.Str.ofString "/").length = 1 := rfl
  have h4 := wgt_nfold (Txt.split x (PySem.Str.ofString "/"))
  have h5 := wgt_split x
  rw [h3] at h2
  unfold wgt at h4 h5
  unfold joinedT Txt.join
  rw [StrLaws.glued_eq_join]
  omega

section
variable {prog : Program} {w : World} {A : Around} {E : Value → Shared → Prop} {s : Shared} {h₀ : Heap} {L D : Addr} {m : PySem.Str → Option Value} {news news' : List (Addr × Obj)} {n : Nat}
theorem append_S {us : List Value} {v : Value} {Q : Value → Shared → Prop} (F : Fr h₀ L s.heap m) (N : News h₀ L s.heap news) (U : Upd D (W.listOf us.toArray n) (W.listOf (us ++ [v]).toArray (n + 1)) news news') (hz : us.length ≤ 200000)
    (h : ∀ h', Fr h₀ L h' m → News h₀ L h' news' → Q .none { s with heap := h' }) : wpAny (model prog w) A (call (.builtin "list.append") [.ref D, v]) Q E s := by
  rw [← List.push_toArray] at U
  exact append_K F N U h (by rw [List.size_toArray, sizeLine_eq]; omega)
theorem pop_S {us : List Value} {Q : Value → Shared → Prop} (F : Fr h₀ L s.heap m) (N : News h₀ L s.heap news) (U : Upd D (W.listOf us.toArray n) (W.listOf us.dropLast.toArray (n + 1)) news news') (hne : us.isEmpty = false)
    (hz : us.length ≤ 200000) (h : ∀ h' v, Fr h₀ L h' m → News h₀ L h' news' → Q v { s with heap := h' }) : wpAny (model prog w) A (call (.builtin "list.pop") [.ref D]) Q E s := by
  have h1 : us ≠ [] := by intro e; rw [e] at hne; simp at hne
  have h2 := List.dropLast_concat_getLast h1
  refine kl_pop F N (p := us.dropLast) (y := us.getLast h1) ?_ U (by rw [sizeLine_eq]; simp; omega) fun h' F' N' => h h' _ F' N'
  have e := kpa_last (us.getLast h1) us.dropLast
  rw [h2] at e
  simpa using e
theorem last_S {value slice : PySem.Expr} {us : List Value} {st : List PySem.Str} {u : Tok} {Q : Value → Shared → Prop} (N : News h₀ L s.heap news) (hm : (D, W.listOf us.toArray n) ∈ news) (hv : StrsAre us st) (hne : us.isEmpty = false) (hz : us.length ≤ 200000)
    (h : ∀ z t, st.getLast? = some z → Q (.str z t) s)
    (hs : subscripted slice false (.ref D) (.int (-1) u) = operate [.ref D, .int (-1) u] (getItem (.ref D) (.int (-1) u)) := by with_unfolding_all rfl) :
    wpAny (model prog w) A (subscriptTail value slice (.ref D) (.int (-1) u)) Q E s := by
  obtain ⟨z, t, e1, e2⟩ := last_of hv hne
  have hl : s.heap.IsList D us.toArray := ⟨_, (N _ hm).1, rfl, n, rfl⟩
  have hp : us.length ≠ 0 := by
    cases us with
    | nil => simp at hne
    | cons _ _ => simp
  refine tail_any hl.typeIs slot_list_getitem.lookup (wpAny_getItem_list_neg (x := .str z t) hl (by decide) (by rw [List.size_toArray]; omega) (by decide) ?_ (h z t e2)) hs
  rw [List.getLast?_eq_getElem?] at e1
  have : ((-1 : Int) + (us.toArray.size : Nat)).toNat = us.length - 1 := by rw [List.size_toArray]; omega
  rw [this]
  simpa using e1
end
theorem strs_snoc {vs : List Value} {ys : List PySem.Str} {y : PySem.Str} {t : Tok} (h : StrsAre vs ys) : StrsAre (vs ++ [.str y t]) (ys ++ [y]) := StrsAre.append' h (.cons y t .nil)
theorem strs_drop {vs : List Value} {ys : List PySem.Str} (h : StrsAre vs ys) : StrsAre vs.dropLast ys.dropLast := by
  rw [List.dropLast_eq_take, List.dropLast_eq_take, ← StrsAre.length h]
  exact StrsAre.take' h _

theorem np_loop {prog : Program} {w : World} {A : Around} {E : Value → Shared → Prop} {env : Env} {h₀ : Heap} {x : PySem.Str} {body : List Stmt} {Q : Flow → Shared → Prop} {h : Heap} {gens : Array GenState} {dr : Drawn} {tk : Nat} {os : OsState}
    {a1 a2 a3 : Addr} {o3 : Obj} {l : List (PySem.Str × Tok)} {parts : List PySem.Str} {m₀ : PySem.Str → Option Value} (hh : A.handled = none) (hsp : l.map (·.1) = parts)
    (F : Fr h₀ env.locals h m₀) (N : News h₀ env.locals h [(a1, W.listOf #[] 0), (a2, { cls := .type "list", data := .seq (strValues l).toArray }), (a3, o3)])
    (turn : ∀ I : Nat, (@LT.lt Nat _ a1 I ∧ @LT.lt Nat _ a2 I ∧ @LT.lt Nat _ a3 I) → ∀ (i : Nat) vs n y t h' tk' o', parts[i]? = some y → StrsAre vs (nfold (parts.take i)) → Fr h₀ env.locals h' (fun z => if z = x then some (.str y t) else m₀ z) →
      News h₀ env.locals h' [(a1, W.listOf vs.toArray n), (a2, { cls := .type "list", data := .seq (strValues l).toArray }), (a3, o3), (I, o')] →
      wpAny (model prog w) A (execs body env) (TP h₀ env.locals (fun (c : List Value × Nat) => [(a1, W.listOf c.1.toArray c.2)]) [(a2, { cls := .type "list", data := .seq (strValues l).toArray }), (a3, o3)] (fun _ => []) x [] m₀ (fun c => StrsAre c.1 (nfold (parts.take (i + 1)))) (I, o') gens dr os Q) E ⟨h', gens, dr, tk', os⟩)
    (done : ∀ vs n (u : PySem.Str → Option Value) h' tk', StrsAre vs (nfold parts) → Fr h₀ env.locals h' (fun z => if z = x then u z else m₀ z) →
      News h₀ env.locals h' [(a1, W.listOf vs.toArray n), (a2, { cls := .type "list", data := .seq (strValues l).toArray }), (a3, o3)] → Q .next ⟨h', gens, dr, tk', os⟩) :
    wpAny (model prog w) A (pyIter (.ref a2)) (fun it s₂ => LoopAtV prog w A h₀ env x body Q E it s₂) E ⟨h, gens, dr, tk, os⟩ := by
  subst hsp
  have h2 := (N (a2, { cls := .type "list", data := .seq (strValues l).toArray }) (by simp)).1
  refine it_list (fun (c : List Value × Nat) => [(a1, W.listOf c.1.toArray c.2)]) [(a2, { cls := .type "list", data := .seq (strValues l).toArray }), (a3, o3)] (fun _ => []) [] (fun i c => StrsAre c.1 (nfold ((l.map (·.1)).take i))) [a1, a2, a3] ([], 0) hh ⟨_, h2, rfl, 0, rfl⟩ (.inr ⟨_, List.mem_cons_self ..⟩) (fun _ => rfl) F N (by simp) StrsAre.nil ?_ ?_
  · intro I hI i c v u h' tk' o' hv hP F' N'
    have hl : l[i]? = (l.map (·.1))[i]?.bind fun _ => l[i]? := by rw [List.getElem?_map]; cases l[i]? <;> rfl
    simp only [strValues, List.getElem?_map] at hv
    cases e : l[i]? with
    | none => rw [e] at hv; cases hv
    | some p =>
      rw [e] at hv
      cases hv
      refine turn I ⟨hI _ (by simp), hI _ (by simp), hI _ (by simp)⟩ i c.1 c.2 p.1 p.2 h' tk' o' (by rw [List.getElem?_map, e]; rfl) hP F' N'
  · intro c u h' tk' hP F' N'
    have : (strValues l).length = (l.map (·.1)).length := by simp [strValues]
    rw [this, List.take_length] at hP
    exact done c.1 c.2 u h' tk' hP F' N'

-- a call by its contract
example : True := by
  k_with "call ref" => (k_here; (with_reducible show wpAny _ _ (call (Value.ref 139) _ _) _ _ _); k_dflt (refine' Cg.use (splitroot_ok _ _ (by assumption) (by assumption)) ?z9k1 ?z9k2 ?z9k3 ?z9k4 ?z9k6 ?z9k7 ?z9k8 ?_; (case z9k1 => k_asm); (case z9k2 => k_asm); (case z9k3 => k_asm); (case z9k4 => k_asm); (case z9k6 => tb_start); (case z9k7 => tb_start); (case z9k8 => trivial)); intro v' add' h' tk' hv' F' N'; obtain ⟨a', t', t2', t3', hv', ha'⟩ := hv'; subst hv'; subst ha'; simp only [List.nil_append, List.cons_append] at N'; (try k_sweep))
  trivial
example : True := by
  k_with "call builtin:list.append" => (k_here; k_dflt (refine' append_S ?z9k1 ?z9k2 ?z9k3 ?z9k4 ?_; (case z9k1 => k_asm); (case z9k2 => k_asm); (case z9k3 => k_upd); (case z9k4 => omega); k_whole); intro h' F' N')
  trivial
example : True := by
  k_with "call builtin:str.join" => (k_here; k_dflt (refine join_listW (by is_list) (by assumption) (by decide) (wgt_norm (by assumption)) ?_); intro t' tk')
  trivial
example : True := by
  k_with "call builtin:list.pop" => (k_here; k_dflt (refine' pop_S ?z9k1 ?z9k2 ?z9k3 ?z9k4 ?z9k5 ?_; (case z9k1 => k_asm); (case z9k2 => k_asm); (case z9k3 => k_upd); (case z9k4 => assumption); (case z9k5 => omega); k_whole); intro h' v' F' N')
  trivial
example : True := by
  k_with "subscriptTail Name UnaryOp ref int" => (k_here; k_dflt (refine' last_S ?z9k1 ?z9k2 ?z9k3 ?z9k4 ?z9k5 ?_; (case z9k1 => k_asm); (case z9k2 => k_mem); (case z9k3 => assumption); (case z9k4 => assumption); (case z9k5 => omega); k_whole); intro z' t' hz')
  trivial
section
variable {prog : Program} {w : World} {p : Program} {loose : List PySem.Str} {mean : ExcName → Option Value} {mg mb : PySem.Str → Option Value}
 example : True := by
   k_with "truthy ref" => ((have gm := mkP6; clear gm); (k_here; (with_reducible show wpAny _ _ (truthy (Value.ref _)) _ _ _); (with_unfolding_all refine' wpAny_truthy_list (items := _) ?z9k1 ?z9k2 ?_; (case z9k1 => is_list); (case z9k2 => l_fitA); k_whole); (try simp only [List.isEmpty_toArray, List.isEmpty_cons, List.isEmpty_nil, Array.isEmpty_push, Bool.not_false, Bool.not_true])))
   trivial
theorem normpath_ok (x : PySem.Str) (tx : Tok) (hl : x.length ≤ 100000) (h0 : ¬ (x.length : Int) = 0) (h1 : (Txt.slice x none (some 1) != PySem.Str.ofString "/") = true) : Cg 3 prog w p loose mean mg mb 146 [.str x tx] (fun _ => True)
    (fun v add => add = [] ∧ ∃ t, v = .str (normT x) t) := by
  intro dp un gd fr g gens dr tk os Q E hd hu X T _ hret
  have mkP6 : True := trivial
  k_dflt ktr_rel
  k_steps
  any_goals (exfalso; omega)
  (rename Fr _ _ _ _ => lF)
  (rename News _ _ _ _ => lN)
  (rename List.map _ _ = Txt.split _ _ => hsp)
  refine np_loop rfl hsp lF lN ?turn ?done
  case done =>
    clear lF lN
    intro vs n u h' tk' hvs F' N'
    have hvl := strs_short' hl hvs
    have hjl := joined_len hl
    unfold joinedT at hjl
    have hel : Str.empty.length = 0 := rfl
    k_steps
    all_goals (try dsimp only)
    all_goals (show Dn _ _ _ _ _)
    all_goals first
      | exact Dn.intro (by k_asm) (hret _ [] _ _ ⟨rfl, _, by rw [normT_1 (by assumption)]⟩ (by exact Fr.keep (by k_asm)) (by simp))
      | exact Dn.intro (by k_asm) (hret _ [] _ _ ⟨rfl, _, by rw [normT_2 (by assumption)]; rfl⟩ (by exact Fr.keep (by k_asm)) (by simp))
      | w_report
  case turn =>
    clear lF lN
    intro I hI i vs n y t h' tk' o' hy hvs F' N'
    obtain ⟨hI1, hI2, hI3⟩ := hI
    have hyl : y.length ≤ x.length := by
      have hmem := List.mem_of_getElem? hy
      rw [← hsp] at hmem
      exact (by assumption : ∀ a, a ∈ List.map _ _ → a.length ≤ x.length) y hmem
    have hvl := strs_short hl hvs
    dsimp only at hI2
    k_steps
    all_goals (try dsimp only)
    all_goals (show TE _ _ _ _ _ _ _ _ _ _ _ _ _ _)
    all_goals first
      | exact TE.intro (vs, n) (by k_asm) (by k_asm) (by kcj_all) (by simp) (by exact fun z hz _ _ => if_neg hz) (by rw [nfold_take hy, nstep_0 (by assumption)]; exact hvs)
      | exact TE.intro (vs, n) (by k_asm) (by k_asm) (by kcj_all) (by simp) (by exact fun z hz _ _ => if_neg hz) (by rw [nfold_take hy, nstep_dot (by assumption)]; exact hvs)
      | exact TE.intro (vs ++ [.str y t], n + 1) (by k_asm) (by k_asm) (by kcj_all) (by simp) (by exact fun z hz _ _ => if_neg hz) (by rw [nfold_take hy, nstep_name (by assumption) (by assumption) (by assumption)]; exact strs_snoc hvs)
      | exact TE.intro (vs ++ [.str y t], n + 1) (by k_asm) (by k_asm) (by kcj_all) (by simp) (by exact fun z hz _ _ => if_neg hz) (by rw [nfold_take hy, nstep_up0 (by assumption) (by assumption) hvs (by assumption)]; exact strs_snoc hvs)
      | exact TE.intro (vs ++ [.str y t], n + 1) (by k_asm) (by k_asm) (by kcj_all) (by simp) (by exact fun z hz _ _ => if_neg hz) (by rw [nfold_take hy, nstep_up1 (by assumption) (by assumption) (by assumption) (by assumption)]; exact strs_snoc hvs)
      | exact TE.intro (vs.dropLast, n + 1) (by k_asm) (by k_asm) (by kcj_all) (by simp) (by exact fun z hz _ _ => if_neg hz) (by rw [nfold_take hy, nstep_pop (by assumption) (by assumption) (by assumption)]; exact strs_drop hvs)
      | w_report
end

/-! ## normpath of the empty text; both cases at once -/
section
variable {prog : Program} {w : World} {p : Program} {loose : List PySem.Str} {mean : ExcName → Option Value} {mg mb : PySem.Str → Option Value}
theorem normpath_0 (x : PySem.Str) (tx : Tok) (h0 : (x.length : Int) = 0) : Cg 3 prog w p loose mean mg mb 146 [.str x tx] (fun _ => True)
    (fun v add => add = [] ∧ ∃ t, v = .str dt t) := by
  intro dp un gd fr g gens dr tk os Q E hd hu X T _ hret
  k_dflt ktr_rel
  k_steps
  any_goals (exfalso; omega)
  all_goals (try dsimp only)
  all_goals (show Dn _ _ _ _ _)
  all_goals first
    | exact Dn.intro (by k_asm) (hret _ [] _ _ ⟨rfl, _, rfl⟩ (by exact Fr.keep (by k_asm)) (by simp))
    | w_report
theorem normT_empty : normT Str.empty = dt := by decide +kernel
theorem normpath_c (x : PySem.Str) (tx : Tok) (hl : x.length ≤ 100000) (h1 : x = Str.empty ∨ (Txt.slice x none (some 1) != PySem.Str.ofString "/") = true) : Cg 3 prog w p loose mean mg mb 146 [.str x tx] (fun _ => True)
    (fun v add => add = [] ∧ ∃ t, v = .str (normT x) t) := by
  by_cases h0 : x.length = 0
  · have e : x = Str.empty := by
      have : x.cps = #[] := Array.eq_empty_of_size_eq_zero h0
      cases x; cases this; rfl
    subst e
    rw [normT_empty]
    exact normpath_0 _ tx rfl
  · rcases h1 with rfl | h1
    · exact absurd rfl h0
    · exact normpath_ok x tx hl (by omega) h1
end
/-! ## quote -/
theorem ofs_dd : (PySem.Str.ofString "..").length = 2 := rfl
def quoteT (n : Nat) : PySem.Str := ⟨#[61, (PySem.Str.ofString "0123456789ABCDEF").cps.getD (n / 16) 0, (PySem.Str.ofString "0123456789ABCDEF").cps.getD (n % 16) 0]⟩
theorem quoteT_len (n : Nat) : (quoteT n).length = 3 := rfl
theorem getD_all (l : List PySem.Str) (h : ((List.range 256).all fun m => l.getD m Str.empty == quoteT m) = true) (n : Nat) (hn : n < 256) : l.getD (n : Int).toNat Str.empty = quoteT n := by
  have := List.all_eq_true.mp h n (List.mem_range.mpr hn)
  rw [Int.toNat_natCast]
  exact eq_of_beq this
section
variable {prog : Program} {w : World} {p : Program} {loose : List PySem.Str} {mean : ExcName → Option Value} {mg mb : PySem.Str → Option Value}
theorem quote_ok (n : Nat) (tx : Tok) (hn : n < 256) : Cg 1 prog w p loose mean mg mb 176 [.str ⟨#[n]⟩ tx] (fun _ => True)
    (fun v add => add = [] ∧ ∃ t, v = .str (quoteT n) t) := by
  intro dp un gd fr g gens dr tk os Q E hd hu X T _ hret
  k_dflt ktr_rel
  k_steps
  all_goals (try dsimp only)
  all_goals (show Dn _ _ _ _ _)
  exact Dn.intro (by k_asm) (hret _ [] _ _ ⟨rfl, _, congrArg (fun z => Value.str z _) (by exact getD_all _ (by decide +kernel) n hn)⟩ (by exact Fr.keep (by k_asm)) (by simp))
end

example : True := by
  k_with "call ref" => (k_here; (with_reducible show wpAny _ _ (call (Value.ref 176) _ _) _ _ _); k_dflt (refine' Cg.use (quote_ok _ _ (by omega)) ?z9k1 ?z9k2 ?z9k3 ?z9k4 ?z9k6 ?z9k7 ?z9k8 ?_; (case z9k1 => k_asm); (case z9k2 => k_asm); (case z9k3 => k_asm); (case z9k4 => k_asm); (case z9k6 => tb_start); (case z9k7 => tb_start); (case z9k8 => trivial)); intro v' add' h' tk' hv' F' N'; obtain ⟨ha', t', hv'⟩ := hv'; subst hv'; subst ha'; simp only [List.nil_append] at N'; (try k_sweep))
  trivial
example : True := by
  k_with "call ref" => (k_here; (with_reducible show wpAny _ _ (call (Value.ref 132) _ _) _ _ _); k_dflt (refine' Cg.use (join_ok _ _ _ _ (by first | omega | (simp only [quoteT_len, ofs_dd]; omega))) ?z9k1 ?z9k2 ?z9k3 ?z9k4 ?z9k6 ?z9k7 ?z9k8 ?_; (case z9k1 => k_asm); (case z9k2 => k_asm); (case z9k3 => k_asm); (case z9k4 => k_asm); (case z9k6 => tb_start); (case z9k7 => tb_start); (case z9k8 => trivial)); intro v' add' h' tk' hv' F' N'; obtain ⟨ha', t', hv'⟩ := hv'; subst hv'; subst ha'; simp only [List.nil_append] at N'; (try k_sweep))
  trivial

/-! ## _law_link -/
theorem joinT_len (a b : PySem.Str) : (joinT a b).length ≤ a.length + b.length + 1 := by
  unfold joinT
  split
  · omega
  · split
    · rw [Str.length_append]; omega
    · rw [Str.length_append, Str.length_append, sl_len]; omega
def upT : Nat → PySem.Str
  | 0 => PySem.Str.ofString ""
  | i + 1 => joinT (upT i) (PySem.Str.ofString "..")
theorem upT_len (i : Nat) : (upT i).length ≤ 3 * i := by
  induction i with
  | zero => exact Nat.le_refl _
  | succ i ih =>
    have h := joinT_len (upT i) (PySem.Str.ofString "..")
    have h2 : (PySem.Str.ofString "..").length = 2 := rfl
    show (joinT _ _).length ≤ _
    omega
def lvl (n : Nat) : Nat := if n = 1 then 15 else if n = 2 then 14 else 10
def dnT (k r : Nat) : Nat → PySem.Str
  | 0 => upT r
  | i + 1 => joinT (dnT k r i) (quoteT (32 + 16 * k + lvl (r - i)))
theorem dnT_len (k r i : Nat) : (dnT k r i).length ≤ 3 * r + 4 * i := by
  induction i with
  | zero => exact upT_len r
  | succ i ih =>
    have h := joinT_len (dnT k r i) (quoteT (32 + 16 * k + lvl (r - i)))
    rw [quoteT_len] at h
    show (joinT _ _).length ≤ _
    omega
def linkT (k r : Nat) : PySem.Str := dnT k r r
section
variable {prog : Program} {w : World} {A : Around} {E : Value → Shared → Prop} {env : Env} {h₀ : Heap} {x : PySem.Str} {body : List Stmt} {Q : Flow → Shared → Prop} {h : Heap} {gens : Array GenState} {dr : Drawn} {tk : Nat} {os : OsState}
theorem link_up {ra : Addr} {r : Nat} {t₀ u₀ v₀ ty₀ : Tok} {m₀ : PySem.Str → Option Value} (hr : r < 4)
    (hh : A.handled = none) (hra : IsRange h ra 0 (r : Int) 1 t₀ u₀ v₀) (F : Fr h₀ env.locals h m₀) (N : News h₀ env.locals h []) (hy : m₀ (PySem.Str.ofString "way") = some (.str (PySem.Str.ofString "") ty₀))
    (turn : ∀ (I i : Nat) tl ty h' tk' o', i < r → (upT i).length ≤ 9 → Fr h₀ env.locals h' (fun z => if z = x then some (.int (0 + i * 1) tl) else if z = PySem.Str.ofString "way" then some (.str (upT i) ty) else m₀ z) → News h₀ env.locals h' [(I, o')] →
      wpAny (model prog w) A (execs body env) (TP h₀ env.locals (fun (_ : PySem.Str × Tok) => []) [] (fun c => [(PySem.Str.ofString "way", .str c.1 c.2)]) x [] m₀ (fun c => c.1 = upT (i + 1)) (I, o') gens dr os Q) E ⟨h', gens, dr, tk', os⟩)
    (done : ∀ (u : PySem.Str → Option Value) ty h' tk', Fr h₀ env.locals h' (fun z => if z = x then u z else if z = PySem.Str.ofString "way" then some (.str (upT r) ty) else m₀ z) → News h₀ env.locals h' [] → Q .next ⟨h', gens, dr, tk', os⟩) :
    wpAny (model prog w) A (pyIter (.ref ra)) (fun it s₂ => LoopAtV prog w A h₀ env x body Q E it s₂) E ⟨h, gens, dr, tk, os⟩ :=
  it_rS upT hh hra (small_one (by decide) (by decide) (by omega) (by omega)) (size_up r) F N hy (fun I _ i tl ty h' tk' o' hi => turn I i tl ty h' tk' o' hi (Nat.le_trans (upT_len i) (by omega))) done
theorem link_dn {ra : Addr} {k r : Nat} {t₀ u₀ v₀ ty₀ : Tok} {m₀ : PySem.Str → Option Value} (hr : r < 4) (_hk : k < 4)
    (hh : A.handled = none) (hra : IsRange h ra (r : Int) 0 (-1) t₀ u₀ v₀) (F : Fr h₀ env.locals h m₀) (N : News h₀ env.locals h []) (hy : m₀ (PySem.Str.ofString "way") = some (.str (upT r) ty₀))
    (turn : ∀ (I i : Nat) tl ty h' tk' o', i < r → (dnT k r i).length ≤ 21 → Fr h₀ env.locals h' (fun z => if z = x then some (.int ((r : Int) + i * (-1)) tl) else if z = PySem.Str.ofString "way" then some (.str (dnT k r i) ty) else m₀ z) → News h₀ env.locals h' [(I, o')] →
      wpAny (model prog w) A (execs body env) (TP h₀ env.locals (fun (_ : PySem.Str × Tok) => []) [] (fun c => [(PySem.Str.ofString "way", .str c.1 c.2)]) x [] m₀ (fun c => c.1 = dnT k r (i + 1)) (I, o') gens dr os Q) E ⟨h', gens, dr, tk', os⟩)
    (done : ∀ (u : PySem.Str → Option Value) ty h' tk', Fr h₀ env.locals h' (fun z => if z = x then u z else if z = PySem.Str.ofString "way" then some (.str (linkT k r) ty) else m₀ z) → News h₀ env.locals h' [] → Q .next ⟨h', gens, dr, tk', os⟩) :
    wpAny (model prog w) A (pyIter (.ref ra)) (fun it s₂ => LoopAtV prog w A h₀ env x body Q E it s₂) E ⟨h, gens, dr, tk, os⟩ :=
  it_rS (dnT k r) hh hra (small_dn (by omega) (by omega) (by decide) (by decide)) (size_dn r) F N hy (fun I _ i tl ty h' tk' o' hi => turn I i tl ty h' tk' o' hi (Nat.le_trans (dnT_len k r i) (by omega))) done
end
theorem lvl_is {k r i : Nat} (hr : r < 4) (hi : i < r) : (32 + 16 * (k : Int) + ([15, 14, 10] : List Int).getD ((r : Int) + (i : Int) * -1 - 1).toNat 0) = ((32 + 16 * k + lvl (r - i) : Nat) : Int) := by
  have h : ((r : Int) + (i : Int) * -1 - 1).toNat = r - i - 1 := by omega
  rw [h]
  have h2 : r - i = 1 ∨ r - i = 2 ∨ r - i = 3 := by omega
  rcases h2 with e | e | e <;> rw [e] <;> simp [lvl]
theorem lvl_le (n : Nat) : lvl n ≤ 15 := by unfold lvl; split; omega; split <;> omega
theorem chr_L {prog : Program} {w : World} {A : Around} {E : Value → Shared → Prop} {s : Shared} {Q : Value → Shared → Prop} {k r i : Nat} {t : Tok} (hk : k < 4) (hr : r < 4) (hi : i < r)
    (h : 32 + 16 * k + lvl (r - i) < 256 → Q (.str ⟨#[32 + 16 * k + lvl (r - i)]⟩ s.toks) { s with toks := s.toks + 1 }) :
    wpAny (model prog w) A (call (.builtin "chr") [.int (32 + 16 * (k : Int) + ([15, 14, 10] : List Int).getD ((r : Int) + (i : Int) * -1 - 1).toNat 0) t]) Q E s := by
  have hl := lvl_le (r - i)
  rw [lvl_is hr hi]
  exact chr_of_range (by omega) (by omega) (h (by omega))
section
variable {prog : Program} {w : World} {p : Program} {loose : List PySem.Str} {mean : ExcName → Option Value} {mg mb : PySem.Str → Option Value}
 example : True := by
   k_with "pyIter ref" => ((have gm := mkP8; clear gm); (k_here; (rename IsRange _ _ _ _ _ _ _ _ => rg_P8x13); (rename Fr _ _ _ _ => lF_P8x13); (rename News _ _ _ _ => lN_P8x13); (with_unfolding_all refine' link_up ?z9q1 ?z9q2 rg_P8x13 lF_P8x13 lN_P8x13 ?z9q3 ?_ ?_; (case z9q1 => assumption); (case z9q2 => exact rfl); (case z9q3 => exact rfl)); clear rg_P8x13 lF_P8x13 lN_P8x13; (first | (intro I' i' tl' ty' h' tk' o' hi' hl' F' N') | (intro u' ty' h' tk' F' N'))))
   trivial
 example : True := by
   k_with "pyIter ref" => ((have gm := mkP8; clear gm); (k_here; (rename IsRange _ _ _ _ _ _ _ _ => rg_P8x14); (rename Fr _ _ _ _ => lF_P8x14); (rename News _ _ _ _ => lN_P8x14); (with_unfolding_all refine' link_dn (k := k) hr hk ?z9q2 rg_P8x14 lF_P8x14 lN_P8x14 ?z9q3 ?_ ?_; (case z9q2 => exact rfl); (case z9q3 => exact rfl)); (first | (intro I' i' tl' ty' h' tk' o' hi' hl' F' N') | (intro u' ty' h' tk' F' N'))))
   trivial
 example : True := by
   k_with "call builtin:chr" => ((have gm := mkP8; clear gm); (k_here; k_dflt (refine' chr_L hk hr ?z9q1 ?_; (case z9q1 => assumption)); intro hq'))
   trivial
theorem link_ok (k r : Nat) (tk0 tr : Tok) (hk : k < 4) (hr : r < 4) : Cg 3 prog w p loose mean mg mb 234 [.int (k : Int) tk0, .int (r : Int) tr] (fun _ => True)
    (fun v add => add = [] ∧ ∃ t, v = .str (linkT k r) t) := by
  intro dp un gd fr g gens dr tk os Q E hd hu X T _ hret
  have mkP8 : True := trivial
  k_dflt ktr_rel
  k_steps
  all_goals (try dsimp only)
  all_goals first
    | exact TE_S (by k_asm) (by k_asm) (by kcj_all) rfl
    | ((show Dn _ _ _ _ _); exact Dn.intro (by k_asm) (hret _ [] _ _ ⟨rfl, _, rfl⟩ (by exact Fr.keep (by k_asm)) (by simp)))
    | w_report
end

/-! ## _law_place -/
def wayT (ls : List PySem.Str) (us : List (Fin 4)) : PySem.Str := us.foldl (fun w k => joinT w (ls.getD k.val Str.empty)) (PySem.Str.ofString "")
theorem wayT_snoc (ls : List PySem.Str) (us : List (Fin 4)) (k : Fin 4) : wayT ls (us ++ [k]) = joinT (wayT ls us) (ls.getD k.val Str.empty) := by simp [wayT]
theorem wayT_take {ls : List PySem.Str} {us : List (Fin 4)} {i : Nat} {k : Fin 4} (h : us[i]? = some k) : wayT ls (us.take (i + 1)) = joinT (wayT ls (us.take i)) (ls.getD k.val Str.empty) := by
  rw [List.take_add_one, h]
  exact wayT_snoc _ _ _
theorem getD_len {ls : List PySem.Str} (hl : ∀ y ∈ ls, y.length ≤ 30) (k : Nat) : (ls.getD k Str.empty).length ≤ 30 := by
  rw [List.getD_eq_getElem?_getD]
  cases e : ls[k]? with
  | none => exact Nat.zero_le _
  | some y => exact hl y (List.mem_of_getElem? e)
theorem wayT_len {ls : List PySem.Str} (hl : ∀ y ∈ ls, y.length ≤ 30) : ∀ us : List (Fin 4), (wayT ls us).length ≤ 31 * us.length := by
  have key : ∀ (us : List (Fin 4)) (a : PySem.Str), (us.foldl (fun w k => joinT w (ls.getD k.val Str.empty)) a).length ≤ a.length + 31 * us.length := by
    intro us
    induction us with
    | nil => intro a; simp
    | cons k us ih =>
      intro a
      have h1 := ih (joinT a (ls.getD k.val Str.empty))
      have h2 := joinT_len a (ls.getD k.val Str.empty)
      have h3 := getD_len hl k.val
      rw [List.foldl_cons, List.length_cons]
      omega
  intro us
  have := key us (PySem.Str.ofString "")
  have e : (PySem.Str.ofString "").length = 0 := rfl
  rw [e] at this
  unfold wayT
  omega
abbrev finInts (us : List (Fin 4)) : List Int := us.map fun k => (k.val : Int)
theorem ints_fin {vs : List Value} {us : List (Fin 4)} (hi : IntsAre vs (finInts us)) {i : Nat} {v : Value} (h : vs[i]? = some v) : ∃ k t, us[i]? = some k ∧ v = .int (k.val : Int) t := by
  have hl := hi.length
  have hlt : i < vs.length := (List.getElem?_eq_some_iff.mp h).1
  have hlt2 : i < us.length := by rw [hl] at hlt; simpa using hlt
  obtain ⟨t, hx⟩ := hi.get i (us[i].val : Int) (by simp [hlt2])
  rw [h] at hx
  exact ⟨us[i], t, by simp [hlt2], Option.some.inj hx⟩
section
variable {prog : Program} {w : World} {A : Around} {E : Value → Shared → Prop} {env : Env} {h₀ : Heap} {x : PySem.Str} {body : List Stmt} {Q : Flow → Shared → Prop} {h : Heap} {gens : Array GenState} {dr : Drawn} {tk : Nat} {os : OsState}
theorem place_loop {aU : Addr} {vs : List Value} {us : List (Fin 4)} {ls : List PySem.Str} {ty₀ : Tok} {m₀ : PySem.Str → Option Value} (hU : h₀.IsList aU vs.toArray) (hi : IntsAre vs (finInts us)) (hlen : us.length ≤ 40) (hls : ∀ y ∈ ls, y.length ≤ 30)
    (hh : A.handled = none) (F : Fr h₀ env.locals h m₀) (N : News h₀ env.locals h []) (hy : m₀ (PySem.Str.ofString "way") = some (.str (PySem.Str.ofString "") ty₀))
    (turn : ∀ (I i : Nat) (k : Fin 4) tl ty h' tk' o', us[i]? = some k → (wayT ls (us.take i)).length ≤ 2000 → (ls.getD k.val Str.empty).length ≤ 30 → Fr h₀ env.locals h' (fun z => if z = x then some (.int (k.val : Int) tl) else if z = PySem.Str.ofString "way" then some (.str (wayT ls (us.take i)) ty) else m₀ z) → News h₀ env.locals h' [(I, o')] →
      wpAny (model prog w) A (execs body env) (TP h₀ env.locals (fun (_ : PySem.Str × Tok) => []) [] (fun c => [(PySem.Str.ofString "way", .str c.1 c.2)]) x [] m₀ (fun c => c.1 = wayT ls (us.take (i + 1))) (I, o') gens dr os Q) E ⟨h', gens, dr, tk', os⟩)
    (done : ∀ (u : PySem.Str → Option Value) ty h' tk', (wayT ls us).length ≤ 2000 → Fr h₀ env.locals h' (fun z => if z = x then u z else if z = PySem.Str.ofString "way" then some (.str (wayT ls us) ty) else m₀ z) → News h₀ env.locals h' [] → Q .next ⟨h', gens, dr, tk', os⟩) :
    wpAny (model prog w) A (pyIter (.ref aU)) (fun it s₂ => LoopAtV prog w A h₀ env x body Q E it s₂) E ⟨h, gens, dr, tk, os⟩ := by
  obtain ⟨o, ho, hr⟩ := id hU
  refine it_lS (fun i => wayT ls (us.take i)) hh ⟨o, F.keep _ _ ho, hr⟩ (.inl ⟨o, ho⟩) F N hy ?_ ?_
  · intro I _ i v ty h' tk' o' hv F' N'
    obtain ⟨k, t, hk, rfl⟩ := ints_fin hi hv
    have h1 := wayT_len hls (us.take i)
    rw [List.length_take] at h1
    exact turn I i k t ty h' tk' o' hk (by omega) (getD_len hls _) F' N'
  · intro u ty h' tk' F' N'
    have e : vs.length = us.length := by rw [hi.length]; simp
    rw [e, List.take_length] at F'
    have h1 := wayT_len hls us
    exact done u ty h' tk' (by omega) F' N'
theorem sub_links {s : Shared} {L : Addr} {m : PySem.Str → Option Value} {value slice : PySem.Expr} {aL : Addr} {vs : List Value} {ls : List PySem.Str} {k : Fin 4} {u : Tok} {Q : Value → Shared → Prop} (F : Fr h₀ L s.heap m) (hL : h₀.IsList aL vs.toArray) (hi : StrsAre vs ls) (hn : ls.length = 4)
    (h : ∀ t, Q (.str (ls.getD k.val Str.empty) t) s)
    (hs : subscripted slice false (.ref aL) (.int (k.val : Int) u) = operate [.ref aL, .int (k.val : Int) u] (getItem (.ref aL) (.int (k.val : Int) u)) := by with_unfolding_all rfl) :
    wpAny (model prog w) A (subscriptTail value slice (.ref aL) (.int (k.val : Int) u)) Q E s := by
  obtain ⟨o, ho, hr⟩ := hL
  have hl : s.heap.IsList aL vs.toArray := ⟨o, F.keep _ _ ho, hr⟩
  have hk := k.isLt
  obtain ⟨t, ht⟩ := hi.get k.val ls[k.val] (by simp)
  have e : ls.getD k.val Str.empty = ls[k.val] := by rw [List.getD_eq_getElem?_getD, List.getElem?_eq_getElem (by omega), Option.getD_some]
  rw [e] at h
  exact tail_any hl.typeIs slot_list_getitem.lookup (wpAny_getItem_list (x := .str ls[k.val] t) hl (by omega) (by omega) (by simpa using ht) (h t)) hs
end
example : True := by
  k_with "call ref" => (k_here; (with_reducible show wpAny _ _ (call (Value.ref 146) _ _) _ _ _); k_dflt (refine' Cg.use (normpath_c _ _ (by omega) (by assumption)) ?z9k1 ?z9k2 ?z9k3 ?z9k4 ?z9k6 ?z9k7 ?z9k8 ?_; (case z9k1 => k_asm); (case z9k2 => k_asm); (case z9k3 => k_asm); (case z9k4 => k_asm); (case z9k6 => tb_start); (case z9k7 => tb_start); (case z9k8 => trivial)); intro v' add' h' tk' hv' F' N'; obtain ⟨ha', t', hv'⟩ := hv'; subst hv'; subst ha'; simp only [List.nil_append] at N'; (try k_sweep))
  trivial
section
variable {prog : Program} {w : World} {p : Program} {loose : List PySem.Str} {mean : ExcName → Option Value} {mg mb : PySem.Str → Option Value}
 example : True := by
   k_with "exec For Name Name cons nil" => ((have gm := mkP9; clear gm); (k_here; (rename Fr _ _ _ _ => lF_P9x17); (with_unfolding_all refine' For_invVF lF_P9x17 ?z9k1 ?z9k2 ?_; (case z9k1 => exact rfl); (case z9k2 => exact rfl); k_whole)))
   trivial
 example : True := by
   k_with "pyIter ref" => ((have gm := mkP9; clear gm); (k_here; (rename Fr _ _ _ _ => lF_P9x18); (rename News _ _ _ _ => lN_P9x18); (with_unfolding_all refine' place_loop hU hiU hlen hls ?z9q2 lF_P9x18 lN_P9x18 ?z9q3 ?_ ?_; (case z9q2 => exact rfl); (case z9q3 => exact rfl)); (first | (intro I' i' k' tl' ty' h' tk' o' hi' hl' hl2' F' N') | (intro u' ty' h' tk' hl' F' N'))))
   trivial
 example : True := by
   k_with "subscriptTail Name Name ref int" => ((have gm := mkP9; clear gm); (k_here; k_dflt (refine' sub_links ?z9q1 hL hiL hn ?_; (case z9q1 => k_asm)); intro t'))
   trivial
theorem place_ok (aL aU : Addr) (vsL vsU : List Value) (ls : List PySem.Str) (us : List (Fin 4)) (hiL : StrsAre vsL ls) (hn : ls.length = 4) (hls : ∀ y ∈ ls, y.length ≤ 30) (hiU : IntsAre vsU (finInts us)) (hlen : us.length ≤ 40)
    (hw : wayT ls us = Str.empty ∨ (Txt.slice (wayT ls us) none (some 1) != PySem.Str.ofString "/") = true) :
    Cg 5 prog w p loose mean mg mb 241 [.ref aL, .ref aU] (fun g => g.IsList aL vsL.toArray ∧ g.IsList aU vsU.toArray) (fun v add => add = [] ∧ ∃ t, v = .str (normT (wayT ls us)) t) := by
  intro dp un gd fr g gens dr tk os Q E hd hu X T hp hret
  have mkP9 : True := trivial
  obtain ⟨hL, hU⟩ := hp
  k_dflt ktr_rel
  k_steps
  all_goals (try dsimp only)
  all_goals first
    | exact TE_S (by k_asm) (by k_asm) (by kcj_all) (by rw [wayT_take (by assumption)])
    | ((show Dn _ _ _ _ _); exact Dn.intro (by k_asm) (hret _ [] _ _ ⟨rfl, _, rfl⟩ (by exact Fr.keep (by k_asm)) (by simp)))
    | w_report
end

/-! ## _law_records -/
abbrev finR (rr : Fin 4 → Nat) : List Int := [(rr 0 : Int), (rr 1 : Int), (rr 2 : Int), (rr 3 : Int)]
theorem rev_S {prog : Program} {w : World} {A : Around} {E : Value → Shared → Prop} {h₀ h : Heap} {gens : Array GenState} {dr : Drawn} {tk : Nat} {os : OsState} {L l : Addr} {m : PySem.Str → Option Value} {news : List (Addr × Obj)} {x : PySem.Str} {px ps : Pos} {e : PySem.Expr} {vs : List Value} {vk : Value} {Q : Value → Shared → Prop}
    (F : Fr h₀ L h m) (N : News h₀ L h news) (hl : h₀.IsList l vs.toArray) (hz : vs.length ≤ 200000) (pk : IsPart vk (some (-1)))
    (k : ∀ D h', Fr h₀ L h' m → News h₀ L h' ((D, W.listOf vs.reverse.toArray 0) :: news) → (∀ p ∈ news, p.1 < D) → Q (.ref D) ⟨h', gens, dr, tk, os⟩) :
    wpAny (model prog w) A (subscriptTail (PySem.Expr.Name x px) (PySem.Expr.Slice none none (some e) ps) (.ref l) (.ref h.objs.size)) Q E ⟨h.push { cls := .type "slice", data := .fields #[.none, .none, vk] }, gens, dr, tk, os⟩ :=
  krv_lit (s := ⟨h, gens, dr, tk, os⟩) (its := vs.toArray) (zs := vs.reverse) F N (hl.at fun o e => F.keep _ o e) pk rfl k (by with_unfolding_all rfl) (by intro _; with_unfolding_all rfl) (by rw [List.size_toArray, sizeLine_eq]; omega)
theorem recRun_take {rr : Fin 4 → Nat} {us : List (Fin 4)} {i : Nat} {k : Fin 4} (h : us[i]? = some k) : recRun rr ([], []) (us.take (i + 1)) = recStep rr (recRun rr ([], []) (us.take i)) k := by
  rw [List.take_add_one, h]
  simp [recRun]
theorem rec_len {rr : Fin 4 → Nat} (hrr : ∀ k, rr k ≤ 3) (us : List (Fin 4)) : (recRun rr ([], []) us).1.length ≤ 3 ∧ (recRun rr ([], []) us).2.length ≤ 3 := by
  have h := recRun_len rr 3 hrr us ([], []) ⟨Nat.le_refl _, Nat.zero_le _⟩
  exact ⟨Nat.le_trans h.1 h.2, h.2⟩
theorem ints_len {vs : List Value} {us : List (Fin 4)} (h : IntsAre vs (finInts us)) : vs.length = us.length := by rw [h.length]; simp
theorem ints_snoc {vs : List Value} {us : List (Fin 4)} {k : Fin 4} {t : Tok} (h : IntsAre vs (finInts us)) : IntsAre (vs ++ [.int (k.val : Int) t]) (finInts (us ++ [k])) := by
  have e : finInts (us ++ [k]) = finInts us ++ [(k.val : Int)] := by simp
  rw [e]
  exact h.append (.cons _ _ .nil)
theorem ints_rep {vs : List Value} {us : List (Fin 4)} {k : Fin 4} {t : Tok} (j : Nat) (h : IntsAre vs (finInts us)) : IntsAre (vs ++ List.replicate j (.int (k.val : Int) t)) (finInts (us ++ List.replicate j k)) := by
  induction j with
  | zero => simpa using h
  | succ j ih =>
    rw [List.replicate_succ', List.replicate_succ', ← List.append_assoc, ← List.append_assoc]
    exact ints_snoc ih
section
variable {prog : Program} {w : World} {A : Around} {E : Value → Shared → Prop} {env : Env} {h₀ : Heap} {x : PySem.Str} {body : List Stmt} {Q : Flow → Shared → Prop} {h : Heap} {gens : Array GenState} {dr : Drawn} {tk : Nat} {os : OsState}
theorem rec_loop {aV aO aR : Addr} {vsU : List Value} {us : List (Fin 4)} {rr : Fin 4 → Nat} {m₀ : PySem.Str → Option Value} (hiU : IntsAre vsU (finInts us)) (hrr : ∀ k, rr k ≤ 3) (hh : A.handled = none)
    (F : Fr h₀ env.locals h m₀) (N : News h₀ env.locals h [(aV, W.listOf vsU.reverse.toArray 0), (aO, W.listOf #[] 0), (aR, W.listOf #[] 0)])
    (turn : ∀ I : Nat, (@LT.lt Nat _ aO I ∧ @LT.lt Nat _ aR I ∧ @LT.lt Nat _ aV I) → ∀ (i : Nat) (k : Fin 4) tl vr nr vo no pr po h' tk' o', us.reverse[i]? = some k → recRun rr ([], []) (us.reverse.take i) = (pr, po) → IntsAre vr (finInts pr) → IntsAre vo (finInts po) → vr.length ≤ 3 → vo.length ≤ 3 →
      Fr h₀ env.locals h' (fun z => if z = x then some (.int (k.val : Int) tl) else m₀ z) → News h₀ env.locals h' [(aO, W.listOf vo.toArray no), (aR, W.listOf vr.toArray nr), (aV, W.listOf vsU.reverse.toArray 0), (I, o')] →
      wpAny (model prog w) A (execs body env) (TP h₀ env.locals (fun (c : (List Value × Nat) × (List Value × Nat)) => [(aO, W.listOf c.2.1.toArray c.2.2), (aR, W.listOf c.1.1.toArray c.1.2)]) [(aV, W.listOf vsU.reverse.toArray 0)] (fun _ => []) x [] m₀ (fun c => IntsAre c.1.1 (finInts (recStep rr (pr, po) k).1) ∧ IntsAre c.2.1 (finInts (recStep rr (pr, po) k).2)) (I, o') gens dr os Q) E ⟨h', gens, dr, tk', os⟩)
    (done : ∀ vr nr vo no (u : PySem.Str → Option Value) h' tk', IntsAre vr (finInts (recRun rr ([], []) us.reverse).1) → IntsAre vo (finInts (recRun rr ([], []) us.reverse).2) → vr.length ≤ 3 → vo.length ≤ 3 → Fr h₀ env.locals h' (fun z => if z = x then u z else m₀ z) →
      News h₀ env.locals h' [(aO, W.listOf vo.toArray no), (aR, W.listOf vr.toArray nr), (aV, W.listOf vsU.reverse.toArray 0)] → Q .next ⟨h', gens, dr, tk', os⟩) :
    wpAny (model prog w) A (pyIter (.ref aV)) (fun it s₂ => LoopAtV prog w A h₀ env x body Q E it s₂) E ⟨h, gens, dr, tk, os⟩ := by
  have hV := (N (aV, W.listOf vsU.reverse.toArray 0) (by simp)).1
  have hiV : IntsAre vsU.reverse (finInts us.reverse) := by
    have := hiU.reverse
    rwa [finInts, ← List.map_reverse] at this
  refine it_list (fun (c : (List Value × Nat) × (List Value × Nat)) => [(aO, W.listOf c.2.1.toArray c.2.2), (aR, W.listOf c.1.1.toArray c.1.2)]) [(aV, W.listOf vsU.reverse.toArray 0)] (fun _ => []) [] (fun i c => IntsAre c.1.1 (finInts (recRun rr ([], []) (us.reverse.take i)).1) ∧ IntsAre c.2.1 (finInts (recRun rr ([], []) (us.reverse.take i)).2)) [aO, aR, aV] (([], 0), ([], 0)) hh ⟨_, hV, rfl, 0, rfl⟩ (.inr ⟨_, List.mem_cons_self ..⟩) (fun _ => rfl) F (fun p hp => N p ?_) (by simp) ⟨IntsAre.nil, IntsAre.nil⟩ ?_ ?_
  · simp only [List.cons_append, List.nil_append, List.mem_cons, List.not_mem_nil, or_false] at hp ⊢
    rcases hp with e | e | e
    · exact .inr (.inl e)
    · exact .inr (.inr e)
    · exact .inl e
  · rintro I hI i ⟨⟨vr, nr⟩, vo, no⟩ v u h' tk' o' hv ⟨hP1, hP2⟩ F' N'
    obtain ⟨k, t, hk, rfl⟩ := ints_fin hiV hv
    have hl := rec_len hrr (us.reverse.take i)
    rw [recRun_take hk]
    exact turn I ⟨hI _ (by simp), hI _ (by simp), hI _ (by simp)⟩ i k t vr nr vo no _ _ h' tk' o' hk rfl hP1 hP2 (by rw [ints_len hP1]; exact hl.1) (by rw [ints_len hP2]; exact hl.2) F' N'
  · rintro ⟨⟨vr, nr⟩, vo, no⟩ u h' tk' ⟨hP1, hP2⟩ F' N'
    have e : vsU.reverse.length = us.reverse.length := ints_len hiV
    rw [e, List.take_length] at hP1 hP2
    have hl := rec_len hrr us.reverse
    exact done vr nr vo no u h' tk' hP1 hP2 (by rw [ints_len hP1]; exact hl.1) (by rw [ints_len hP2]; exact hl.2) F' N'
theorem rec_while {aO : Addr} {L : Addr} {v : Value} {R : Nat} {vo : List Value} {no : Nat} {rest : List (Addr × Obj)} {test : PySem.Expr} {pos : Pos} {m₀ : PySem.Str → Option Value} (hR : vo.length ≤ R)
    (F : Fr h₀ L h m₀) (N : News h₀ L h ((aO, W.listOf vo.toArray no) :: rest))
    (turn : ∀ (c : List Value × Nat) h' tk', (∃ j, c.1 = vo ++ List.replicate j v) → c.1.length ≤ R → Fr h₀ L h' m₀ → News h₀ L h' ((aO, W.listOf c.1.toArray c.2) :: rest) →
      wpAny (model prog w) A (isTrue test env (eval test env)) (fun b s₂ =>
        if b = true then wpAny (model prog w) A (execs body env) (KswPost h₀ L ⟨h, gens, dr, tk, os⟩ (fun (c : List Value × Nat) => (aO, W.listOf c.1.toArray c.2) :: rest) (fun _ => []) (fun _ => True) [] m₀ (fun c => (∃ j, c.1 = vo ++ List.replicate j v) ∧ c.1.length ≤ R) (fun c => R - c.1.length) Q c) E s₂ else Q .next s₂) E ⟨h', gens, dr, tk', os⟩)
    (hE : PassesOwn (model prog w) A env E := by passes_own) :
    wpAny (model prog w) A (exec (.While test body [] pos) env) Q E ⟨h, gens, dr, tk, os⟩ :=
  ksw_while (s := ⟨h, gens, dr, tk, os⟩) (fun (c : List Value × Nat) => (aO, W.listOf c.1.toArray c.2) :: rest) (fun _ => []) (fun _ => True) [] (fun c => (∃ j, c.1 = vo ++ List.replicate j v) ∧ c.1.length ≤ R) (fun c => R - c.1.length) (vo, no) F N trivial (fun _ hp => nomatch hp) ⟨⟨0, by simp⟩, hR⟩ (fun c u h' tk' _ hp F' N' => turn c h' tk' hp.1 hp.2 F' N') hE
theorem rec_while' {aO : Addr} {L : Addr} {rr : Fin 4 → Nat} {k : Fin 4} {tl : Tok} {us : List (Fin 4)} {i : Nat} {vo : List Value} {no : Nat} {rest : List (Addr × Obj)} {test : PySem.Expr} {pos : Pos} {m₀ : PySem.Str → Option Value} (hrr : ∀ k, rr k ≤ 3) (hk : us.reverse[i]? = some k) (hm : m₀ (PySem.Str.ofString "link") = some (.int (k.val : Int) tl)) (hR : vo.length ≤ rr k)
    (F : Fr h₀ L h m₀) (N : News h₀ L h ((aO, W.listOf vo.toArray no) :: rest))
    (turn : ∀ (c : List Value × Nat) h' tk', (∃ j, c.1 = vo ++ List.replicate j (.int (k.val : Int) tl)) → c.1.length ≤ rr k → rr k ≤ 3 → Fr h₀ L h' m₀ → News h₀ L h' ((aO, W.listOf c.1.toArray c.2) :: rest) →
      wpAny (model prog w) A (isTrue test env (eval test env)) (fun b s₂ =>
        if b = true then wpAny (model prog w) A (execs body env) (KswPost h₀ L ⟨h, gens, dr, tk, os⟩ (fun (c : List Value × Nat) => (aO, W.listOf c.1.toArray c.2) :: rest) (fun _ => []) (fun _ => True) [] m₀ (fun c => (∃ j, c.1 = vo ++ List.replicate j (.int (k.val : Int) tl)) ∧ c.1.length ≤ rr k) (fun c => rr k - c.1.length) Q c) E s₂ else Q .next s₂) E ⟨h', gens, dr, tk', os⟩)
    (hE : PassesOwn (model prog w) A env E := by passes_own) :
    wpAny (model prog w) A (exec (.While test body [] pos) env) Q E ⟨h, gens, dr, tk, os⟩ := rec_while hR F N (fun c h' tk' h1 h2 F N => turn c h' tk' h1 h2 (hrr k) F N) hE
theorem rec_wend {aO : Addr} {L : Addr} {v : Value} {R : Nat} {vo : List Value} {rest news' : List (Addr × Obj)} {m₀ : PySem.Str → Option Value} {vc : List Value} {nc : Nat} {s : Shared} {h' : Heap} {tk' : Nat} {n' : Nat} (hc : ∃ j, vc = vo ++ List.replicate j v) (hlt : (vc.length : Int) < (R : Int))
    (F : Fr h₀ L h' m₀) (N : News h₀ L h' news') (hn : ∀ p ∈ (aO, W.listOf (vc ++ [v]).toArray n') :: rest, p ∈ news') :
    KswEnd h₀ L s (fun (c : List Value × Nat) => (aO, W.listOf c.1.toArray c.2) :: rest) (fun _ => []) (fun _ => True) [] m₀ (fun c => (∃ j, c.1 = vo ++ List.replicate j v) ∧ c.1.length ≤ R) (fun c => R - c.1.length) (vc, nc) { s with heap := h', toks := tk' } := by
  obtain ⟨j, e⟩ := hc
  refine ksw_end (vc ++ [v], n') F N hn trivial (fun _ hp => nomatch hp) (fun _ _ _ => rfl) ⟨⟨j + 1, by rw [e, List.append_assoc, List.replicate_succ']⟩, by simp; omega⟩ ?_
  simp
  omega
theorem sub_reach {s : Shared} {L : Addr} {m : PySem.Str → Option Value} {value slice : PySem.Expr} {aR : Addr} {vs : List Value} {rr : Fin 4 → Nat} {k : Fin 4} {u : Tok} {Q : Value → Shared → Prop} (F : Fr h₀ L s.heap m) (hL : h₀.IsList aR vs.toArray) (hi : IntsAre vs (finR rr))
    (h : ∀ t, Q (.int (rr k : Int) t) s)
    (hs : subscripted slice false (.ref aR) (.int (k.val : Int) u) = operate [.ref aR, .int (k.val : Int) u] (getItem (.ref aR) (.int (k.val : Int) u)) := by with_unfolding_all rfl) :
    wpAny (model prog w) A (subscriptTail value slice (.ref aR) (.int (k.val : Int) u)) Q E s := by
  obtain ⟨o, ho, hr⟩ := hL
  have hl : s.heap.IsList aR vs.toArray := ⟨o, F.keep _ _ ho, hr⟩
  have hk := k.isLt
  obtain ⟨t, ht⟩ := hi.get k.val (rr k : Int) (by
    have : k = 0 ∨ k = 1 ∨ k = 2 ∨ k = 3 := by omega
    rcases this with e | e | e | e <;> subst e <;> rfl)
  exact tail_any hl.typeIs slot_list_getitem.lookup (wpAny_getItem_list (x := .int (rr k : Int) t) hl (by omega) (by omega) (by simpa using ht) (h t)) hs
end
theorem rec_no {rr : Fin 4 → Nat} {pr po : List (Fin 4)} {k : Fin 4} {vr vo : List Value} (h1 : IntsAre vr (finInts pr)) (h2 : IntsAre vo (finInts po)) (h : ¬ (vo.length : Int) < (rr k : Int)) :
    IntsAre vr (finInts (recStep rr (pr, po) k).1) ∧ IntsAre vo (finInts (recStep rr (pr, po) k).2) := by
  have e := ints_len h2
  have : recStep rr (pr, po) k = (pr, po) := if_neg (by dsimp only; omega)
  rw [this]
  exact ⟨h1, h2⟩
theorem rec_yes {rr : Fin 4 → Nat} {pr po : List (Fin 4)} {k : Fin 4} {t t2 : Tok} {vr vo c : List Value} (h1 : IntsAre vr (finInts pr)) (h2 : IntsAre vo (finInts po)) (h : (vo.length : Int) < (rr k : Int))
    (hc : ∃ j, c = vo ++ List.replicate j (.int (k.val : Int) t2)) (hn : ¬ (c.length : Int) < (rr k : Int)) (hle : c.length ≤ rr k) :
    IntsAre (vr ++ [.int (k.val : Int) t]) (finInts (recStep rr (pr, po) k).1) ∧ IntsAre c (finInts (recStep rr (pr, po) k).2) := by
  have e := ints_len h2
  obtain ⟨j, rfl⟩ := hc
  have : recStep rr (pr, po) k = (pr ++ [k], po ++ List.replicate (rr k - po.length) k) := if_pos (by dsimp only; omega)
  rw [this]
  have hj : rr k - po.length = j := by
    simp only [List.length_append, List.length_replicate] at hn hle
    omega
  dsimp only
  rw [hj]
  exact ⟨ints_snoc h1, ints_rep _ h2⟩
theorem len_S {prog : Program} {w : World} {A : Around} {E : Value → Shared → Prop} {s : Shared} {h₀ : Heap} {L D : Addr} {news : List (Addr × Obj)} {n : Nat} {us : List Value} {Q : Value → Shared → Prop} (N : News h₀ L s.heap news) (hm : (D, W.listOf us.toArray n) ∈ news) (hz : us.length ≤ 200000)
    (h : Q (.int (us.length : Nat) (s.toks + 1)) { s with toks := s.toks + 1 + 1 }) : wpAny (model prog w) A (call (.builtin "len") [.ref D]) Q E s :=
  KM.len_K N hm List.size_toArray (by omega) h
theorem own3 {g h : Heap} {L : Addr} {a b c : Addr × Obj} {rest : List (Addr × Obj)} (N : News g L h (a :: b :: c :: rest)) : ∀ q ∈ [a, b, c], h.get? q.1 = some q.2 ∧ g.get? q.1 = none := fun q hq =>
  have := N q (by
    simp only [List.mem_cons, List.not_mem_nil, or_false] at hq ⊢
    rcases hq with e | e | e
    · exact .inl e
    · exact .inr (.inl e)
    · exact .inr (.inr (.inl e)))
  ⟨this.1, this.2.2⟩
theorem rec_end {h₀ h' : Heap} {L : Addr} {aO aR : Addr} {cst rest : List (Addr × Obj)} {x : PySem.Str} {m₀ : PySem.Str → Option Value} {it : Addr × Obj} {rr : Fin 4 → Nat} {pr po : List (Fin 4)} {k : Fin 4} {gens : Array GenState} {dr : Drawn} {os : OsState} {vr vo : List Value} {nr no tk : Nat} {v : Option Value}
    (F : Fr h₀ L h' (fun z => if z = x then v else m₀ z)) (N : News h₀ L h' ((aO, W.listOf vo.toArray no) :: (aR, W.listOf vr.toArray nr) :: rest)) (hn : ∀ p ∈ cst ++ [it], p ∈ rest)
    (hi : IntsAre vr (finInts (recStep rr (pr, po) k).1) ∧ IntsAre vo (finInts (recStep rr (pr, po) k).2)) :
    TE h₀ L (fun (c : (List Value × Nat) × (List Value × Nat)) => [(aO, W.listOf c.2.1.toArray c.2.2), (aR, W.listOf c.1.1.toArray c.1.2)]) cst (fun _ => []) x [] m₀ (fun c => IntsAre c.1.1 (finInts (recStep rr (pr, po) k).1) ∧ IntsAre c.2.1 (finInts (recStep rr (pr, po) k).2)) it gens dr os ⟨h', gens, dr, tk, os⟩ :=
  TE.intro ((vr, nr), (vo, no)) F N (by
    intro p hp
    simp only [List.cons_append, List.nil_append, List.mem_cons] at hp ⊢
    rcases hp with e | e | e
    · exact .inl e
    · exact .inr (.inl e)
    · exact .inr (.inr (hn p e))) (fun _ hp => nomatch hp) (fun z hz _ _ => if_neg hz) hi
section
variable {prog : Program} {w : World} {p : Program} {loose : List PySem.Str} {mean : ExcName → Option Value} {mg mb : PySem.Str → Option Value}
 example : True := by
   k_with "exec For Name Subscript cons nil" => ((have gm := mkP10; clear gm); (k_here; (rename Fr _ _ _ _ => lF_P10x20); (with_unfolding_all refine' For_invVF lF_P10x20 ?z9k1 ?z9k2 ?_; (case z9k1 => exact rfl); (case z9k2 => exact rfl); k_whole)))
   trivial
 example : True := by
   k_with "subscriptTail Name Slice ref ref" => ((have gm := mkP10; clear gm); (k_here; dsimp only; k_dflt (refine' rev_S ?z9F ?z9N hU ?z9z ?z9k ?_; (case z9F => k_asm); (case z9N => k_asm); (case z9z => omega); (case z9k => exact IsPart.int _ _)); intro D' h' F' N' l1; (try k_lt l1); (try k_sweep)))
   trivial
 example : True := by
   k_with "pyIter ref" => ((have gm := mkP10; clear gm); (k_here; (rename Fr _ _ _ _ => lF_P10x22); (rename News _ _ _ _ => lN_P10x22); (with_unfolding_all refine' rec_loop hiU hrr ?z9q2 lF_P10x22 lN_P10x22 ?_ ?_; (case z9q2 => exact rfl)); (first | (intro I' hI' i' k' tl' vr' nr' vo' no' pr' po' h' tk' o' hk' hpp' hr' ho' hvr' hvo' F' N'; obtain ⟨hI1', hI2', hI3'⟩ := hI') | (intro vr' nr' vo' no' u' h' tk' hr' ho' hvr' hvo' F' N'))))
   trivial
 example : True := by
   k_with "call builtin:len" => ((have gm := mkP10; clear gm); (k_here; (with_reducible show wpAny _ _ (call (Value.builtin "len") [Value.ref _]) _ _ _); k_dflt (refine' len_S ?z9k1 ?z9k2 ?z9k3 ?_; (case z9k1 => k_asm); (case z9k2 => k_mem); (case z9k3 => omega); k_whole)))
   trivial
 example : True := by
   k_with "last exec While" => ((have gm := mkP10; clear gm); (k_here; (rename Fr _ _ _ _ => lF_P10x24); (rename News _ _ _ _ => lN_P10x24); (rename _ = some (_ : Fin 4) => lk_P10x24); (with_unfolding_all refine' rec_while' (rr := rr) hrr lk_P10x24 ?z9q4 ?z9q1 lF_P10x24 lN_P10x24 ?_; (case z9q4 => exact rfl); (case z9q1 => omega)); intro c' h' tk' hc' hle' hr3' F' N'; obtain ⟨c', n'⟩ := c'; dsimp only at hc' hle' F' N'; dsimp only))
   trivial
 example : True := by
   k_with "KswEnd" => ((have gm := mkP10; clear gm); (k_dflt ((try dsimp only); exact rec_wend (by assumption) (by omega) (by k_asm) (by k_asm) (by kcj_all))))
   trivial
 example : True := by
   k_with "subscriptTail Name Name ref int" => ((have gm := mkP10; clear gm); (k_here; k_dflt (refine' sub_reach ?z9q1 hR hiR ?_; (case z9q1 => k_asm)); intro t'))
   trivial
theorem records_ok (aU aR : Addr) (vsU vsR : List Value) (us : List (Fin 4)) (rr : Fin 4 → Nat) (hiU : IntsAre vsU (finInts us)) (hiR : IntsAre vsR (finR rr)) (hlen : us.length ≤ 40) (hrr : ∀ k, rr k ≤ 3) :
    Cg 5 prog w p loose mean mg mb 253 [.ref aU, .ref aR] (fun g => g.IsList aU vsU.toArray ∧ g.IsList aR vsR.toArray) (fun v add => ∃ aT aX aY ws nX vo nO, v = .ref aT ∧ add = [(aT, { cls := .type "tuple", data := .seq #[.ref aX, .ref aY] }), (aX, W.listOf ws.toArray nX), (aY, W.listOf vo.toArray nO)] ∧ IntsAre ws (finInts (recRun rr ([], []) us.reverse).1.reverse) ∧ IntsAre vo (finInts (recRun rr ([], []) us.reverse).2)) := by
  intro dp un gd fr g gens dr tk os Q E hd hu X T hp hret
  have mkP10 : True := trivial
  obtain ⟨hU, hR⟩ := hp
  have hvU : vsU.length ≤ 40 := by rw [hiU.length]; simpa using hlen
  k_dflt ktr_rel
  k_steps
  all_goals (try dsimp only)
  all_goals first
    | ((with_reducible show KswEnd _ _ _ _ _ _ _ _ _ _ _ _); exact rec_wend (by assumption) (by omega) (by k_asm) (by k_asm) (by kcj_all))
    | ((with_reducible show TP _ _ _ _ _ _ _ _ _ _ _ _ _ _ _ _); exact rec_end (by k_asm) (by k_asm) (by kcj_all) (rec_yes (by assumption) (by assumption) (by omega) (by assumption) (by omega) (by omega)))
    | ((with_reducible show TP _ _ _ _ _ _ _ _ _ _ _ _ _ _ _ _); exact rec_end (by k_asm) (by k_asm) (by kcj_all) (rec_no (by assumption) (by assumption) (by omega)))
    | ((show Dn _ _ _ _ _); (rename IntsAre _ (finInts _).reverse => hI); (rename IntsAre _ (finInts (recRun rr ([], []) us.reverse).2) => hO); (rename News _ _ _ _ => lN); exact Dn.intro (by k_asm) (hret _ _ _ _ ⟨_, _, _, _, _, _, _, rfl, rfl, by rw [finInts, List.map_reverse]; exact hI, hO⟩ (by exact Fr.keep (by k_asm)) (own3 lN)))
end

/-! ## unquote, escape -/
section
variable {prog : Program} {w : World} {A : Around} {E : Value → Shared → Prop} {s : Shared}
theorem tl_keep {d : Addr} {c : Nat} {f : Int → Option Value} {Q : Builtin.Str.Mapped → Shared → Prop} (hh : A.handled = none) (hm : s.heap.MapOf (intKind prog w) d f) (hd : (d == sysModules) = false) (hv : f (c : Int) = none)
    (h : ∀ h' tk, s.heap.StaysIn h' → Q .keep { s with heap := h', toks := tk }) : wpAny (model prog w) A (Builtin.Str.tableLookup (.ref d) c) Q E s := by
  unfold Builtin.Str.tableLookup
  refine wpAny_bind (wpAny_attempt (wpAny_bind (wpAny_mkInt (wpAny_getItem_missing_of (intKind_is prog w _ _) hd hh hm hv fun h' e hx => ?_))))
  obtain ⟨ob, t, h1, h2, h3⟩ := hx.there
  refine wpAny_bind (wpAny_isInstance (T := "KeyError") (b := true) ?_ (by rw [isSubtype_type]; kernel_rfl) ?_)
  · exact ⟨ob, h1, h2⟩
  · exact wpAny_bind (wpAny_rule (wpAny_pure (h _ _ hx.keeps)))
theorem translate_keep {d : Addr} {c : Nat} {t : Tok} {f : Int → Option Value} {Q : Value → Shared → Prop} (hh : A.handled = none) (hc : c < 128) (hm : s.heap.MapOf (intKind prog w) d f) (hd : (d == sysModules) = false) (hv : f (c : Int) = none)
    (h : ∀ h' tk t, s.heap.StaysIn h' → Q (.str ⟨#[c]⟩ t) { s with heap := h', toks := tk }) : wpAny (model prog w) A (call (.builtin "str.translate") [.str ⟨#[c]⟩ t, .ref d]) Q E s := by
  refine wpAny_call_entry F.slot_str_translate (typeIs_str _ _ _) F.entry_str_translate ?_ (F.args_str_translate_2 _ _)
  unfold Builtin.«str.translate»
  have h128 : (decide (c < 128)) = true := decide_eq_true hc
  repeat (any_goals (first
    | assumption
    | ((with_reducible show wpAny _ _ (Builtin.Str.tableLookup _ _) _ _ _); refine tl_keep (c := c) hh hm hd hv ?_; intro h' tk' hk')
    | wp_step))
  exact ⟨_, rfl, h _ _ _ hk'⟩
end
theorem esc_map {prog : Program} {w : World} {K : Frag} {h : Heap} {d : Addr} {es : Array DictEntry} {n : Nat} (X : K.In h) (hl : K.lookup d = some ⟨.type "dict", none, .dict es n, #[]⟩) (hk : es.toList.all (fun e => match e.key with | .int k _ => e.hash == hashInt k | _ => false) = true) :
    h.MapOf (intKind prog w) d (fun k => findBy (intKind prog w).is es k) := by
  refine ⟨_, es, n, X _ _ hl, ⟨rfl, rfl, rfl⟩, rfl, fun e he => ?_, fun _ => rfl⟩
  have := List.all_eq_true.mp hk e (Array.mem_def.mp he)
  cases e1 : e.key with
  | int k t =>
    rw [e1] at this
    exact ⟨k, by simp [intKind, Value.isInt], eq_of_beq this⟩
  | _ => rw [e1] at this; cases this
theorem stays_FN {h₀ h h' : Heap} {L : Addr} {m : PySem.Str → Option Value} {news : List (Addr × Obj)} (F : Fr h₀ L h m) (N : News h₀ L h news) (hk : h.StaysIn h') : Fr h₀ L h' m ∧ News h₀ L h' news := by
  obtain ⟨oL, es, ep, hL, hr⟩ := F.ns
  exact ⟨⟨⟨oL, es, ep, hk _ _ hL, hr⟩, fun b o e => hk _ _ (F.keep b o e), F.above⟩, fun q hq => ⟨hk _ _ (N q hq).1, (N q hq).2⟩⟩
theorem gm_translate {M : Model} {A : Around} {E : Value → Shared → Prop} {s : Shared} {x : PySem.Str} {t : Tok} {pl : Sem Bool} {Q : Value × List Value → Shared → Prop} (h : Q (.builtin "str.translate", [.str x t]) s) : wpAny M A (getMethod (.str x t) (PySem.Str.ofString "translate") pl) Q E s := by
  with_reducible exact GM.of (.str x t) (typeIs_str _ _ _) F.slot_str_translate F.type_str_translate GM.noRef h
theorem esc_S {prog : Program} {w : World} {A : Around} {E : Value → Shared → Prop} {s : Shared} {h₀ : Heap} {L : Addr} {m : PySem.Str → Option Value} {news : List (Addr × Obj)} {K : Frag} {d : Addr} {es : Array DictEntry} {n c : Nat} {t : Tok} {Q : Value → Shared → Prop} (F : Fr h₀ L s.heap m) (N : News h₀ L s.heap news) (X : K.In h₀) (hh : A.handled = none) (hc : c < 128) (hd : (d == sysModules) = false)
    (hl : K.lookup d = some ⟨.type "dict", none, .dict es n, #[]⟩) (hk : es.toList.all (fun e => match e.key with | .int k _ => e.hash == hashInt k | _ => false) = true) (hv : findBy Value.isInt es (c : Int) = none)
    (h : ∀ h' tk t, Fr h₀ L h' m → News h₀ L h' news → Q (.str ⟨#[c]⟩ t) { s with heap := h', toks := tk }) : wpAny (model prog w) A (call (.builtin "str.translate") [.str ⟨#[c]⟩ t, .ref d]) Q E s :=
  translate_keep hh hc (esc_map (X.keeps F.keep) hl hk) hd hv fun h' tk t hs => h h' tk t (stays_FN F N hs).1 (stays_FN F N hs).2
abbrev esc8 : List Nat := [61, 50, 51, 52, 53, 70, 69, 65]
theorem esc_none (c : Nat) (hc : c ∈ esc8) : c < 128 := by
  simp only [List.mem_cons, List.not_mem_nil, or_false] at hc
  omega
theorem esc_all (es : Array DictEntry) (h : (esc8.all fun c => (findBy Value.isInt es (c : Int)).isNone) = true) (c : Nat) (hc : c ∈ esc8) : findBy Value.isInt es (c : Int) = none :=
  Option.isNone_iff_eq_none.mp (List.all_eq_true.mp h c hc)
section
variable {prog : Program} {w : World} {p : Program} {loose : List PySem.Str} {mean : ExcName → Option Value} {mg mb : PySem.Str → Option Value}
 example : True := by
   k_with "getMethod str" => ((have gm := mkP11; clear gm); with_reducible refine gm_translate ?_)
   trivial
 example : True := by
   k_with "call builtin:str.translate" => ((have gm := mkP11; clear gm); (k_here; k_dflt (refine' esc_S ?z9k1 ?z9k2 ?z9k3 ?z9k4 (esc_none _ hc) ?z9k6 ?z9k7 ?z9k8 ?z9k9 ?_; (case z9k1 => k_asm); (case z9k2 => k_asm); (case z9k3 => k_asm); (case z9k4 => exact rfl); (case z9k6 => exact rfl); (case z9k7 => k_is); (case z9k8 => decide +kernel); (case z9k9 => exact esc_all _ (by decide +kernel) _ hc)); intro h' tk' t' F' N'))
   trivial
theorem escape_ok (c : Nat) (tx : Tok) (hc : c ∈ esc8) : Cg 1 prog w p loose mean mg mb 213 [.str ⟨#[c]⟩ tx] (fun _ => True) (fun v add => add = [] ∧ ∃ t, v = .str ⟨#[c]⟩ t) := by
  intro dp un gd fr g gens dr tk os Q E hd hu X T _ hret
  have mkP11 : True := trivial
  k_dflt ktr_rel
  k_steps
  all_goals (try dsimp only)
  exact Dn.intro (by k_asm) (hret _ [] _ _ ⟨rfl, _, rfl⟩ (by exact Fr.keep (by k_asm)) (by simp))
end

/-! ## unquote -/
abbrev q12 : List Nat := [47, 46, 42, 63, 62, 58, 79, 78, 74, 95, 94, 90]
section
 local macro_rules | `(tactic| x_close) => do let h := Lean.mkIdent `hret; `(tactic| exact $h _ _)
theorem xint {prog : Program} {w : World} {fr gd} {hp : Heap} {g : Array GenState} {d : Drawn} {k n : Nat} {os : OsState} {t t2 : Tok} {Q E : Value → Shared → Prop}
   (_K : (hd.heap_39 w.params).In hp) (hn : n ∈ q12) (hret : ∀ t k, Q (.int (n : Int) t) ⟨hp, g, d, k, os⟩) :
   wpAny (model prog w) { handled := none, depth := 400, frames := fr, guards := gd, units := 1000 } (call (.type "int") [.str (Txt.slice (quoteT n) (some 1) (some 3)) t, .int 16 t2]) Q E ⟨hp, g, d, k, os⟩ := by
  simp only [List.mem_cons, List.not_mem_nil, or_false] at hn
  rcases hn with rfl | rfl | rfl | rfl | rfl | rfl | rfl | rfl | rfl | rfl | rfl | rfl
  · rw [show Txt.slice (quoteT 47) (some 1) (some 3) = ⟨#[50, 70]⟩ from by decide +kernel]
    x_run
  · rw [show Txt.slice (quoteT 46) (some 1) (some 3) = ⟨#[50, 69]⟩ from by decide +kernel]
    x_run
  · rw [show Txt.slice (quoteT 42) (some 1) (some 3) = ⟨#[50, 65]⟩ from by decide +kernel]
    x_run
  · rw [show Txt.slice (quoteT 63) (some 1) (some 3) = ⟨#[51, 70]⟩ from by decide +kernel]
    x_run
  · rw [show Txt.slice (quoteT 62) (some 1) (some 3) = ⟨#[51, 69]⟩ from by decide +kernel]
    x_run
  · rw [show Txt.slice (quoteT 58) (some 1) (some 3) = ⟨#[51, 65]⟩ from by decide +kernel]
    x_run
  · rw [show Txt.slice (quoteT 79) (some 1) (some 3) = ⟨#[52, 70]⟩ from by decide +kernel]
    x_run
  · rw [show Txt.slice (quoteT 78) (some 1) (some 3) = ⟨#[52, 69]⟩ from by decide +kernel]
    x_run
  · rw [show Txt.slice (quoteT 74) (some 1) (some 3) = ⟨#[52, 65]⟩ from by decide +kernel]
    x_run
  · rw [show Txt.slice (quoteT 95) (some 1) (some 3) = ⟨#[53, 70]⟩ from by decide +kernel]
    x_run
  · rw [show Txt.slice (quoteT 94) (some 1) (some 3) = ⟨#[53, 69]⟩ from by decide +kernel]
    x_run
  · rw [show Txt.slice (quoteT 90) (some 1) (some 3) = ⟨#[53, 65]⟩ from by decide +kernel]
    x_run
end
theorem int_hex {prog : Program} {w : World} {A : Around} {h₀ h : Heap} {L : Addr} {gens : Array GenState} {dr : Drawn} {tk : Nat} {os : OsState} {m : PySem.Str → Option Value} {n : Nat} {t t2 : Tok} {Q E : Value → Shared → Prop} (F : Fr h₀ L h m) (X : (hd.heap_39 w.params).In h₀) (hn : n ∈ q12) (hA : A.handled = none) (hd : A.depth ≤ 400) (hu : A.units ≤ 1000)
    (ret : ∀ t k, Q (.int (n : Int) t) ⟨h, gens, dr, k, os⟩) :
    wpAny (model prog w) A (call (.type "int") [.str (Txt.slice (quoteT n) (some 1) (some 3)) t, .int 16 t2]) Q E ⟨h, gens, dr, tk, os⟩ :=
  wp_room hA hd hu (xint (X.keeps F.keep) hn ret)
theorem q12_lt {n : Nat} (hn : n ∈ q12) : n < 256 := by
  simp only [List.mem_cons, List.not_mem_nil, or_false] at hn
  omega
section
variable {prog : Program} {w : World} {p : Program} {loose : List PySem.Str} {mean : ExcName → Option Value} {mg mb : PySem.Str → Option Value}
 example : True := by
   k_with "call type:int" => ((have gm := mkP12; clear gm); (k_here; k_dflt (refine' int_hex ?z9k1 ?z9k2 hn ?z9k4 ?z9k6 ?z9k7 ?_; (case z9k1 => k_asm); (case z9k2 => k_asm); (case z9k4 => exact rfl); (case z9k6 => tb_start); (case z9k7 => tb_start)); intro t' tk'))
   trivial
 example : True := by
   k_with "call builtin:chr" => ((have gm := mkP12; clear gm); (k_here; k_dflt (refine' chr_of_range ?z9k1 ?z9k2 ?_; (case z9k1 => omega); (case z9k2 => omega); k_whole)))
   trivial
theorem unquote_ok (n : Nat) (tx : Tok) (hn : n ∈ q12) : Cg 1 prog w p loose mean mg mb 169 [.str (quoteT n) tx] (fun _ => True) (fun v add => add = [] ∧ ∃ t, v = .str ⟨#[n]⟩ t) := by
  intro dp un gd fr g gens dr tk os Q E hd hu X T _ hret
  have mkP12 : True := trivial
  have h256 := q12_lt hn
  have hql : (quoteT n).length = 3 := rfl
  k_dflt ktr_rel
  k_steps
  all_goals (try dsimp only)
  exact Dn.intro (by k_asm) (hret _ [] _ _ ⟨rfl, _, rfl⟩ (by exact Fr.keep (by k_asm)) (by simp))
end
example : True := by
  k_with "call ref" => (k_here; (with_reducible show wpAny _ _ (call (Value.ref 169) _ _) _ _ _); k_dflt (refine' Cg.use (unquote_ok _ _ (by assumption)) ?z9k1 ?z9k2 ?z9k3 ?z9k4 ?z9k6 ?z9k7 ?z9k8 ?_; (case z9k1 => k_asm); (case z9k2 => k_asm); (case z9k3 => k_asm); (case z9k4 => k_asm); (case z9k6 => tb_start); (case z9k7 => tb_start); (case z9k8 => trivial)); intro v' add' h' tk' hv' F' N'; obtain ⟨ha', t', hv'⟩ := hv'; subst hv'; subst ha'; simp only [List.nil_append] at N'; (try k_sweep))
  trivial

/-! ## decode -/
theorem lines_S {prog : Program} {w : World} {A : Around} {E : Value → Shared → Prop} {h₀ h : Heap} {gens : Array GenState} {dr : Drawn} {tk : Nat} {os : OsState} {L : Addr} {m : PySem.Str → Option Value} {news : List (Addr × Obj)} {x : PySem.Str} {t : Tok} {Q : Value → Shared → Prop}
    (F : Fr h₀ L h m) (N : News h₀ L h news) (hL : Txt.lines x = [x]) (hz : x.length ≤ 1000)
    (ret : ∀ (D : Nat) h' k t', Fr h₀ L h' m → News h₀ L h' ((D, W.listOf #[.str x t'] 0) :: news) → (∀ p ∈ news, p.1 < D) → Q (.ref D) ⟨h', gens, dr, k, os⟩) :
    wpAny (model prog w) A (call (.builtin "str.splitlines") [.str x t]) Q E ⟨h, gens, dr, tk, os⟩ := by
  refine splitlinesNA (s := ⟨h, gens, dr, tk, os⟩) F N (fun l h' k e _ _ _ F' N' => ?_) (by rw [sizeLine_eq]; omega)
  rw [hL] at e
  match l, e with
  | [(y, t')], e =>
    have : y = x := by simpa using e
    subst this
    exact ret _ _ _ t' F' N' fun p hp => Heap.lt_size (N p hp).1
/-- decode's inner loop on one line, by fuel: i, what is read so far -/
abbrev hexAt (x : PySem.Str) (k : Int) : Bool := (Builtin.Str.occurrences (PySem.Str.ofString "0123456789abcdefABCDEF") (Txt.item x k) 0 (PySem.Str.ofString "0123456789abcdefABCDEF").length 1).isEmpty
def decF (x : PySem.Str) : Nat → Nat → PySem.Str → Option PySem.Str
  | 0, _, _ => none
  | f + 1, i, acc =>
    if i = x.length then some acc else
    if (Txt.item x (i : Int) != PySem.Str.ofString "=") = true then decF x f (i + 1) (if i + 1 = x.length then acc ++ Txt.item x (i : Int) ++ PySem.Str.ofString "\n" else acc ++ Txt.item x (i : Int))
    else if i + 2 < x.length ∧ hexAt x ((i : Int) + 1) = false ∧ hexAt x ((i : Int) + 2) = false then
      match q12.find? fun n => Txt.slice x (some (i : Int)) (some ((i : Int) + 3)) == quoteT n with
      | some n => decF x f (i + 3) (if i + 3 = x.length then acc ++ ⟨#[n]⟩ ++ PySem.Str.ofString "\n" else acc ++ ⟨#[n]⟩)
      | none => none
    else none
def decP (x R : PySem.Str) (i : Nat) (acc : PySem.Str) : Prop := i ≤ x.length ∧ acc.length ≤ 2 * i ∧ ∃ f, decF x f i acc = some R
section
variable {x R acc : PySem.Str} {i : Nat}
theorem dec_done (h : decP x R i acc) (hn : ¬ (i : Int) < (x.length : Int)) : acc = R := by
  obtain ⟨h1, _, f, h2⟩ := h
  have : i = x.length := by omega
  match f, h2 with
  | f + 1, h2 =>
    unfold decF at h2
    rw [if_pos this] at h2
    exact Option.some.inj h2
theorem dec_name1 (h : decP x R i acc) (hi : (i : Int) < (x.length : Int)) (hne : (Txt.item x (i : Int) != PySem.Str.ofString "=") = true) (hn : (i : Int) + 1 = (x.length : Int)) (hl : (Txt.item x (i : Int)).length ≤ 1) : decP x R (i + 1) (acc ++ Txt.item x (i : Int) ++ PySem.Str.ofString "\n") := by
  obtain ⟨h1, h3, f, h2⟩ := h
  have e : (PySem.Str.ofString "\n").length = 1 := rfl
  refine ⟨by omega, by rw [Str.length_append, Str.length_append]; omega, ?_⟩
  match f, h2 with
  | f + 1, h2 =>
    unfold decF at h2
    rw [if_neg (by omega), if_pos hne, if_pos (by omega)] at h2
    exact ⟨f, h2⟩
theorem dec_name2 (h : decP x R i acc) (hi : (i : Int) < (x.length : Int)) (hne : (Txt.item x (i : Int) != PySem.Str.ofString "=") = true) (hn : (i : Int) + 1 ≠ (x.length : Int)) (hl : (Txt.item x (i : Int)).length ≤ 1) : decP x R (i + 1) (acc ++ Txt.item x (i : Int)) := by
  obtain ⟨h1, h3, f, h2⟩ := h
  refine ⟨by omega, by rw [Str.length_append]; omega, ?_⟩
  match f, h2 with
  | f + 1, h2 =>
    unfold decF at h2
    rw [if_neg (by omega), if_pos hne, if_neg (by omega)] at h2
    exact ⟨f, h2⟩
theorem dec_quote (h : decP x R i acc) (hi : (i : Int) < (x.length : Int)) (hne : (Txt.item x (i : Int) != PySem.Str.ofString "=") = false) :
    i + 2 < x.length ∧ hexAt x ((i : Int) + 1) = false ∧ hexAt x ((i : Int) + 2) = false ∧ ∃ n, n ∈ q12 ∧ Txt.slice x (some (i : Int)) (some ((i : Int) + 3)) = quoteT n ∧
      ((i : Int) + 3 = (x.length : Int) → decP x R (i + 3) (acc ++ ⟨#[n]⟩ ++ PySem.Str.ofString "\n")) ∧ ((i : Int) + 3 ≠ (x.length : Int) → decP x R (i + 3) (acc ++ ⟨#[n]⟩)) := by
  obtain ⟨h1, h3, f, h2⟩ := h
  match f, h2 with
  | f + 1, h2 =>
    unfold decF at h2
    rw [if_neg (by omega), if_neg (by rw [hne]; exact Bool.false_ne_true)] at h2
    by_cases hc : i + 2 < x.length ∧ hexAt x ((i : Int) + 1) = false ∧ hexAt x ((i : Int) + 2) = false
    · rw [if_pos hc] at h2
      cases e : q12.find? fun n => Txt.slice x (some (i : Int)) (some ((i : Int) + 3)) == quoteT n with
      | none => rw [e] at h2; cases h2
      | some n =>
        rw [e] at h2
        dsimp only at h2
        have e1 : (PySem.Str.ofString "\n").length = 1 := rfl
        have e2 : (⟨#[n]⟩ : PySem.Str).length = 1 := rfl
        refine ⟨hc.1, hc.2.1, hc.2.2, n, List.mem_of_find?_eq_some e, eq_of_beq (List.find?_some (p := fun n => Txt.slice x (some (i : Int)) (some ((i : Int) + 3)) == quoteT n) e), fun hn => ⟨by omega, by rw [Str.length_append, Str.length_append]; omega, f, ?_⟩, fun hn => ⟨by omega, by rw [Str.length_append]; omega, f, ?_⟩⟩
        · rwa [if_pos (by omega)] at h2
        · rwa [if_neg (by omega)] at h2
    · rw [if_neg hc] at h2
      cases h2
theorem dec_x1 (h : decP x R i acc) (hi : (i : Int) < (x.length : Int)) (hne : (Txt.item x (i : Int) != PySem.Str.ofString "=") = false) (hn : (i : Int) + 1 = (x.length : Int)) : False := by
  have := (dec_quote h hi hne).1
  omega
theorem dec_x2 (h : decP x R i acc) (hi : (i : Int) < (x.length : Int)) (hne : (Txt.item x (i : Int) != PySem.Str.ofString "=") = false) (hn : ¬ (i : Int) + 2 < (x.length : Int)) : False := by
  have := (dec_quote h hi hne).1
  omega
theorem dec_x3 (h : decP x R i acc) (hi : (i : Int) < (x.length : Int)) (hne : (Txt.item x (i : Int) != PySem.Str.ofString "=") = false) (hn : hexAt x ((i : Int) + 1) = true) : False := by
  rw [(dec_quote h hi hne).2.1] at hn
  cases hn
theorem dec_x4 (h : decP x R i acc) (hi : (i : Int) < (x.length : Int)) (hne : (Txt.item x (i : Int) != PySem.Str.ofString "=") = false) (hn : hexAt x ((i : Int) + 2) = true) : False := by
  rw [(dec_quote h hi hne).2.2.1] at hn
  cases hn
end
abbrev nI : PySem.Str := PySem.Str.ofString "i"
abbrev nD : PySem.Str := PySem.Str.ofString "decoded"
abbrev nC : PySem.Str := PySem.Str.ofString "c"
theorem dec_while {prog : Program} {w : World} {A : Around} {E : Value → Shared → Prop} {env : Env} {h₀ : Heap} {body : List Stmt} {Q : Flow → Shared → Prop} {h : Heap} {gens : Array GenState} {dr : Drawn} {tk : Nat} {os : OsState} {L : Addr} {x R : PySem.Str} {ti td : Tok} {news : List (Addr × Obj)} {test : PySem.Expr} {pos : Pos} {m₀ : PySem.Str → Option Value}
    (F : Fr h₀ L h m₀) (N : News h₀ L h news) (hi : m₀ nI = some (.int ((0 : Nat) : Int) ti)) (hd : m₀ nD = some (.str PySem.Str.empty td)) (hx : decP x R 0 PySem.Str.empty)
    (turn : ∀ (i : Nat) acc ti td (u : PySem.Str → Option Value) h' tk', decP x R i acc → i ≤ x.length → acc.length ≤ 2 * i → Fr h₀ L h' (fun z => if z = nI then some (.int (i : Int) ti) else if z = nD then some (.str acc td) else if z = nC then u z else m₀ z) → News h₀ L h' news →
      wpAny (model prog w) A (isTrue test env (eval test env)) (fun b s₂ =>
        if b = true then wpAny (model prog w) A (execs body env) (KswPost h₀ L ⟨h, gens, dr, tk, os⟩ (fun (_ : (Nat × PySem.Str) × (Tok × Tok)) => news) (fun c => [(nI, .int (c.1.1 : Int) c.2.1), (nD, .str c.1.2 c.2.2)]) (fun _ => True) [nC] m₀ (fun c => decP x R c.1.1 c.1.2) (fun c => x.length - c.1.1) Q ((i, acc), (ti, td))) E s₂ else Q .next s₂) E ⟨h', gens, dr, tk', os⟩)
    (hE : PassesOwn (model prog w) A env E := by passes_own) :
    wpAny (model prog w) A (exec (.While test body [] pos) env) Q E ⟨h, gens, dr, tk, os⟩ := by
  refine ksw_while (s := ⟨h, gens, dr, tk, os⟩) (fun (_ : (Nat × PySem.Str) × (Tok × Tok)) => news) (fun c => [(nI, .int (c.1.1 : Int) c.2.1), (nD, .str c.1.2 c.2.2)]) (fun _ => True) [nC] (fun c => decP x R c.1.1 c.1.2) (fun c => x.length - c.1.1) ((0, PySem.Str.empty), (ti, td)) F N trivial ?_ hx ?_ hE
  · intro p hp
    simp only [List.mem_cons, List.not_mem_nil, or_false] at hp
    rcases hp with e | e
    · rw [e]; exact hi
    · rw [e]; exact hd
  · rintro ⟨⟨i, acc⟩, ti, td⟩ u h' tk' _ hp F' N'
    refine turn i acc ti td u h' tk' hp hp.1 hp.2.1 ?_ N'
    have e : (fun z => if z = nI then some (Value.int (i : Int) ti) else if z = nD then some (.str acc td) else if z = nC then u z else m₀ z) = kstB (fun z => if [nC].contains z then u z else m₀ z) [(nI, .int (i : Int) ti), (nD, .str acc td)] := by
      funext z
      simp only [kstB, List.contains_cons, List.contains_nil, Bool.or_false, beq_iff_eq]
    rw [e]
    exact F'
theorem dec_end {h₀ h h' : Heap} {L : Addr} {x R : PySem.Str} {news news' : List (Addr × Obj)} {m₀ m' : PySem.Str → Option Value} {gens : Array GenState} {dr : Drawn} {tk0 tk : Nat} {os : OsState} {i : Nat} {acc : PySem.Str} {ti0 td0 : Tok} (i' : Nat) {acc' : PySem.Str} {ti td : Tok}
    (hp : decP x R i' acc') (F : Fr h₀ L h' m') (N : News h₀ L h' news') (hn : ∀ p ∈ news, p ∈ news') (hlt : i < i')
    (h1 : m' nI = some (.int (i' : Int) ti)) (h2 : m' nD = some (.str acc' td)) (hr : ∀ z, z ≠ PySem.Str.ofString "i" → z ≠ PySem.Str.ofString "decoded" → z ≠ PySem.Str.ofString "c" → m' z = m₀ z) :
    KswEnd h₀ L ⟨h, gens, dr, tk0, os⟩ (fun (_ : (Nat × PySem.Str) × (Tok × Tok)) => news) (fun c => [(nI, .int (c.1.1 : Int) c.2.1), (nD, .str c.1.2 c.2.2)]) (fun _ => True) [nC] m₀ (fun c => decP x R c.1.1 c.1.2) (fun c => x.length - c.1.1) ((i, acc), (ti0, td0)) ⟨h', gens, dr, tk, os⟩ := by
  refine ksw_end (s := ⟨h, gens, dr, tk0, os⟩) ((i', acc'), (ti, td)) F N hn trivial ?_ ?_ hp ?_
  · intro p hp
    simp only [List.mem_cons, List.not_mem_nil, or_false] at hp
    rcases hp with e | e
    · rw [e]; exact h1
    · rw [e]; exact h2
  · intro z hz hc
    refine hr z (hz _ (List.mem_cons_self ..)) (hz _ (List.mem_cons_of_mem _ (List.mem_cons_self ..))) fun e => ?_
    rw [e] at hc
    revert hc
    decide
  · have := hp.1
    dsimp only
    omega
section
 example : True := by
   k_with "call builtin:str.splitlines" => ((have gm := mkP13; clear gm); (k_here; dsimp only; k_dflt (refine' lines_S ?z9F ?z9N hL ?z9z ?_; (case z9F => k_asm); (case z9N => k_asm); (case z9z => omega)); intro D' h' k' t' F' N' l1; (try k_lt l1); (try k_sweep)))
   trivial
variable {prog : Program} {w : World} {p : Program} {loose : List PySem.Str} {mean : ExcName → Option Value} {mg mb : PySem.Str → Option Value}
 example : True := by
   k_with "exec If" => ((have gm := mkP13; clear gm); ((rename (_ != _) = false => hne_P13x33); (fail_if_success (have gn := mkQ; clear gn)); (rename decP _ _ _ _ => hp_P13x33); (have hq' := dec_quote hp_P13x33 (by assumption) hne_P13x33); (have q1' := hq'.1); (have q2' := hq'.2.1); (have q3' := hq'.2.2.1); clear hq'; (have mkQ : True := trivial); walk_at "exec If"))
   trivial
 example : True := by
   k_with "call builtin:str.rstrip" => ((have gm := mkP13; clear gm); (k_here; k_dflt (refine' KXw.rstrip hR ?z9z ?_; (case z9z => (rw [sizeLine_eq]; omega)); k_whole); intro t' k'))
   trivial
 example : True := by
   k_with "exec While Compare cons nil" => ((have gm := mkP13; clear gm); (k_here; (rename Fr _ _ _ _ => lF_P13x35); (rename News _ _ _ _ => lN_P13x35); (with_unfolding_all refine' dec_while lF_P13x35 lN_P13x35 ?z9q1 ?z9q2 hx ?_; (case z9q1 => exact rfl); (case z9q2 => exact rfl)); intro i' acc' ti' td' u' h' tk' hp' hi' ha' F' N'))
   trivial
 example : True := by
   k_with "call ref" => ((have gm := mkP13; clear gm); (k_here; (with_reducible show wpAny _ _ (call (Value.ref 169) _ _) _ _ _); (rename decP _ _ _ _ => hp_P13x36); obtain ⟨hq1', hq2', hq3', n', hn', hy', hz1', hz2'⟩ := dec_quote hp_P13x36 (by assumption) (by assumption); rw [hy']; k_dflt (refine' Cg.use (unquote_ok n' _ hn') ?z9k1 ?z9k2 ?z9k3 ?z9k4 ?z9k6 ?z9k7 ?z9k8 ?_; (case z9k1 => k_asm); (case z9k2 => k_asm); (case z9k3 => k_asm); (case z9k4 => k_asm); (case z9k6 => tb_start); (case z9k7 => tb_start); (case z9k8 => trivial)); intro v' add' h' tk' hv' F' N'; obtain ⟨ha', t', hv'⟩ := hv'; subst hv'; subst ha'; simp only [List.nil_append] at N'; (have hn1' : (⟨#[n']⟩ : PySem.Str).length = 1 := rfl); (try k_sweep)))
   trivial
 local macro_rules | `(tactic| ktr_rel) => `(tactic| ((refine' call_G ?k1 ?k2 ?k6 ?k7 ?k8 ?k9 ?kB ?_ ?c2 ?c3 ?c4 ?c5); (case k1 => k_asm); (case k2 => exact Top.nolimit (by k_asm)); (case k6 => k_is); (case k7 => k_is); (case k8 => (show _ < 1000; tb_start)); (case k9 => exact binds_K (by assumption) rfl (by k_is) rfl rfl rfl); (case c5 => decide); (case kB => exact locs rfl); (case c2 => exact rfl); (case c3 => exact rfl); (case c4 => exact rfl); k_whole; intro L' h' tk' F' N'; (try dsimp only); (try k_fold)))
theorem decode_ok (x : PySem.Str) (tx : Tok) (hl : x.length ≤ 100) (h0 : 0 < x.length) (hL : Txt.lines x = [x]) (hR : Txt.rstrip x = x) (R : PySem.Str) (hx : decP x R 0 PySem.Str.empty) (hE : Txt.endswith R (PySem.Str.ofString "\n") = true) (hC : (Builtin.Str.occurrences (PySem.Str.ofString "\r\n") (Txt.item x (-1)) 0 (PySem.Str.ofString "\r\n").length 1).isEmpty = true) : Cg 3 prog w p loose mean mg mb 189 [.str x tx] (fun _ => True) (fun v add => add = [] ∧ ∃ t, v = .str (Txt.slice R none (some (-1))) t) := by
  intro dp un gd fr g gens dr tk os Q E hd hu X T _ hret
  have mkP13 : True := trivial
  k_dflt ktr_rel
  k_steps
  any_goals (exfalso; omega)
  all_goals (rename decP _ _ _ _ => hp')
  all_goals first
    | ((with_reducible show KswEnd _ _ _ _ _ _ _ _ _ _ _ _); first
      | exact (dec_x1 hp' (by with_reducible assumption) (by with_reducible assumption) (by with_reducible assumption)).elim
      | exact (dec_x2 hp' (by with_reducible assumption) (by with_reducible assumption) (by with_reducible assumption)).elim
      | exact (dec_x3 hp' (by with_reducible assumption) (by with_reducible assumption) (by with_reducible assumption)).elim
      | exact (dec_x4 hp' (by with_reducible assumption) (by with_reducible assumption) (by with_reducible assumption)).elim
      | exact dec_end _ (dec_name1 hp' (by with_reducible assumption) (by with_reducible assumption) (by with_reducible assumption) (by omega)) (by k_asm) (by k_asm) (by kcj_all) (by omega) (by exact rfl) (by exact rfl) (by intro z h1 h2 h3; simp only [if_neg h1, if_neg h2, if_neg h3])
      | exact dec_end _ (dec_name2 hp' (by with_reducible assumption) (by with_reducible assumption) (by with_reducible assumption) (by omega)) (by k_asm) (by k_asm) (by kcj_all) (by omega) (by exact rfl) (by exact rfl) (by intro z h1 h2 h3; simp only [if_neg h1, if_neg h2, if_neg h3])
      | ((rename _ → decP _ _ _ _ => hz2); (rename _ = _ → decP _ _ _ _ => hz1); exact dec_end _ (hz1 (by assumption)) (by k_asm) (by k_asm) (by kcj_all) (by omega) (by exact rfl) (by exact rfl) (by intro z h1 h2 h3; simp only [if_neg h1, if_neg h2, if_neg h3]))
      | ((rename _ ≠ _ → decP _ _ _ _ => hz2); exact dec_end _ (hz2 (by assumption)) (by k_asm) (by k_asm) (by kcj_all) (by omega) (by exact rfl) (by exact rfl) (by intro z h1 h2 h3; simp only [if_neg h1, if_neg h2, if_neg h3])))
    | (have hR' := dec_done hp' (by assumption); subst hR'; first
      | exact Bool.noConfusion (hE.symm.trans (‹Txt.endswith _ _ = false›))
      | exact Bool.noConfusion (hC.symm.trans (‹(Builtin.Str.occurrences _ _ _ _ _).isEmpty = false›))
      | ((show Dn _ _ _ _ _); exact Dn.intro (by k_asm) (hret _ [] _ _ ⟨rfl, _, rfl⟩ (by exact Fr.keep (by k_asm)) (by simp))))
end

/-! ## the plain law: texts -/
section
open PySem.Builtin PySem.Builtin.Str
theorem sl_is : PySem.Str.ofString "/" = sl := by decide +kernel
theorem cut_inj (c : Nat) : ∀ x y A B : List Nat, c ∉ x → c ∉ y → x ++ c :: A = y ++ c :: B → x = y ∧ A = B
  | [], [], _, _, _, _, h => ⟨rfl, (List.cons.inj h).2⟩
  | [], _ :: _, _, _, _, hy, h => absurd (List.mem_cons.mpr (.inl (List.cons.inj h).1)) hy
  | _ :: _, [], _, _, hx, _, h => absurd (List.mem_cons.mpr (.inl (List.cons.inj h).1.symm)) hx
  | a :: x, b :: y, A, B, hx, hy, h => by
    obtain ⟨h1, h2⟩ := List.cons.inj h
    obtain ⟨h3, h4⟩ := cut_inj c x y A B (fun q => hx (List.mem_cons_of_mem _ q)) (fun q => hy (List.mem_cons_of_mem _ q)) h2
    exact ⟨by rw [h1, h3], h4⟩
theorem str_list {x y : PySem.Str} (h : x.cps.toList = y.cps.toList) : x = y := Str.ext' (Array.toList_inj.mp h)
theorem join2 (c : Nat) (x y : PySem.Str) (r : List PySem.Str) : (Str.join ⟨#[c]⟩ (x :: y :: r)).cps.toList = x.cps.toList ++ c :: (Str.join ⟨#[c]⟩ (y :: r)).cps.toList := by
  show (x ++ ⟨#[c]⟩ ++ Str.join ⟨#[c]⟩ (y :: r)).cps.toList = _
  rw [Str.cps_append, Str.cps_append, Array.toList_append, Array.toList_append, List.append_assoc]
  rfl
theorem join_inj (c : Nat) : ∀ ps qs : List PySem.Str, ps ≠ [] → qs ≠ [] → (∀ p ∈ ps, c ∉ p.cps.toList) → (∀ p ∈ qs, c ∉ p.cps.toList) → Str.join ⟨#[c]⟩ ps = Str.join ⟨#[c]⟩ qs → ps = qs
  | [], _, h, _, _, _, _ => absurd rfl h
  | _, [], _, h, _, _, _ => absurd rfl h
  | [x], [y], _, _, _, _, h => by
    have h : x = y := h
    rw [h]
  | [x], y :: z :: r, _, _, hp, _, h => by
    have e : x.cps.toList = (Str.join ⟨#[c]⟩ (y :: z :: r)).cps.toList := congrArg (fun s : PySem.Str => s.cps.toList) h
    rw [join2] at e
    exact absurd (e ▸ List.mem_append_right _ (List.mem_cons_self ..)) (hp x (List.mem_cons_self ..))
  | y :: z :: r, [x], _, _, _, hp, h => by
    have e : (Str.join ⟨#[c]⟩ (y :: z :: r)).cps.toList = x.cps.toList := congrArg (fun s : PySem.Str => s.cps.toList) h
    rw [join2] at e
    exact absurd (e ▸ List.mem_append_right _ (List.mem_cons_self ..)) (hp x (List.mem_cons_self ..))
  | x :: y :: r, x' :: y' :: r', _, _, hp, hq, h => by
    have e : (Str.join ⟨#[c]⟩ (x :: y :: r)).cps.toList = (Str.join ⟨#[c]⟩ (x' :: y' :: r')).cps.toList := congrArg (fun s : PySem.Str => s.cps.toList) h
    rw [join2, join2] at e
    obtain ⟨h1, h2⟩ := cut_inj c _ _ _ _ (hp x (List.mem_cons_self ..)) (hq x' (List.mem_cons_self ..)) e
    have h3 := join_inj c (y :: r) (y' :: r') (by simp) (by simp) (fun p q => hp p (List.mem_cons_of_mem _ q)) (fun p q => hq p (List.mem_cons_of_mem _ q)) (str_list h2)
    rw [str_list h1, h3]
theorem split_ne (x y : PySem.Str) : Txt.split x y ≠ [] := by
  unfold Txt.split
  split
  · exact List.cons_ne_nil _ _
  · split
    · exact List.cons_ne_nil _ _
    · rw [StrLaws.partsBetween_eq]
      obtain ⟨p, r, e⟩ := StrLaws.partsFrom_ne x y.length 0 (occurrences x y 0 x.length (x.length + 1))
      rw [e]
      exact List.cons_ne_nil _ _
theorem split_of_join (c : Nat) (ps : List PySem.Str) (h : ps ≠ []) (hf : ∀ p ∈ ps, c ∉ p.cps.toList) : Txt.split (Str.join ⟨#[c]⟩ ps) ⟨#[c]⟩ = ps :=
  join_inj c _ _ (split_ne _ _) h (StrLaws.split_free _ c) hf (StrLaws.join_split _ _)
theorem join_app (sep : PySem.Str) : ∀ a b : List PySem.Str, a ≠ [] → b ≠ [] → Str.join sep (a ++ b) = Str.join sep a ++ (sep ++ Str.join sep b)
  | [], _, h, _ => absurd rfl h
  | _, [], _, h => absurd rfl h
  | [x], y :: r, _, _ => Str.append_assoc _ _ _
  | x :: z :: a, y :: r, _, _ => by
    show x ++ sep ++ Str.join sep ((z :: a) ++ (y :: r)) = x ++ sep ++ Str.join sep (z :: a) ++ _
    rw [join_app sep (z :: a) (y :: r) (by simp) (by simp)]
    exact (Str.append_assoc (x ++ sep) _ _).symm
/-- the text of components -/
def J (cs : List Cm) : PySem.Str := Str.join sl (cs.map Cm.txt)
theorem J_app (a b : List Cm) (ha : a ≠ []) (hb : b ≠ []) : J (a ++ b) = J a ++ (sl ++ J b) := by
  unfold J
  rw [List.map_append]
  exact join_app sl _ _ (by simpa using ha) (by simpa using hb)
theorem cm_free (c : Cm) : 47 ∉ c.txt.cps.toList := by
  cases c with
  | up => decide
  | dot => decide
  | nm k l => revert k l; decide +kernel
theorem cm_head (c : Cm) : ∃ a r, c.txt.cps.toList = a :: r := by
  cases c with
  | up => exact ⟨_, _, rfl⟩
  | dot => exact ⟨_, _, rfl⟩
  | nm k l => exact ⟨_, _, rfl⟩
theorem J_head : ∀ cs : List Cm, cs ≠ [] → ∃ a r, (J cs).cps.toList = a :: r ∧ a ≠ 47
  | [], h => absurd rfl h
  | [c], _ => by
    obtain ⟨a, r, e⟩ := cm_head c
    refine ⟨a, r, e, fun q => cm_free c ?_⟩
    rw [e, q]
    exact List.mem_cons_self ..
  | c :: d :: r, _ => by
    obtain ⟨a, t, e⟩ := cm_head c
    refine ⟨a, t ++ 47 :: (J (d :: r)).cps.toList, ?_, fun q => cm_free c ?_⟩
    · show (Str.join ⟨#[47]⟩ (c.txt :: d.txt :: r.map Cm.txt)).cps.toList = _
      rw [join2, e]
      rfl
    · rw [e, q]
      exact List.mem_cons_self ..
theorem J_last : ∀ cs : List Cm, cs ≠ [] → ∃ a r, (J cs).cps.toList = r ++ [a] ∧ a ≠ 47
  | [], h => absurd rfl h
  | [c], _ => by
    obtain ⟨a, r, e⟩ := cm_head c
    have e2 : (J [c]).cps.toList = c.txt.cps.toList := rfl
    have hne : c.txt.cps.toList ≠ [] := by rw [e]; exact List.cons_ne_nil _ _
    refine ⟨c.txt.cps.toList.getLast hne, c.txt.cps.toList.dropLast, ?_, fun q => cm_free c ?_⟩
    · rw [e2]; exact (List.dropLast_concat_getLast hne).symm
    · have := List.getLast_mem hne
      rwa [q] at this
  | c :: d :: r, _ => by
    obtain ⟨a, t, e, h⟩ := J_last (d :: r) (by simp)
    refine ⟨a, c.txt.cps.toList ++ 47 :: t, ?_, h⟩
    show (Str.join ⟨#[47]⟩ (c.txt :: d.txt :: r.map Cm.txt)).cps.toList = _
    rw [join2]
    show _ ++ 47 :: (J (d :: r)).cps.toList = _
    rw [e]
    simp
theorem str_len_list (x : PySem.Str) : x.length = x.cps.toList.length := rfl
theorem starts_no {x : PySem.Str} (h : ∀ r, x.cps.toList ≠ 47 :: r) : Txt.startswith x sl = false := by
  cases e : Txt.startswith x sl with
  | false => rfl
  | true =>
    unfold Txt.startswith at e
    rw [Bool.and_eq_true, decide_eq_true_eq] at e
    have := (StrLaws.subAt_one x 47 0).mp ⟨e.1, e.2⟩
    cases e2 : x.cps.toList with
    | nil => rw [e2] at this; cases this
    | cons a r =>
      rw [e2] at this
      have : a = 47 := by simpa using this
      rw [this] at e2
      exact absurd e2 (h r)
theorem ends_no {x : PySem.Str} {a : Nat} {r : List Nat} (h : x.cps.toList = r ++ [a]) (ha : a ≠ 47) : Txt.endswith x sl = false := by
  cases e : Txt.endswith x sl with
  | false => rfl
  | true =>
    unfold Txt.endswith at e
    rw [Bool.and_eq_true, decide_eq_true_eq] at e
    have hl : x.length = r.length + 1 := by rw [str_len_list, h]; simp
    have h1 : sl.length = 1 := rfl
    have := (StrLaws.subAt_one x 47 (x.length - sl.length)).mp ⟨by show x.length - sl.length + 1 ≤ _; omega, e.2⟩
    rw [hl, h1, h] at this
    simp at this
    exact absurd this ha
theorem ends_yes {x : PySem.Str} {r : List Nat} (h : x.cps.toList = r ++ [47]) : Txt.endswith x sl = true := by
  have hl : x.length = r.length + 1 := by rw [str_len_list, h]; simp
  have h1 : sl.length = 1 := rfl
  unfold Txt.endswith
  rw [Bool.and_eq_true, decide_eq_true_eq]
  refine ⟨by omega, ((StrLaws.subAt_one x 47 (x.length - sl.length)).mpr ?_).2⟩
  rw [hl, h1, h]
  simp
theorem J_len {cs : List Cm} (h : cs ≠ []) : (J cs).length ≠ 0 := by
  obtain ⟨a, r, e, _⟩ := J_head cs h
  rw [str_len_list, e]
  simp
/-- a text that means components -/
def Wy (cs : List Cm) (x : PySem.Str) : Prop := x = J cs ∨ (cs ≠ [] ∧ x = J cs ++ sl)
theorem cps_list_app (a b : PySem.Str) : (a ++ b).cps.toList = a.cps.toList ++ b.cps.toList := by rw [Str.cps_append, Array.toList_append]
theorem Wy.join {cs d : List Cm} {x : PySem.Str} (h : Wy cs x) : Wy (cs ++ d) (joinT x (J d)) := by
  have hs : Txt.startswith (J d) sl = false := by
    refine starts_no fun r e => ?_
    by_cases hd : d = []
    · subst hd; cases e
    · obtain ⟨a, t, e2, ha⟩ := J_head d hd
      rw [e2] at e
      exact ha (List.cons.inj e).1
  by_cases hc : cs = []
  · subst hc
    have hx : x = J [] := by
      rcases h with h | ⟨h, _⟩
      · exact h
      · exact absurd rfl h
    rw [joinT_2 (by rw [hx]; rfl)]
    exact .inl rfl
  · have hxl : ¬ (x.length : Int) = 0 := by
      have := J_len hc
      rcases h with h | ⟨_, h⟩
      · rw [h]; omega
      · rw [h, Str.length_append]; omega
    rcases h with h | ⟨_, h⟩
    · obtain ⟨a, r, e, ha⟩ := J_last cs hc
      rw [joinT_4 hs hxl (by rw [h]; exact ends_no e ha), h]
      by_cases hd : d = []
      · subst hd
        refine .inr ⟨by simpa using hc, ?_⟩
        rw [List.append_nil]
        exact congrArg (fun z => J cs ++ z) (Str.append_empty sl)
      · exact .inl (J_app cs d hc hd).symm
    · rw [joinT_3 hs hxl (by rw [h]; exact ends_yes (cps_list_app _ _)), h]
      by_cases hd : d = []
      · subst hd
        refine .inr ⟨by simpa using hc, ?_⟩
        rw [List.append_nil]
        exact Str.append_empty _
      · refine .inl ?_
        rw [J_app cs d hc hd, Str.append_assoc]
theorem Wy.first {cs : List Cm} {x : PySem.Str} (h : Wy cs x) : x = Str.empty ∨ (Txt.slice x none (some 1) != PySem.Str.ofString "/") = true := by
  by_cases hc : cs = []
  · subst hc
    rcases h with h | ⟨h, _⟩
    · exact .inl h
    · exact absurd rfl h
  · right
    obtain ⟨a, r, e, ha⟩ := J_head cs hc
    obtain ⟨r', e'⟩ : ∃ r', x.cps.toList = a :: r' := by
      rcases h with h | ⟨_, h⟩
      · exact ⟨r, by rw [h, e]⟩
      · exact ⟨r ++ [47], by rw [h, cps_list_app, e]; rfl⟩
    have e2 : Txt.slice x none (some 1) = ⟨#[a]⟩ := by
      have := StrLaws.sliceText_to (x := x) (j := 1) ⟨by decide, by rw [e', List.length_cons]; omega⟩
      rw [e'] at this
      exact this
    rw [e2, sl_is]
    simp only [bne_iff_ne, ne_eq]
    intro q
    injection q with q
    injection q with q
    exact ha (List.cons.inj q).1
theorem txt_inj_up (c : Cm) : c.txt = dd ↔ c = .up := by
  constructor
  · intro h
    cases c with
    | up => rfl
    | dot => exact absurd h (by decide)
    | nm k l => exact absurd h (by revert k l; decide +kernel)
  · rintro rfl; rfl
theorem nstep_c (st : List Cm) (c : Cm) : nstep (st.map Cm.txt) c.txt = (cstep st c).map Cm.txt := by
  have hnil : (st.map Cm.txt = []) ↔ st = [] := by simp
  have hlast : ((st.map Cm.txt).getLast? = some dd) ↔ st.getLast? = some .up := by
    rw [List.getLast?_map]
    cases e : st.getLast? with
    | none => simp
    | some d => simp [txt_inj_up]
  cases c with
  | dot => unfold nstep; rw [if_pos (.inr rfl)]; rfl
  | up =>
    unfold nstep cstep
    rw [if_neg (by decide)]
    by_cases h : st = [] ∨ st.getLast? = some .up
    · rw [if_pos (.inr (h.imp hnil.mpr hlast.mpr))]
      dsimp only
      rw [if_pos h, List.map_append]
      rfl
    · rw [if_neg]
      · dsimp only
        rw [if_neg h, List.map_dropLast]
      · rintro (q | q | q)
        · exact q rfl
        · exact h (.inl (hnil.mp q))
        · exact h (.inr (hlast.mp q))
  | nm k l =>
    unfold nstep cstep
    have h1 : (Cm.nm k l).txt.length = 3 := rfl
    have h2 : (Cm.nm k l).txt ≠ dt := fun q => by
      have := congrArg PySem.Str.length q
      rw [h1] at this
      revert this; decide
    have h3 : (Cm.nm k l).txt ≠ dd := fun q => by
      have := congrArg PySem.Str.length q
      rw [h1] at this
      revert this; decide
    rw [if_neg (by rintro (q | q); rw [h1] at q; cases q; exact h2 q), if_pos (.inl h3), List.map_append]
    rfl
theorem nfold_c (cs : List Cm) : nfold (cs.map Cm.txt) = (cnorm [] cs).map Cm.txt := by
  have key : ∀ (cs st : List Cm), (cs.map Cm.txt).foldl nstep (st.map Cm.txt) = (cnorm st cs).map Cm.txt := by
    intro cs
    induction cs with
    | nil => intro st; rfl
    | cons c cs ih =>
      intro st
      show (cs.map Cm.txt).foldl nstep (nstep (st.map Cm.txt) c.txt) = (cnorm (cstep st c) cs).map Cm.txt
      rw [nstep_c, ih]
  exact key cs []
/-- the text of a normal form -/
def plC (cs : List Cm) : PySem.Str := if cs = [] then dt else J cs
theorem Wy.split {cs : List Cm} {x : PySem.Str} (h : Wy cs x) : nfold (Txt.split x (PySem.Str.ofString "/")) = (cnorm [] cs).map Cm.txt := by
  rw [sl_is]
  have hfree : ∀ p ∈ cs.map Cm.txt, 47 ∉ p.cps.toList := by
    intro p hp
    obtain ⟨c, _, rfl⟩ := List.mem_map.mp hp
    exact cm_free c
  have hE : 47 ∉ Str.empty.cps.toList := by decide
  have n0 : ∀ st, nstep st Str.empty = st := fun st => by unfold nstep; rw [if_pos (.inl rfl)]
  by_cases hc : cs = []
  · subst hc
    have hx : x = Str.join ⟨#[47]⟩ [Str.empty] := by
      rcases h with h | ⟨h, _⟩
      · exact h
      · exact absurd rfl h
    rw [hx, split_of_join 47 [Str.empty] (by simp) (by intro p hp; rw [List.mem_singleton.mp hp]; exact hE)]
    exact n0 []
  · rcases h with h | ⟨_, h⟩
    · rw [h]
      show nfold (Txt.split (Str.join ⟨#[47]⟩ (cs.map Cm.txt)) ⟨#[47]⟩) = _
      rw [split_of_join 47 _ (by simpa using hc) hfree, nfold_c]
    · have e : x = Str.join ⟨#[47]⟩ (cs.map Cm.txt ++ [Str.empty]) := by
        rw [join_app _ _ _ (by simpa using hc) (by simp), h]
        show J cs ++ sl = J cs ++ (sl ++ Str.empty)
        rw [Str.append_empty]
      rw [e, split_of_join 47 _ (by simp) (by
        intro p hp
        rcases List.mem_append.mp hp with q | q
        · exact hfree p q
        · rw [List.mem_singleton.mp q]; exact hE), nfold_snoc, n0, nfold_c]
theorem Wy.norm {cs : List Cm} {x : PySem.Str} (h : Wy cs x) : normT x = plC (cnorm [] cs) := by
  have e : joinedT x = J (cnorm [] cs) := by
    unfold joinedT
    rw [h.split, sl_is]
    exact StrLaws.glued_eq_join _ _
  unfold normT plC
  rw [e]
  by_cases hn : cnorm [] cs = []
  · rw [hn, if_pos (by decide), if_pos rfl]
  · rw [if_neg hn, if_neg (J_len hn)]
/-- the links -/
theorem link_is : ∀ k r : Fin 4, linkT k.val r.val = J (linkC k r.val) := by decide +kernel
def linksT (rr : Fin 4 → Nat) : List PySem.Str := [linkT 0 (rr 0), linkT 1 (rr 1), linkT 2 (rr 2), linkT 3 (rr 3)]
theorem linksT_get (rr : Fin 4 → Nat) (hr : ∀ k, rr k ≤ 3) : ∀ k : Fin 4, (linksT rr).getD k.val Str.empty = J (linkC k (rr k)) := by
  intro k
  have h4 : k = 0 ∨ k = 1 ∨ k = 2 ∨ k = 3 := by omega
  have hk : rr k < 4 := by have := hr k; omega
  have := link_is k ⟨rr k, hk⟩
  rw [← this]
  rcases h4 with rfl | rfl | rfl | rfl <;> rfl
theorem link_short : ∀ k r : Fin 4, (J (linkC k r.val)).length ≤ 30 := by decide +kernel
theorem linksT_len (rr : Fin 4 → Nat) (hr : ∀ k, rr k ≤ 3) : ∀ y ∈ linksT rr, y.length ≤ 30 := by
  have key : ∀ k : Fin 4, (linkT k.val (rr k)).length ≤ 30 := fun k => by
    have hk : rr k < 4 := by have := hr k; omega
    have h1 := link_is k ⟨rr k, hk⟩
    have h2 := link_short k ⟨rr k, hk⟩
    dsimp only at h1 h2
    rw [h1]; exact h2
  intro y hy
  simp only [linksT, List.mem_cons, List.not_mem_nil, or_false] at hy
  rcases hy with rfl | rfl | rfl | rfl
  · exact key 0
  · exact key 1
  · exact key 2
  · exact key 3
theorem way_Wy (rr : Fin 4 → Nat) (hr : ∀ k, rr k ≤ 3) (us : List (Fin 4)) : Wy (rowC rr us) (wayT (linksT rr) us) := by
  have key : ∀ (us : List (Fin 4)) cs x, Wy cs x → Wy (cs ++ rowC rr us) (us.foldl (fun w k => joinT w ((linksT rr).getD k.val Str.empty)) x) := by
    intro us
    induction us with
    | nil => intro cs x h; simpa [rowC] using h
    | cons k us ih =>
      intro cs x h
      have e : rowC rr (k :: us) = linkC k (rr k) ++ rowC rr us := by simp [rowC]
      rw [e, ← List.append_assoc]
      refine ih _ _ ?_
      dsimp only
      rw [linksT_get rr hr]
      exact h.join
  exact key us [] (PySem.Str.ofString "") (.inl (by decide +kernel))
/-- what a row of uses is worth -/
def plT (o : List (Fin 4)) : PySem.Str := plC (canon o)
theorem way_norm (rr : Fin 4 → Nat) (hr : ∀ k, rr k ≤ 3) (us : List (Fin 4)) : normT (wayT (linksT rr) us) = plT (fore rr us) := by
  rw [(way_Wy rr hr us).norm]
  have h := cnorm_row rr hr us [] (by simp)
  have e : canon [] = [] := rfl
  rw [e] at h
  rw [h]
  rfl
def pc (o : List (Fin 4)) : List Cm := if o = [] then [.dot] else canon o
theorem canon_ne {o : List (Fin 4)} (h : o ≠ []) : canon o ≠ [] := by
  cases o with
  | nil => exact absurd rfl h
  | cons a o => simp [canon, List.replicate_succ]
theorem plT_pc (o : List (Fin 4)) : plT o = J (pc o) := by
  unfold plT plC pc
  by_cases h : o = []
  · subst h; rfl
  · rw [if_neg (canon_ne h), if_neg h]
theorem pc_norm (o p : List (Fin 4)) (ho : o.length ≤ 3) (hp : p.length ≤ 3) : cnorm [] (pc o ++ pc p) = canon (top2 o p) := by
  have h1 : cnorm [] (pc o) = canon o := by
    unfold pc
    split
    · rename_i h; subst h; rfl
    · exact cnorm_canon o ho
  have h2 : cnorm (canon o) (pc p) = canon (top2 o p) := by
    unfold pc
    split
    · rename_i h; subst h
      have := two o [] ho (by simp)
      rw [← this]; rfl
    · exact two o p ho hp
  unfold cnorm at h1 h2 ⊢
  rw [List.foldl_append, h1, h2]
theorem parts_Wy (o p : List (Fin 4)) : Wy (pc o ++ pc p) (joinT (plT o) (plT p)) := by
  rw [plT_pc, plT_pc]
  exact Wy.join (.inl rfl)
theorem parts_norm (o p : List (Fin 4)) (ho : o.length ≤ 3) (hp : p.length ≤ 3) : normT (joinT (plT o) (plT p)) = plT (top2 o p) := by
  rw [(parts_Wy o p).norm, pc_norm o p ho hp]
  rfl
end

/-! ## _law_takes -/
theorem call_C {prog : Program} {w : World} {A : Around} {g : Heap} {gens : Array GenState} {dr : Drawn} {tk : Nat} {os : OsState} {K : Frag} {Q E : Value → Shared → Prop} {name qual : PySem.Str} {params : Arguments} {body : List Stmt} {scope : Scope} {dV kV doc pm cdv ct oc : Value} {an od : Option Addr} {osl : Array (Option Value)} {f : Addr} {vs : List Value} {binds : List (PySem.Str × Value)}
    (X : K.In g) (hlim : g.NoLimit) (ho : K.lookup f = some ⟨oc, od, .func (fnOf name qual params body scope dV kV doc pm an cdv ct), osl⟩) (hcd : codeIn K cdv qual = true) (hroom : A.depth < recursionLimit)
    (hbind : BindsTo ⟨g, gens, dr, tk, os⟩ (fnOf name qual params body scope dV kV doc pm an cdv ct) ⟨vs, []⟩ binds)
    (hkind : (binds.all fun y => scope.names.lookup y.1 == some .local || scope.names.lookup y.1 == some .cell) = true)
    (hnd : ((cellsFrom 0 scope.names []).map (·.1)).Nodup)
    (h : ∀ L' h₁ tk' cells, Fr g L' h₁ (bindL (envOfC qual scope L' f cdv).kindOf binds fun _ => none) → News g L' h₁ cells →
      CellsAre (bindC (envOfC qual scope L' f cdv).kindOf binds fun _ => none) (cellsFrom (L' + 1) scope.names []) cells →
      wpAny (model prog w) (A.deeper (envOfC qual scope L' f cdv)) (execs body (envOfC qual scope L' f cdv))
        (fun fl s' => Dn g L' Q (match fl with | .ret v => v | _ => .none) s') (fun _ _ => False)
        ⟨h₁, gens, dr, tk', os⟩)
    (hco : scope.isCoroutine = false := by rfl) (hgen : scope.isGenerator = false := by rfl) (hk : scope.kind = .function := by rfl) : wpAny (model prog w) A (call (.ref f) vs) Q E ⟨g, gens, dr, tk, os⟩ := by
  refine wpAny_call (codeAny_call_function (fd := fnOf name qual params body scope dV kV doc pm an cdv ct) (body := body) hroom (X _ _ ho) rfl hco hgen rfl (codeRec_of X hcd) (hbind _ _ _ _ ?_))
  refine wpAny_newFunctionEnv_cells hk (kindsX hkind _) fun env' he s' x => ?_
  subst he
  refine ⟨hlim.keeps x.toInCall.keep, codeAny_func ?_⟩
  obtain ⟨h₁, tk, rfl, _⟩ := x.done
  have hk₁ := x.toInCall.keep
  obtain ⟨cells, NC, Y⟩ := Cl.news (h₀ := g) (Nat.le_refl _) fun n c hm => ⟨x.cell n c (lookup_of_mem_nodup (cellsFrom_names scope.names 0 (g.objs.size + 1) [] [] rfl ▸ hnd) hm), x.above n c hm⟩
  exact wpAny_mono (h g.objs.size h₁ tk cells ⟨x.toInCall.ns, hk₁, Nat.le_refl _⟩ NC Y) (fun fl s' hl => let ⟨_, _, q⟩ := hl; q) fun _ _ y => y.elim
/-- loops whose target may be a cell: by the library's unrolling, any number of turns -/
def TCE {σ : Type} (h₀ : Heap) (L : Addr) (Ld : σ → List (Addr × Obj)) (stored : List PySem.Str) (m₀ : PySem.Str → Option Value) (P : σ → Prop) (own : List (Addr × Obj)) (gens : Array GenState) (dr : Drawn) (os : OsState) (s₂ : Shared) : Prop :=
  ∃ c h' tk m' news', s₂ = ⟨h', gens, dr, tk, os⟩ ∧ Fr h₀ L h' m' ∧ News h₀ L h' news' ∧ (∀ p ∈ own ++ Ld c, p ∈ news') ∧ (∀ z, stored.contains z = false → m' z = m₀ z) ∧ P c
def TCP {σ : Type} (h₀ : Heap) (L : Addr) (Ld : σ → List (Addr × Obj)) (stored : List PySem.Str) (m₀ : PySem.Str → Option Value) (P : σ → Prop) (own : List (Addr × Obj)) (gens : Array GenState) (dr : Drawn) (os : OsState) (Q : Flow → Shared → Prop) (f : Flow) (s₂ : Shared) : Prop :=
  match f with
  | .ret v => Q (.ret v) s₂
  | .brk => Q .next s₂
  | _ => TCE h₀ L Ld stored m₀ P own gens dr os s₂
section
variable {prog : Program} {w : World} {A : Around} {E : Value → Shared → Prop} {env : Env} {h₀ : Heap} {target : PySem.Expr} {body : List Stmt} {Q : Flow → Shared → Prop} {h : Heap} {gens : Array GenState} {dr : Drawn} {tk : Nat} {os : OsState} {σ : Type}
theorem unr_inv {Pv : Nat → Value → Prop} {fp : List Addr} {n : Nat} {m₀ : PySem.Str → Option Value} (Ld : σ → List (Addr × Obj)) (stored : List PySem.Str) (P : Nat → σ → Prop) (adr : List Addr) (hadr : ∀ c, (Ld c).map (·.1) = adr) (hoff : ∀ b ∈ fp, ∀ a ∈ adr, b ≠ a)
    (turn : ∀ i c v (u : PySem.Str → Option Value) h' tk' own, OwnOff own adr → i < n → Pv i v → P i c → Fr h₀ env.locals h' (fun z => if stored.contains z then u z else m₀ z) → News h₀ env.locals h' (Ld c ++ own) →
      wpAny (model prog w) A (assign target env v) (fun _ s₂ => wpAny (model prog w) A (execs body env) (TCP h₀ env.locals Ld stored m₀ (P (i + 1)) own gens dr os Q) E s₂) E ⟨h', gens, dr, tk', os⟩)
    (done : ∀ c (u : PySem.Str → Option Value) h' tk', P n c → Fr h₀ env.locals h' (fun z => if stored.contains z then u z else m₀ z) → News h₀ env.locals h' (Ld c) → Q .next ⟨h', gens, dr, tk', os⟩) :
    ∀ k i c m₁, i + k = n → P i c → (∀ z, stored.contains z = false → m₁ z = m₀ z) → Unr prog w A E h₀ env target body Q Pv fp ⟨h, gens, dr, tk, os⟩ k i m₁ (Ld c) := by
  have em : ∀ {m₁ : PySem.Str → Option Value} {h' : Heap}, (∀ z, stored.contains z = false → m₁ z = m₀ z) → Fr h₀ env.locals h' m₁ → Fr h₀ env.locals h' (fun z => if stored.contains z then m₁ z else m₀ z) := fun {m₁ h'} e F => by
    have : (fun z => if stored.contains z then m₁ z else m₀ z) = m₁ := by
      funext z
      cases hz : stored.contains z with
      | true => rfl
      | false => exact (e z hz).symm
    rw [this]
    exact F
  intro k
  induction k with
  | zero =>
    intro i c m₁ hi hp he h' tk' F N
    have : i = n := by omega
    subst this
    exact done c m₁ h' tk' hp (em he F) N
  | succ k ih =>
    intro i c m₁ hi hp he v h' tk' own hv hsub F N
    refine wpAny_mono (turn i c v m₁ h' tk' own (fun p hp a ha => hoff _ (hsub p hp) a ha) (by omega) hv hp (em he F) fun p hp => N p (by
      rcases List.mem_append.mp hp with q | q
      · exact List.mem_append_right _ q
      · exact List.mem_append_left _ q)) (fun _ s₂ h₂ => wpAny_mono h₂ (fun f s₃ h₃ => ?_) fun _ _ e => e) fun _ _ e => e
    have fin : TCE h₀ env.locals Ld stored m₀ (P (i + 1)) own gens dr os s₃ → LoopStep2 h₀ env.locals own (Ld c) (Unr prog w A E h₀ env target body Q Pv fp ⟨h, gens, dr, tk, os⟩ k (i + 1)) ⟨h', gens, dr, tk', os⟩ .next s₃ := by
      rintro ⟨c', h'', tk'', m', news', rfl, F', N', hn, hm, hP⟩
      exact ⟨rfl, h'', tk'', m', Ld c', rfl, F', fun p hp => N' p (hn p hp), (hadr c').trans (hadr c).symm, ih (i + 1) c' m' (by omega) hP hm⟩
    cases f with
    | ret v => exact h₃
    | brk => exact h₃
    | cont => exact fin h₃
    | next => exact fin h₃
theorem it_strC {y : PySem.Str} {ty : Tok} {m₀ : PySem.Str → Option Value} {x : PySem.Str} {px : Pos} (Ld : σ → List (Addr × Obj)) (stored : List PySem.Str) (P : Nat → σ → Prop) (adr : List Addr) (c₀ : σ)
    (hh : A.handled = none) (hadr : ∀ c, (Ld c).map (·.1) = adr) (F : Fr h₀ env.locals h m₀) (N : News h₀ env.locals h (Ld c₀)) (hp : P 0 c₀)
    (turn : ∀ (i : Nat) c s t (u : PySem.Str → Option Value) h' tk' own, OwnOff own adr → y.cps[i]? = some s → P i c → Fr h₀ env.locals h' (fun z => if stored.contains z then u z else m₀ z) → News h₀ env.locals h' (Ld c ++ own) →
      wpAny (model prog w) A (assign (.Name x px) env (.str ⟨#[s]⟩ t)) (fun _ s₂ => wpAny (model prog w) A (execs body env) (TCP h₀ env.locals Ld stored m₀ (P (i + 1)) own gens dr os Q) E s₂) E ⟨h', gens, dr, tk', os⟩)
    (done : ∀ c (u : PySem.Str → Option Value) h' tk', P y.cps.size c → Fr h₀ env.locals h' (fun z => if stored.contains z then u z else m₀ z) → News h₀ env.locals h' (Ld c) → Q .next ⟨h', gens, dr, tk', os⟩) :
    wpAny (model prog w) A (pyIter (.str y ty)) (fun it s₂ => UnrAt prog w A h₀ env (.Name x px) body Q E it s₂) E ⟨h, gens, dr, tk, os⟩ := by
  have hLs : env.locals < h.objs.size := F.ns.lt
  refine wpAny_pyIter_str fun o St W hS => ?_
  refine ⟨h.objs.size, _, _, y.cps.size, _, _, m₀, Ld c₀, rfl, W A hh, fun hm => Nat.ne_of_lt hLs (List.mem_singleton.mp hm), fun b hb => ?_, fun p hp hm => ?_, hS, F.push _, fun p hp => ⟨Heap.get?_push_of_some _ (N p hp).1, (N p hp).2⟩, fun i s' v Q' _ hq => wpAny_pure hq, ?_⟩
  · rw [List.mem_singleton.mp hb]; exact next_is_new F
  · exact Nat.ne_of_lt (Heap.lt_size (N p hp).1) (List.mem_singleton.mp hm)
  · refine unr_inv Ld stored P adr hadr (fun b hb a ha => by rw [List.mem_singleton.mp hb]; exact (Nat.ne_of_lt (adr_new N (hadr c₀) a ha)).symm) ?_ done _ 0 c₀ m₀ (Nat.zero_add _) hp fun _ _ => rfl
    rintro i c v u h' tk' own ho hi ⟨s, t, hs, rfl⟩ hPc F' N'
    exact turn i c s t u h' tk' own ho hs hPc F' N'
/-- the loop at its iterator -/
def LoopC (prog : Program) (w : World) (A : Around) (env : Env) (target : PySem.Expr) (body : List Stmt) (Q : Flow → Shared → Prop) (E : Value → Shared → Prop) (it : Value) (s₂ : Shared) : Prop :=
  ∃ (I : Addr) (fp : List Addr) (n : Nat) (Pv : Nat → Value → Prop) (St : Nat → Heap → Prop) (J : Nat → Heap → Prop),
    it = .ref I ∧ Walks prog w A I fp [I] n Pv St ∧ St 0 s₂.heap ∧ J 0 s₂.heap ∧
    (∀ i (s' : Shared) v (Q' : Unit → Shared → Prop), St i s'.heap → Q' () s' → wpAny (model prog w) A (letOwnedTupleGo target (.ref I) v) Q' E s') ∧
    (∀ i v h h₁ tk₁, i < n → Pv i v → J i h → (∀ b o, b ∉ [I] → h.get? b = some o → h₁.get? b = some o) → St (i + 1) h₁ →
      wpAny (model prog w) A (assign target env v) (fun _ s₃ => wpAny (model prog w) A (execs body env) (fun f s₄ => match f with
        | .ret v => Q (.ret v) s₄
        | .brk => Q .next s₄
        | _ => ∃ h₂ tk₂, s₄ = { s₂ with heap := h₂, toks := tk₂ } ∧ St (i + 1) h₂ ∧ J (i + 1) h₂) E s₃) E { s₂ with heap := h₁, toks := tk₁ }) ∧
    ∀ h h₁ tk₁, J n h → (∀ b o, b ∉ [I] → h.get? b = some o → h₁.get? b = some o) → Q .next { s₂ with heap := h₁, toks := tk₁ }
theorem For_C {s : Shared} {iter : PySem.Expr} {pos : Pos} {m : PySem.Str → Option Value} (_F : Fr h₀ env.locals s.heap m)
    (hc : wpAny (model prog w) A (eval iter env) (fun xv s₁ => wpAny (model prog w) A (pyIter xv) (fun it s₂ => LoopC prog w A env target body Q E it s₂) E s₁) E s)
    (hs : ∀ x, foldedSetIterable iter env x = pure x) (hE : PassesOwn (model prog w) A env E := by passes_own) :
    wpAny (model prog w) A (exec (.For target iter body [] pos) env) Q E s := by
  refine wpAny_For (wpAny_mono hc (fun xv s₁ h₁ => wpAny_mono h₁ (fun it s₂ h₂ => ?_) fun _ _ e => e) fun _ _ e => e) hs
  obtain ⟨I, fp, n, Pv, St, J, rfl, W, hst, hJ, hgo, turn, done⟩ := h₂
  refine codeAny_forLoop_any (fun k s' => ∃ h' tk i, s' = { s₂ with heap := h', toks := tk } ∧ St i h' ∧ J i h' ∧ i ≤ n ∧ k = n + 1 - i) ?_ (n + 1) ⟨s₂.heap, s₂.toks, 0, rfl, hst, hJ, Nat.zero_le _, rfl⟩
  rintro k s' ⟨h', tk, i, rfl, hst', hJ', hi, rfl⟩
  by_cases hlt : i < n
  · refine W.item i _ _ _ hlt hst' fun v h₁ tk₁ hP hst₁ hk₁ => ?_
    refine wpAny_passesOwn hE (hgo (i + 1) _ v _ hst₁ ?_)
    refine wpAny_passesOwn hE (wpAny_mono (turn i v h' h₁ tk₁ hlt hP hJ' hk₁ hst₁) (fun _ s₃ h₃ => wpAny_passesOwn hE (wpAny_mono h₃ (fun f s₄ h₄ => ?_) fun _ _ e => e)) fun _ _ e => e)
    have fin : (∃ h₂ tk₂, s₄ = { s₂ with heap := h₂, toks := tk₂ } ∧ St (i + 1) h₂ ∧ J (i + 1) h₂) → ∃ m, m < n + 1 - i ∧ ∃ h' tk i, s₄ = { s₂ with heap := h', toks := tk } ∧ St i h' ∧ J i h' ∧ i ≤ n ∧ m = n + 1 - i :=
      fun ⟨h₂, tk₂, e, a, b⟩ => ⟨n + 1 - (i + 1), by omega, h₂, tk₂, i + 1, e, a, b, hlt, rfl⟩
    cases f with
    | ret v => exact h₄
    | brk => exact h₄
    | cont => exact fin h₄
    | next => exact fin h₄
  · have hin : i = n := by omega
    subst hin
    exact W.done _ _ _ hst' fun h₁ tk₁ hk₁ => wpAny_execs_nil (done h' h₁ tk₁ hJ' hk₁)
theorem loop_C {I : Addr} {Pv : Nat → Value → Prop} {St : Nat → Heap → Prop} {n : Nat} {m₀ : PySem.Str → Option Value} (Ld : σ → List (Addr × Obj)) (stored : List PySem.Str) (P : Nat → σ → Prop) (adr : List Addr) (c₀ : σ)
    (W : Walks prog w A I [I] [I] n Pv St) (hI : St 0 h) (hwr : h₀.get? I = none) (hIL : env.locals ≠ I) (hlive : ∀ i h, St i h → ∃ o, h.get? I = some o)
    (hadr : ∀ c, (Ld c).map (·.1) = adr) (hadrI : I ∉ adr) (F : Fr h₀ env.locals h m₀) (N : News h₀ env.locals h (Ld c₀)) (hp : P 0 c₀)
    (hgo : ∀ i (s' : Shared) v (Q' : Unit → Shared → Prop), St i s'.heap → Q' () s' → wpAny (model prog w) A (letOwnedTupleGo target (.ref I) v) Q' E s')
    (turn : ∀ i c v (u : PySem.Str → Option Value) h' tk' o', i < n → Pv i v → P i c → Fr h₀ env.locals h' (fun z => if stored.contains z then u z else m₀ z) → News h₀ env.locals h' ((I, o') :: Ld c) →
      wpAny (model prog w) A (assign target env v) (fun _ s₂ => wpAny (model prog w) A (execs body env) (TCP h₀ env.locals Ld stored m₀ (P (i + 1)) [(I, o')] gens dr os Q) E s₂) E ⟨h', gens, dr, tk', os⟩)
    (done : ∀ c (u : PySem.Str → Option Value) h' tk', P n c → Fr h₀ env.locals h' (fun z => if stored.contains z then u z else m₀ z) → News h₀ env.locals h' (Ld c) → Q .next ⟨h', gens, dr, tk', os⟩) :
    LoopC prog w A env target body Q E (.ref I) ⟨h, gens, dr, tk, os⟩ := by
  have em : ∀ {m₁ : PySem.Str → Option Value} {h' : Heap}, (∀ z, stored.contains z = false → m₁ z = m₀ z) → Fr h₀ env.locals h' m₁ → Fr h₀ env.locals h' (fun z => if stored.contains z then m₁ z else m₀ z) := fun {m₁ h'} e F => by
    have : (fun z => if stored.contains z then m₁ z else m₀ z) = m₁ := by
      funext z
      cases hz : stored.contains z with
      | true => rfl
      | false => exact (e z hz).symm
    rw [this]
    exact F
  have nadr : ∀ c, ∀ p ∈ Ld c, p.1 ∉ [I] := fun c p hp hI' => hadrI (by
    have : p.1 ∈ (Ld c).map (·.1) := List.mem_map.mpr ⟨p, hp, rfl⟩
    rw [hadr c] at this
    rwa [← List.mem_singleton.mp hI'])
  have keepF : ∀ {h₁ h₂ : Heap} {m : PySem.Str → Option Value}, (∀ b o, b ∉ [I] → h₁.get? b = some o → h₂.get? b = some o) → Fr h₀ env.locals h₁ m → Fr h₀ env.locals h₂ m := fun hk F =>
    ⟨F.ns.at' fun o e => hk _ o (fun q => hIL (List.mem_singleton.mp q)) e, fun b o e => hk b o (fun q => by rw [List.mem_singleton.mp q, hwr] at e; cases e) (F.keep b o e), F.above⟩
  have keepN : ∀ {h₁ h₂ : Heap} {c : σ}, (∀ b o, b ∉ [I] → h₁.get? b = some o → h₂.get? b = some o) → News h₀ env.locals h₁ (Ld c) → News h₀ env.locals h₂ (Ld c) := fun hk N p hp =>
    ⟨hk _ _ (nadr _ p hp) (N p hp).1, (N p hp).2⟩
  refine ⟨I, [I], n, Pv, St, (fun i h => ∃ c m, Fr h₀ env.locals h m ∧ News h₀ env.locals h (Ld c) ∧ P i c ∧ ∀ z, stored.contains z = false → m z = m₀ z), rfl, W, hI, ⟨c₀, m₀, F, N, hp, fun _ _ => rfl⟩, hgo, ?_, ?_⟩
  · rintro i v hh h₁ tk₁ hi hPv ⟨c, m₁, F₁, N₁, hPc, hm⟩ hk hst
    obtain ⟨o', ho'⟩ := hlive _ _ hst
    refine wpAny_mono (turn i c v m₁ h₁ tk₁ o' hi hPv hPc (em hm (keepF hk F₁)) fun p hp => ?_) (fun _ s₃ h₃ => wpAny_mono h₃ (fun f s₄ h₄ => ?_) fun _ _ e => e) fun _ _ e => e
    · rcases List.mem_cons.mp hp with rfl | hp
      · exact ⟨ho', Ne.symm hIL, hwr⟩
      · exact keepN hk N₁ p hp
    · have fin : TCE h₀ env.locals Ld stored m₀ (P (i + 1)) [(I, o')] gens dr os s₄ → ∃ h₂ tk₂, s₄ = { (⟨h, gens, dr, tk, os⟩ : Shared) with heap := h₂, toks := tk₂ } ∧ St (i + 1) h₂ ∧ ∃ c m, Fr h₀ env.locals h₂ m ∧ News h₀ env.locals h₂ (Ld c) ∧ P (i + 1) c ∧ ∀ z, stored.contains z = false → m z = m₀ z := by
        rintro ⟨c', h₂, tk₂, m', news', rfl, F', N', hn, hm', hP'⟩
        refine ⟨h₂, tk₂, rfl, W.frame _ _ _ hst fun b hb o e => ?_, c', m', F', fun p hp => N' p (hn p (List.mem_append_right _ hp)), hP', hm'⟩
        have hb' := List.mem_singleton.mp hb
        rw [hb'] at e ⊢
        rw [ho'] at e
        rw [← Option.some.inj e]
        exact (N' _ (hn _ (List.mem_append_left _ (List.mem_cons_self ..)))).1
      cases f with
      | ret v => exact h₄
      | brk => exact h₄
      | cont => exact fin h₄
      | next => exact fin h₄
  · rintro hh h₁ tk₁ ⟨c, m₁, F₁, N₁, hPc, hm⟩ hk
    exact done c m₁ h₁ tk₁ hPc (em hm (keepF hk F₁)) (keepN hk N₁)
theorem it_rangeC {r : Addr} {a₀ b₀ d₀ : Int} {t₀ u₀ v₀ : Tok} {n : Nat} {m₀ : PySem.Str → Option Value} {x : PySem.Str} {px : Pos} (Ld : σ → List (Addr × Obj)) (stored : List PySem.Str) (P : Nat → σ → Prop) (adr : List Addr) (c₀ : σ)
    (hh : A.handled = none) (hr : IsRange h r a₀ b₀ d₀ t₀ u₀ v₀) (hsmall : Builtin.Range.small a₀ b₀ d₀ = true) (hn : Builtin.Range.rangeSize a₀ b₀ d₀ = (n : Int))
    (hadr : ∀ c, (Ld c).map (·.1) = adr) (F : Fr h₀ env.locals h m₀) (N : News h₀ env.locals h (Ld c₀)) (hp : P 0 c₀)
    (turn : ∀ I : Nat, (∀ a ∈ adr, @LT.lt Nat _ a I) → ∀ (i : Nat) c t (u : PySem.Str → Option Value) h' tk' o', i < n → P i c → Fr h₀ env.locals h' (fun z => if stored.contains z then u z else m₀ z) → News h₀ env.locals h' ((I, o') :: Ld c) →
      wpAny (model prog w) A (assign (.Name x px) env (.int (a₀ + i * d₀) t)) (fun _ s₂ => wpAny (model prog w) A (execs body env) (TCP h₀ env.locals Ld stored m₀ (P (i + 1)) [(I, o')] gens dr os Q) E s₂) E ⟨h', gens, dr, tk', os⟩)
    (done : ∀ c (u : PySem.Str → Option Value) h' tk', P n c → Fr h₀ env.locals h' (fun z => if stored.contains z then u z else m₀ z) → News h₀ env.locals h' (Ld c) → Q .next ⟨h', gens, dr, tk', os⟩) :
    wpAny (model prog w) A (pyIter (.ref r)) (fun it s₂ => LoopC prog w A env (.Name x px) body Q E it s₂) E ⟨h, gens, dr, tk, os⟩ := by
  have hLs : env.locals < h.objs.size := F.ns.lt
  refine wpAny_pyIter_range hr hsmall ?_
  have W := Walks.range (prog := prog) (w := w) hh h.objs.size a₀ d₀ n
  refine loop_C Ld stored P adr c₀ W (by show IsRangeIter _ _ _ _ _; rw [hn]; simpa using Heap.get?_push_size _ rfl) (next_is_new F) (Nat.ne_of_lt hLs) (fun i h st => ⟨_, st⟩) hadr (fun hm => Nat.lt_irrefl _ (adr_new N (hadr c₀) _ hm)) (F.push _) (fun p hp => ⟨Heap.get?_push_of_some _ (N p hp).1, (N p hp).2⟩) hp (fun i s' v Q' _ hq => wpAny_pure hq) ?_ done
  rintro i c v u h' tk' o' hi ⟨t, rfl⟩ hPc F' N'
  exact turn h.objs.size (adr_new N (hadr c₀)) i c t u h' tk' o' hi hPc F' N'
end
/-! takes, in plain words -/
def fit1 (r x : PySem.Str) (i : Nat) (j : Int) : Bool := Txt.item r j == PySem.Str.ofString "." || Txt.item r j == Txt.item x ((i : Int) + j)
def fitB (r x : PySem.Str) (i : Nat) : Bool := fit1 r x i 0 && (fit1 r x i 1 && fit1 r x i 2)
def takesB (r x : PySem.Str) : Bool := (List.range (x.length - 2)).any fun i => fitB r x i
theorem takes_hit {r x : PySem.Str} {i : Nat} (hi : i < x.length - 2) (h : fitB r x i = true) : takesB r x = true := List.any_eq_true.mpr ⟨i, List.mem_range.mpr hi, h⟩
theorem takes_miss {r x : PySem.Str} (h : ∀ i, i < x.length - 2 → fitB r x i = false) : takesB r x = false := by
  unfold takesB
  rw [List.any_eq_false]
  intro i hi
  rw [h i (List.mem_range.mp hi)]
  exact Bool.false_ne_true

/-! ## the plain law: the place, what decode and takes make of it -/
section
def placeT (o : List (Fin 4)) : PySem.Str := J (canon o)
def bareC (k : Fin 4) (l : Nat) : PySem.Str := ⟨#[32 + 16 * k.val + lvl l]⟩
def bareN : List (Fin 4) → List PySem.Str
  | [] => []
  | [a] => [bareC a 1]
  | [a, b] => [bareC b 2, bareC a 1]
  | a :: b :: c :: _ => [bareC c 3, bareC b 2, bareC a 1]
def bareT (o : List (Fin 4)) : PySem.Str := Str.join sl (List.replicate o.length dd ++ bareN o)
theorem dig_it : ∀ k : Fin 4, Txt.item (PySem.Str.ofString "2345") (k.val : Int) = ⟨#[50 + k.val]⟩ := by decide +kernel
theorem own_it3 : ∀ k : Fin 4, Txt.item ([PySem.Str.ofString "/.*", PySem.Str.ofString "?>:", PySem.Str.ofString "ONJ", PySem.Str.ofString "_^Z"].getD k.val PySem.Str.empty) (3 - 1) = bareC k 3 := by decide +kernel
theorem own_it2 : ∀ k : Fin 4, Txt.item ([PySem.Str.ofString "/.*", PySem.Str.ofString "?>:", PySem.Str.ofString "ONJ", PySem.Str.ofString "_^Z"].getD k.val PySem.Str.empty) (2 - 1) = bareC k 2 := by decide +kernel
theorem own_it1 : ∀ k : Fin 4, Txt.item ([PySem.Str.ofString "/.*", PySem.Str.ofString "?>:", PySem.Str.ofString "ONJ", PySem.Str.ofString "_^Z"].getD k.val PySem.Str.empty) (1 - 1) = bareC k 1 := by decide +kernel
def orDot (x : PySem.Str) : PySem.Str := if x.length = 0 then dt else x
def smallO (P : List (Fin 4) → Bool) : Bool := P [] && ((List.finRange 4).all fun a => P [a] && (List.finRange 4).all fun b => P [a, b] && (List.finRange 4).all fun c => P [a, b, c])
theorem of_small {P : List (Fin 4) → Bool} (h : smallO P = true) (o : List (Fin 4)) (ho : o.length ≤ 3) : P o = true := by
  unfold smallO at h
  rw [Bool.and_eq_true] at h
  have h1 := fun a => List.all_eq_true.mp h.2 a (List.mem_finRange a)
  match o, ho with
  | [], _ => exact h.1
  | [a], _ =>
    have := h1 a
    rw [Bool.and_eq_true] at this
    exact this.1
  | [a, b], _ =>
    have := h1 a
    rw [Bool.and_eq_true] at this
    have := List.all_eq_true.mp this.2 b (List.mem_finRange b)
    rw [Bool.and_eq_true] at this
    exact this.1
  | [a, b, c], _ =>
    have := h1 a
    rw [Bool.and_eq_true] at this
    have := List.all_eq_true.mp this.2 b (List.mem_finRange b)
    rw [Bool.and_eq_true] at this
    exact List.all_eq_true.mp this.2 c (List.mem_finRange c)
  | _ :: _ :: _ :: _ :: _, h => simp at h
theorem place_or (o : List (Fin 4)) : orDot (placeT o) = plT o := by
  unfold orDot placeT plT plC
  by_cases h : canon o = []
  · rw [if_pos h, h]; rfl
  · rw [if_neg h, if_neg (J_len h)]
theorem one_beq (a b : Nat) : ((⟨#[a]⟩ : PySem.Str) == ⟨#[b]⟩) = (a == b) := by
  rw [Bool.eq_iff_iff, beq_iff_eq, beq_iff_eq]
  constructor
  · intro h
    have h := congrArg (fun s : PySem.Str => s.cps.toList) h
    exact (List.cons.inj h).1
  · intro h; rw [h]
theorem item_n {x : PySem.Str} {i : Nat} (h : i < x.length) : Txt.item x (i : Int) = ⟨#[x.cps.getD i 0]⟩ := by
  rw [item_meets ⟨by omega, by omega⟩, Int.toNat_natCast]
theorem item_n1 {x : PySem.Str} {i : Nat} (h : i + 1 < x.length) : Txt.item x ((i : Int) + 1) = ⟨#[x.cps.getD (i + 1) 0]⟩ := item_n h
theorem item_n2 {x : PySem.Str} {i : Nat} (h : i + 2 < x.length) : Txt.item x ((i : Int) + 2) = ⟨#[x.cps.getD (i + 2) 0]⟩ := item_n h
/-- decode's inner loop again, by tests that cost the kernel less -/
def dsm : List PySem.Str := [⟨#[50]⟩, ⟨#[51]⟩, ⟨#[52]⟩, ⟨#[53]⟩, ⟨#[65]⟩, ⟨#[69]⟩, ⟨#[70]⟩]
theorem dsm_hex : ∀ s ∈ dsm, (Builtin.Str.occurrences (PySem.Str.ofString "0123456789abcdefABCDEF") s 0 (PySem.Str.ofString "0123456789abcdefABCDEF").length 1).isEmpty = false := by decide +kernel
theorem find_q : ∀ n ∈ q12, q12.find? (fun m => quoteT n == quoteT m) = some n := by decide +kernel
def candN (a b : Nat) : Nat := 16 * (a - 48) + (if b = 65 then 10 else if b = 69 then 14 else 15)
def decF3 (x : PySem.Str) : Nat → Nat → PySem.Str → Option PySem.Str
  | 0, _, _ => none
  | f + 1, i, acc =>
    if i = x.length then some acc else
    if x.length < i then none else
    if x.cps.getD i 0 ≠ 61 then decF3 x f (i + 1) (if i + 1 = x.length then acc ++ ⟨#[x.cps.getD i 0]⟩ ++ PySem.Str.ofString "\n" else acc ++ ⟨#[x.cps.getD i 0]⟩)
    else if i + 2 < x.length ∧ x.cps.getD (i + 1) 0 ∈ [50, 51, 52, 53] ∧ x.cps.getD (i + 2) 0 ∈ [65, 69, 70] ∧ Txt.slice x (some (i : Int)) (some ((i : Int) + 3)) = quoteT (candN (x.cps.getD (i + 1) 0) (x.cps.getD (i + 2) 0)) then
      decF3 x f (i + 3) (if i + 3 = x.length then acc ++ ⟨#[candN (x.cps.getD (i + 1) 0) (x.cps.getD (i + 2) 0)]⟩ ++ PySem.Str.ofString "\n" else acc ++ ⟨#[candN (x.cps.getD (i + 1) 0) (x.cps.getD (i + 2) 0)]⟩)
    else none
theorem hex4 : ∀ a ∈ [50, 51, 52, 53, 65, 69, 70], (⟨#[a]⟩ : PySem.Str) ∈ dsm := by decide +kernel
theorem cand12 : ∀ a ∈ [50, 51, 52, 53], ∀ b ∈ [65, 69, 70], candN a b ∈ q12 := by decide +kernel
theorem decF3_ok (x R : PySem.Str) : ∀ (f i : Nat) (acc : PySem.Str), decF3 x f i acc = some R → decF x f i acc = some R
  | 0, _, _, h => by cases h
  | f + 1, i, acc, h => by
    unfold decF3 at h
    unfold decF
    by_cases h1 : i = x.length
    · rw [if_pos h1] at h ⊢; exact h
    · rw [if_neg h1] at h ⊢
      by_cases h0 : x.length < i
      · rw [if_pos h0] at h; cases h
      · rw [if_neg h0] at h
        have hi : i < x.length := by omega
        have hb : (Txt.item x (i : Int) != PySem.Str.ofString "=") = !(x.cps.getD i 0 == 61) := by
          rw [item_n hi, show PySem.Str.ofString "=" = ⟨#[61]⟩ from rfl, bne, one_beq]
        by_cases h2 : x.cps.getD i 0 ≠ 61
        · rw [if_pos h2] at h
          rw [if_pos (by rw [hb]; simpa using h2), item_n hi]
          exact decF3_ok x R _ _ _ h
        · rw [if_neg h2] at h
          rw [if_neg (by rw [hb]; simpa using h2)]
          split at h
          · rename_i h3
            obtain ⟨a1, a2, a3, a5⟩ := h3
            have e1 : Txt.item x ((i : Int) + 1) ∈ dsm := by
              rw [item_n1 (by omega)]; exact hex4 _ (List.mem_append_left [65, 69, 70] a2)
            have e2 : Txt.item x ((i : Int) + 2) ∈ dsm := by
              rw [item_n2 a1]; exact hex4 _ (List.mem_append_right [50, 51, 52, 53] a3)
            rw [if_pos ⟨a1, dsm_hex _ e1, dsm_hex _ e2⟩, a5, find_q _ (cand12 _ a2 _ a3)]
            exact decF3_ok x R _ _ _ h
          · cases h
/-- decode's premises -/
def leS (a b : PySem.Str) : Bool := a.cps.toList == b.cps.toList
theorem leS_eq {a b : PySem.Str} (h : leS a b = true) : a = b := by
  unfold leS at h
  rw [beq_iff_eq] at h
  cases a; cases b
  exact congrArg PySem.Str.mk (Array.ext' h)
def decR (o : List (Fin 4)) : PySem.Str := orDot (bareT o) ++ PySem.Str.ofString "\n"
def oneS : List PySem.Str → PySem.Str → Bool
  | [y], x => leS y x
  | _, _ => false
theorem oneS_eq {l : List PySem.Str} {x : PySem.Str} (h : oneS l x = true) : l = [x] := by
  unfold oneS at h
  split at h
  · rw [leS_eq h]
  · cases h
def isS : Option PySem.Str → PySem.Str → Bool
  | some y, x => leS y x
  | none, _ => false
theorem isS_eq {l : Option PySem.Str} {x : PySem.Str} (h : isS l x = true) : l = some x := by
  unfold isS at h
  split at h
  · rw [leS_eq h]
  · cases h
def decAll (o : List (Fin 4)) : Bool := decide ((plT o).length ≤ 100) && decide (0 < (plT o).length) && oneS (Txt.lines (plT o)) (plT o) && leS (Txt.rstrip (plT o)) (plT o) && isS (decF3 (plT o) 40 0 PySem.Str.empty) (decR o) && Txt.endswith (decR o) (PySem.Str.ofString "\n") && (Builtin.Str.occurrences (PySem.Str.ofString "\r\n") (Txt.item (plT o) (-1)) 0 (PySem.Str.ofString "\r\n").length 1).isEmpty && leS (Txt.slice (decR o) none (some (-1))) (orDot (bareT o))
theorem dec_small : smallO decAll = true := by decide +kernel
/-- takes -/
def runA (k : Nat) : PySem.Str := ⟨#[61, 50 + k, 46]⟩
def runB (k : Nat) : PySem.Str := ⟨#[61, 46, if k = 0 then 70 else if k = 1 then 69 else 65]⟩
def fitC (r x : PySem.Str) (i j : Nat) : Bool := r.cps.getD j 0 == 46 || r.cps.getD j 0 == x.cps.getD (i + j) 0
def takesC (r x : PySem.Str) : Bool := (List.range (x.length - 2)).any fun i => fitC r x i 0 && (fitC r x i 1 && fitC r x i 2)
theorem fitC_eq {r x : PySem.Str} {i j : Nat} (hr : j < r.length) (hx : i + j < x.length) : fit1 r x i (j : Int) = fitC r x i j := by
  unfold fit1 fitC
  rw [item_n hr, show ((i : Int) + (j : Int)) = ((i + j : Nat) : Int) from rfl, item_n hx, show PySem.Str.ofString "." = ⟨#[46]⟩ from rfl, one_beq, one_beq]
theorem takesC_eq {r x : PySem.Str} (hr : r.length = 3) : takesB r x = takesC r x := by
  unfold takesB takesC
  rw [Bool.eq_iff_iff, List.any_eq_true, List.any_eq_true]
  have k : ∀ i ∈ List.range (x.length - 2), fitB r x i = (fitC r x i 0 && (fitC r x i 1 && fitC r x i 2)) := fun i hi => by
    have hi := List.mem_range.mp hi
    unfold fitB
    rw [show (0 : Int) = ((0 : Nat) : Int) from rfl, show (1 : Int) = ((1 : Nat) : Int) from rfl, show (2 : Int) = ((2 : Nat) : Int) from rfl, fitC_eq (by omega) (by omega), fitC_eq (by omega) (by omega), fitC_eq (by omega) (by omega)]
  exact ⟨fun ⟨i, h1, h2⟩ => ⟨i, h1, by rw [← k i h1]; exact h2⟩, fun ⟨i, h1, h2⟩ => ⟨i, h1, by rw [k i h1]; exact h2⟩⟩
def takeAll (o : List (Fin 4)) : Bool := ((List.finRange 4).all fun k => takesC (runA k.val) (placeT o) == decide (k ∈ o)) && ((List.range 3).all fun k => takesC (runB k) (placeT o) == decide (k < o.length))
theorem take_small : smallO takeAll = true := by decide +kernel
end

/-! ## _law_takes -/
def preT : PySem.Str := PySem.Str.ofString "(?s:(?>.*?"
def sufT : PySem.Str := PySem.Str.ofString ").*)\\Z"
def txtT (a b c : Nat) : PySem.Str := PySem.Str.ofString "(?s:(?>.*?" ++ ⟨#[a, b, c]⟩ ++ PySem.Str.ofString ").*)\\Z"
theorem txtT_len (a b c : Nat) : (txtT a b c).length = 19 := rfl
theorem txt_ne (a b c : Nat) : (txtT a b c != PySem.Str.ofString "(?s:(?>.*?" ++ ⟨#[a, b, c]⟩ ++ PySem.Str.ofString ").*)\\Z") = false := by
  unfold txtT
  exact bne_self_eq_false _
section
variable {prog : Program} {w : World} {A : Around} {E : Value → Shared → Prop} {env : Env} {h₀ : Heap} {body : List Stmt} {Q : Flow → Shared → Prop} {h : Heap} {gens : Array GenState} {dr : Drawn} {tk : Nat} {os : OsState} {L : Addr} {m m₀ : PySem.Str → Option Value} {news : List (Addr × Obj)}
theorem run_S {y r : PySem.Str} {j : Int} {t ui uj : Tok} {n : PySem.Str} {pn ps : Pos} {e1 e2 : PySem.Expr} {Q : Value → Shared → Prop} (F : Fr h₀ L h m) (N : News h₀ L h news) (hsl : Txt.slice y (some 10) (some 13) = r) (hz : y.length ≤ 1000) (hj : j = 13)
    (ret : ∀ h' t' k, Fr h₀ L h' m → News h₀ L h' news → Q (.str r t') ⟨h', gens, dr, k, os⟩) :
    wpAny (model prog w) A (subscriptTail (.Name n pn) (.Slice (some e1) (some e2) none ps) (.str y t) (.ref h.objs.size)) Q E ⟨h.push { cls := .type "slice", data := .fields #[.int 10 ui, .int j uj, .none] }, gens, dr, tk, os⟩ := by
  subst hj
  exact slice_strN_ss (s := ⟨h, gens, dr, tk, os⟩) F N (fun h' t' k F' N' => by rw [hsl]; exact ret h' t' k F' N') (hsz := by rw [sizeLine_eq]; omega)
/-- a loop over a text that changes its target alone -/
theorem it_str0 {y : PySem.Str} {ty : Tok} {x : PySem.Str} {px : Pos} (hh : A.handled = none) (F : Fr h₀ env.locals h m₀) (N : News h₀ env.locals h news)
    (turn : ∀ (i : Nat) s t (u : PySem.Str → Option Value) h' tk' own, y.cps[i]? = some s → Fr h₀ env.locals h' (fun z => if z = x then u z else m₀ z) → News h₀ env.locals h' (news ++ own) →
      wpAny (model prog w) A (assign (.Name x px) env (.str ⟨#[s]⟩ t)) (fun _ s₂ => wpAny (model prog w) A (execs body env) (TCP h₀ env.locals (fun (_ : Unit) => news) [x] m₀ (fun _ => True) own gens dr os Q) E s₂) E ⟨h', gens, dr, tk', os⟩)
    (done : ∀ (u : PySem.Str → Option Value) h' tk', Fr h₀ env.locals h' (fun z => if z = x then u z else m₀ z) → News h₀ env.locals h' news → Q .next ⟨h', gens, dr, tk', os⟩) :
    wpAny (model prog w) A (pyIter (.str y ty)) (fun it s₂ => UnrAt prog w A h₀ env (.Name x px) body Q E it s₂) E ⟨h, gens, dr, tk, os⟩ := by
  have e : ∀ u : PySem.Str → Option Value, (fun z => if [x].contains z then u z else m₀ z) = fun z => if z = x then u z else m₀ z := fun u => by
    funext z
    simp only [List.contains_cons, List.contains_nil, Bool.or_false, beq_iff_eq]
  refine it_strC (fun (_ : Unit) => news) [x] (fun _ _ => True) (news.map (·.1)) () hh (fun _ => rfl) F N trivial ?_ ?_
  · intro i c s t u h' tk' own _ hs _ F' N'
    rw [e] at F'
    exact turn i s t u h' tk' own hs F' N'
  · intro c u h' tk' _ F' N'
    rw [e] at F'
    exact done u h' tk' F' N'
end
theorem small_one {a b : Int} (ha : -(2 ^ 62) ≤ a) (ha' : a < 2 ^ 62) (hb : -(2 ^ 62) ≤ b) (hb' : b < 2 ^ 62) : Builtin.Range.small a b 1 = true := by
  unfold Builtin.Range.small
  rw [rangeSize_one]
  simp only [Builtin.Range.rangeFitsLong, Bool.and_eq_true, Bool.or_eq_true, decide_eq_true_eq, beq_iff_eq, show ((1 : Int) > 0) by decide, if_true]
  split <;> omega
theorem size_sub2 (n : Nat) : Builtin.Range.rangeSize 0 ((n : Int) - 2) 1 = ((n - 2 : Nat) : Int) := by
  rw [rangeSize_one]
  split <;> omega
section
variable {prog : Program} {w : World} {A : Around} {E : Value → Shared → Prop} {env : Env} {h₀ : Heap} {body : List Stmt} {Q : Flow → Shared → Prop} {h : Heap} {gens : Array GenState} {dr : Drawn} {tk : Nat} {os : OsState} {m₀ : PySem.Str → Option Value}
/-- «a or b» of two tests that keep the heap: one path -/
theorem or_J {e1 e2 : PySem.Expr} {pos : Pos} {a b : Bool} {Q : Value → Shared → Prop}
    (h1 : ∀ Q' : Value → Shared → Prop, (∀ tk', Q' (.bool a) ⟨h, gens, dr, tk', os⟩) → wpAny (model prog w) A (eval e1 env) Q' E ⟨h, gens, dr, tk, os⟩)
    (h2 : ∀ (tk : Nat) (Q' : Value → Shared → Prop), (∀ tk', Q' (.bool b) ⟨h, gens, dr, tk', os⟩) → wpAny (model prog w) A (eval e2 env) Q' E ⟨h, gens, dr, tk, os⟩)
    (k : ∀ tk', Q (.bool (a || b)) ⟨h, gens, dr, tk', os⟩) : wpAny (model prog w) A (eval (.BoolOp .Or [e1, e2] pos) env) Q E ⟨h, gens, dr, tk, os⟩ := by
  refine wpAny_Or2 (h1 _ fun tk' => wpAny_truthy_bool ?_)
  cases a with
  | true => exact k tk'
  | false => exact h2 tk' Q k
/-- the loop over the places of a text, its target a cell, that looks for the first that fits -/
theorem takes_loop {n : Nat} {px : Pos} {r ck c2 c3 : Addr} {ok o2 o3 : Obj} {vk : Option Value} {t₀ u₀ v₀ : Tok} (fit : Nat → Bool) (hh : A.handled = none) (hr : IsRange h r 0 ((n : Int) - 2) 1 t₀ u₀ v₀) (hn : n ≤ 1000) (hk : ok.data = .cell vk)
    (F : Fr h₀ env.locals h m₀) (N : News h₀ env.locals h [(ck, ok), (c2, o2), (c3, o3)])
    (turn : ∀ I : Nat, (@LT.lt Nat _ ck I ∧ @LT.lt Nat _ c2 I ∧ @LT.lt Nat _ c3 I) → ∀ (i : Nat) (o : Obj) v t h' tk' o', i < n - 2 → o.data = .cell v → (∀ j, j < i → fit j = false) → Fr h₀ env.locals h' m₀ → News h₀ env.locals h' [(I, o'), (ck, o), (c2, o2), (c3, o3)] →
      wpAny (model prog w) A (assign (.Name (PySem.Str.ofString "k") px) env (.int (i : Int) t)) (fun _ s₂ => wpAny (model prog w) A (execs body env) (TCP h₀ env.locals (fun (o : Obj) => [(ck, o), (c2, o2), (c3, o3)]) [] m₀ (fun o => (∃ v, o.data = .cell v) ∧ ∀ j, j < i + 1 → fit j = false) [(I, o')] gens dr os Q) E s₂) E ⟨h', gens, dr, tk', os⟩)
    (done : ∀ (o : Obj) h' tk', (∀ j, j < n - 2 → fit j = false) → Fr h₀ env.locals h' m₀ → News h₀ env.locals h' [(ck, o), (c2, o2), (c3, o3)] → Q .next ⟨h', gens, dr, tk', os⟩) :
    wpAny (model prog w) A (pyIter (.ref r)) (fun it s₂ => LoopC prog w A env (.Name (PySem.Str.ofString "k") px) body Q E it s₂) E ⟨h, gens, dr, tk, os⟩ := by
  refine it_rangeC (n := n - 2) (fun (o : Obj) => [(ck, o), (c2, o2), (c3, o3)]) [] (fun i o => (∃ v, o.data = .cell v) ∧ ∀ j, j < i → fit j = false) [ck, c2, c3] ok hh hr (small_one (by omega) (by omega) (by omega) (by omega)) (size_sub2 n) (fun _ => rfl) F N ⟨⟨_, hk⟩, fun j hj => absurd hj (Nat.not_lt_zero j)⟩ ?_ ?_
  · rintro I hI i o t u h' tk' o' hi ⟨⟨v, hv⟩, hP⟩ F' N'
    have e2 : (0 : Int) + (i : Int) * 1 = (i : Int) := by omega
    rw [e2]
    exact turn I ⟨hI _ (by simp), hI _ (by simp), hI _ (by simp)⟩ i o v t h' tk' o' hi hv hP F' N'
  · rintro o u h' tk' ⟨_, hP⟩ F' N'
    exact done o h' tk' hP F' N'
end
theorem sub3 {a b c : Addr × Obj} {own : List (Addr × Obj)} : ∀ p ∈ own ++ [a, b, c], p ∈ a :: b :: c :: own := by
  intro p hp
  simp only [List.mem_append, List.mem_cons, List.not_mem_nil, or_false] at hp ⊢
  rcases hp with h | h | h | h
  · exact .inr (.inr (.inr h))
  · exact .inl h
  · exact .inr (.inl h)
  · exact .inr (.inr (.inl h))
theorem not_in1 {x z : PySem.Str} (h : [x].contains z = false) : z ≠ x := by
  intro e
  subst e
  simp at h
theorem fit_next {r x : PySem.Str} {i : Nat} {o : Obj} {v : Value} (hd : o.data = .cell (some v)) (h : ∀ j, j < i → fitB r x j = false) (h1 : fitB r x i = false) : (∃ v, o.data = .cell v) ∧ ∀ j, j < i + 1 → fitB r x j = false :=
  ⟨⟨_, hd⟩, fun j hj => by
    rcases Nat.lt_succ_iff_lt_or_eq.mp hj with e | e
    · exact h j e
    · rw [e]; exact h1⟩
section
variable {prog : Program} {w : World} {p : Program} {loose : List PySem.Str} {mean : ExcName → Option Value} {mg mb : PySem.Str → Option Value}
 example : True := by
   k_with "subscriptTail Name Slice str ref" => ((have gm := mkP15; clear gm); (k_here; dsimp only; k_dflt (refine' run_S ?z9F ?z9N hsl ?z9zz ?z9z ?_; (case z9zz => omega); (case z9F => k_asm); (case z9N => k_asm); (case z9z => omega)); intro h' t' k' F' N'; (try k_sweep)))
   trivial
 example : True := by
   k_with "exec For Name Name cons nil" => ((have gm := mkP15; clear gm); (k_here; (rename Fr _ _ _ _ => lF_P15x38); (with_unfolding_all refine' For_unrF lF_P15x38 ?_ ?z9k1; (case z9k1 => (intro _; rfl)); k_whole)))
   trivial
 example : True := by
   k_with "exec For Name Call cons nil" => ((have gm := mkP15; clear gm); (k_here; (rename Fr _ _ _ _ => lF_P15x39); (with_unfolding_all refine' For_C lF_P15x39 ?_ ?z9k1; (case z9k1 => (intro _; rfl)); k_whole)))
   trivial
 example : True := by
   k_with "pyIter str" => ((have gm := mkP15; clear gm); (k_here; (rename Fr _ _ _ _ => lF_P15x40); (rename News _ _ _ _ => lN_P15x40); (with_unfolding_all refine' it_str0 ?z9q1 lF_P15x40 lN_P15x40 ?_ ?_; (case z9q1 => exact rfl)); (first | (intro i' s' t' u' h' tk' own' hs' F' N'; simp only [List.cons_append, List.nil_append] at N') | (intro u' h' tk' F' N'))))
   trivial
 example : True := by
   k_with "pyIter ref" => ((have gm := mkP15; clear gm); (k_here; (rename IsRange _ _ _ _ _ _ _ _ => rg_P15x41); (rename Fr _ _ _ _ => lF_P15x41); (rename News _ _ _ _ => lN_P15x41); (with_unfolding_all refine' takes_loop (fitB r x) ?z9q1 rg_P15x41 ?z9q2 ?z9q3 lF_P15x41 lN_P15x41 ?_ ?_; (case z9q1 => exact rfl); (case z9q2 => (have := hl; omega)); (case z9q3 => assumption)); (first | (intro I' hI' i' o' v' t' h' tk' o2' hi' hv' hP' F' N'; obtain ⟨hI1', hI2', hI3'⟩ := hI') | (intro o' h' tk' hP' F' N'))))
   trivial
 example : True := by
   k_with "CompSrc" => ((have gm := mkP15; clear gm); (k_here; k_dflt (refine LCg.CompSrc.range (by rfl) (by k_asm) (by k_asm) (by assumption) (by first | decide | rfl) (by first | rfl | decide) (by first | size_fits | exact Nat.le_of_ble_eq_true rfl) ?_; intro g'; lcg_lit)))
   trivial
 example : True := by
   k_with "CompRest" => ((have gm := mkP15; clear gm); (with_unfolding_all first
  | (refine LCg.CompRest.succ ?_; intro v' I' oI' C' oC' D' m' h' tk' E' hv' hC' hx' F' N' off9' ne'; (first | lcg_open hv' | (obtain ⟨t9', hv9'⟩ := hv'; subst hv9')); have off' := off9'; (try simp only [LCg.Off3, and_true] at off'); (try dsimp only))
  | refine LCg.CompRest.zero ?_))
   trivial
 example : True := by
   k_with "CompEnd" => ((have gm := mkP15; clear gm); ((try dsimp only); (rename LCg.Off3 _ _ _ _ => o9_P15x44); (rename News _ _ _ _ => n9_P15x44); (rename Fr _ _ _ _ => f9_P15x44); refine' LCg.CompEnd.intro f9_P15x44 n9_P15x44 _ ?z9cd o9_P15x44 trivial ?_; (case z9cd => lcg_sub); clear o9_P15x44; (try ((rename (_ ≠ _ ∧ _) ∧ _ => z_P15x44); clear z_P15x44)); (try ((rename _ ≠ _ ∧ _ ≠ _ ∧ _ ≠ _ => z_P15x44); clear z_P15x44))))
   trivial
 example : True := by
   k_with "eval BoolOp" => ((have gm := mkP15; clear gm); (k_here; refine' or_J ?z9h1 ?z9h2 ?_; (case z9h1 => (intro Q' hQ'; k_steps; exact hQ' _)); (case z9h2 => (intro tk' Q' hQ'; k_steps; exact hQ' _)); intro tk'; (try dsimp only)))
   trivial
theorem takes_ok (y r x : PySem.Str) (tx ty : Tok) (hl : x.length ≤ 40) (hy : y.length = 19) (hr : r.length = 3) (hsl : Txt.slice y (some 10) (some 13) = r) (hne : (y != PySem.Str.ofString "(?s:(?>.*?" ++ r ++ PySem.Str.ofString ").*)\\Z") = false)
    (hset : ∀ (i s : Nat), r.cps[i]? = some s → (Builtin.Str.occurrences (PySem.Str.ofString "=.0123456789ABCDEF") ⟨#[s]⟩ 0 (PySem.Str.ofString "=.0123456789ABCDEF").length 1).isEmpty = false) :
    Cg 3 prog w p loose mean mg mb 246 [.str y tx, .str x ty] (fun _ => True) (fun v add => add = [] ∧ v = .bool (takesB r x)) := by
  intro dp un gd fr g gens dr tk os Q E hd hu X T _ hret
  have mkP15 : True := trivial
  have e1 : (PySem.Str.ofString "(?s:(?>.*?").length = 10 := rfl
  have e2 : (PySem.Str.ofString ").*)\\Z").length = 6 := rfl
  k_dflt (refine' call_C (binds := [(PySem.Str.ofString "text", .str y tx), (PySem.Str.ofString "place", .str x ty)]) ?k1 ?k2 ?k6 ?k7 ?k8 ?k9 ?kB ?kD ?_ ?c2 ?c3 ?c4; (case k1 => k_asm); (case k2 => exact Top.nolimit (by k_asm)); (case k6 => k_is); (case k7 => k_is); (case k8 => (show _ < 1000; tb_start)); (case k9 => exact BindsTo.of_eq rfl); (case kB => exact rfl); (case kD => decide +kernel); (case c2 => exact rfl); (case c3 => exact rfl); (case c4 => exact rfl); k_whole)
  intro L' h₁ tk₁ cells F₁ N₁ Y₁
  k_cells Y₁
  rename_i o1 o2 o3 d1 d2 d3
  replace d1 : o1.data = Data.cell none := d1
  replace d2 : o2.data = Data.cell none := d2
  replace d3 : o3.data = Data.cell (some (.str x ty)) := d3
  replace F₁ : Fr g L' h₁ (fun z => if z = PySem.Str.ofString "text" then some (.str y tx) else none) := F₁
  (try simp only [List.cons_append, List.nil_append] at N₁)
  (try dsimp only)
  (try k_fold)
  k_steps
  any_goals (exfalso; omega)
  all_goals first
    | ((rename List.isEmpty _ = true => hE'); (rename _ = some (_ : Nat) => hS'); exact Bool.noConfusion (hE'.symm.trans (hset _ _ hS')))
    | ((rename List.isEmpty _ = false => hE'); (rename Fr _ _ _ _ => lF); (rename News _ _ _ _ => lN); exact ⟨(), _, _, _, _, rfl, lF, lN, sub3, (by intro z hz; have hz' := not_in1 hz; dsimp only; rw [if_neg hz', if_neg hz']), trivial⟩)
    | ((rename (_ && (_ && _)) = true => hT'); have hT2 : fitB r x _ = true := hT'; (show Dn _ _ _ _ _); exact Dn.intro (by k_asm) (hret _ [] _ _ ⟨rfl, congrArg Value.bool (takes_hit (by assumption) hT2).symm⟩ (by exact Fr.keep (by k_asm)) (by simp)))
    | ((rename (_ && (_ && _)) = false => hT'); (rename Obj.data _ = _ => hD'); (rename Fr _ _ _ _ => lF); (rename News _ _ _ _ => lN); exact ⟨_, _, _, _, _, rfl, lF, lN, (by kcj_all), (fun _ _ => rfl), fit_next hD' (by assumption) hT'⟩)
    | ((show Dn _ _ _ _ _); exact Dn.intro (by k_asm) (hret _ [] _ _ ⟨rfl, congrArg Value.bool (takes_miss (by assumption)).symm⟩ (by exact Fr.keep (by k_asm)) (by simp)))
end

/-! ## res.append, kept under a name -/
theorem app_id : (toString "list" ++ toString "." ++ toString (PySem.Str.toString ⟨#[97, 112, 112, 101, 110, 100]⟩)) = "list.append" := by decide +kernel
def boundA (D : Addr) : Obj := { cls := .type "builtin_function_or_method", data := .fields #[.builtin "list.append", .ref D] }
section
 local macro_rules | `(tactic| x_close) => do let h := Lean.mkIdent `hret; `(tactic| ((rename Mem _ _ _ _ => hM'); have hM2' := hM'.nw _ (List.mem_cons_self ..); (try rw [app_id] at hM2'); exact $h _ _ _ (fun b o e => hM'.keep b o e (by show (_ || true) = true; rw [Bool.or_true])) hM2'.1 hM2'.2))
theorem xget {prog : Program} {w : World} {fr gd} {hp : Heap} {g : Array GenState} {d : Drawn} {k n : Nat} {t : Tok} {os : OsState} {vs : Array Value} {D : Addr} {Q E : Value → Shared → Prop} (ho : hp.get? D = some { cls := .type "list", data := .seq vs n })
   (_K : (hd.heap_39 w.params).In hp) (hret : ∀ x h' tk, (∀ b o, hp.get? b = some o → h'.get? b = some o) → h'.get? x = some (boundA D) → hp.get? x = none → Q (.ref x) ⟨h', g, d, tk, os⟩) :
   wpAny (model prog w) { handled := none, depth := 400, frames := fr, guards := gd, units := 1000 } (call (.builtin "list.__getattribute__") [.ref D, .str (PySem.Str.ofString "append") t]) Q E ⟨hp, g, d, k, os⟩ := by
  x_run
end
section
variable {prog : Program} {w : World} {A : Around} {E : Value → Shared → Prop} {h₀ h : Heap} {gens : Array GenState} {dr : Drawn} {tk : Nat} {os : OsState} {L D : Addr} {m : PySem.Str → Option Value} {news : List (Addr × Obj)}
theorem off1_of {x : Addr} : ∀ {l : List (Addr × Obj)}, (∀ p ∈ l, @Ne Nat p.1 x) → LCg.Off1 x l
  | [], _ => trivial
  | _ :: _, h => ⟨h _ (List.mem_cons_self ..), off1_of fun p hp => h p (List.mem_cons_of_mem _ hp)⟩
theorem get_append {vs : Array Value} {n : Nat} {Q : Value → Shared → Prop} (F : Fr h₀ L h m) (X : (hd.heap_39 w.params).In h₀) (N : News h₀ L h news) (hm : (D, W.listOf vs n) ∈ news) (hA : A.handled = none) (hd' : A.depth ≤ 400) (hu : A.units ≤ 1000)
    (ret : ∀ x h' tk', Fr h₀ L h' m → News h₀ L h' ((x, boundA D) :: news) → LCg.Off1 x news → Q (.ref x) ⟨h', gens, dr, tk', os⟩) :
    wpAny (model prog w) A (getAttr (.ref D) (PySem.Str.ofString "append") true) Q E ⟨h, gens, dr, tk, os⟩ := by
  have hx := (N _ hm).1
  have hT : ∀ tk', (⟨h, gens, dr, tk', os⟩ : Shared).TypeIs (.ref D) "list" := fun _ => ⟨_, hx, rfl⟩
  have f3 := PySem.F.slot_list_getattribute.lookup
  have f4 := PySem.F.slot_list_getattribute.bind (.ref D)
  unfold getAttr getAttrBy
  repeat (any_goals (first | assumption | exact hT _ | ((with_reducible show wpAny _ _ (call (Value.builtin "list.__getattribute__") _ _) _ _ _); refine wp_room hA hd' hu (xget hx (X.keeps F.keep) fun x h' tk' hk hx' hn => ?_)) | wp_step))
  have off : ∀ p ∈ news, @Ne Nat p.1 x := fun p hp e => by
    have := (N p hp).1
    rw [e, hn] at this
    cases this
  have hL := F.ns
  obtain ⟨oL, es, ep, hL, hr⟩ := hL
  have hxL : x ≠ L := fun e => by rw [e, hL] at hn; cases hn
  have hx0 : h₀.get? x = none := by
    cases e : h₀.get? x with
    | none => rfl
    | some o => rw [F.keep _ _ e] at hn; cases hn
  refine ret x h' tk' ⟨⟨oL, es, ep, hk _ _ hL, hr⟩, fun b o e => hk _ _ (F.keep b o e), F.above⟩ (fun p hp => ?_) (off1_of off)
  rcases List.mem_cons.mp hp with rfl | hp
  · exact ⟨hx', hxL, hx0⟩
  · exact ⟨hk _ _ (N p hp).1, (N p hp).2⟩
def StandsB (x D : Addr) (h : Heap) : Prop := h.get? x = some (boundA D)
theorem quiet_app {as : Args} : (Code.builtin "list.append" as).quiet = true := Code.quiet_builtin _ (by decide +kernel)
theorem check_app {its : Array Value} {n : Nat} {v : Value} {Q : Unit → Shared → Prop} {s : Shared} (ho : s.heap.get? D = some { cls := .type "list", data := .seq its n }) (h : Q () s) :
    wpAny (model prog w) A (checkBoundCall "list.append" ⟨[.ref D, v], []⟩) Q E s := by
  have hT : s.TypeIs (.ref D) "list" := ⟨_, ho, rfl⟩
  unfold checkBoundCall
  repeat (any_goals (first | assumption | wp_step))
  refine wpAny_of_eq (a := false) (by rw [isSubtype_type]; kernel_rfl) ?_
  have e1 : Manifest.varargsMethods.contains "list.append" = false := by decide +kernel
  rw [e1]
  refine KFB.if_not rfl ?_
  unfold isType
  refine wpAny_bind ?_
  repeat (any_goals (first | assumption | wp_step))
theorem tree_app {its : Array Value} {n : Nat} {v : Value} {P : Fin → Shared → Prop} {s : Shared} (ho : s.heap.get? D = some { cls := .type "list", data := .seq its n }) (hsz : its.size ≤ 200000)
    (h : ∀ h', Heap.SameBut D s.heap h' → h'.get? D = some { cls := .type "list", data := .seq (its.push v) (n + 1) } → P (.done (.ret .none)) { s with heap := h' }) :
    wpAny (model prog w) A (Builtin.«list.append» ⟨[.ref D, v], []⟩) P E s := by
  show wpAny _ _ (updateSeq D (·.push v) >>= fun _ => ret .none) _ _ s
  refine wpAny_bind ?_
  have hs1 : its.size ≤ sizeLine := by rw [sizeLine_eq]; omega
  refine wpAny_updateSeq ho rfl (wpAny_pure (h _ (Heap.SameBut.update ..) ?_))
  rw [Heap.get?_update_self _ ho (by rw [mapSeq_push]; rfl), mapSeq_push]
theorem call_app {its : Array Value} {n : Nat} {v : Value} {x : Addr} {Q : Value → Shared → Prop} {s : Shared} (hx : StandsB x D s.heap) (ho : s.heap.get? D = some { cls := .type "list", data := .seq its n }) (hsz : its.size ≤ 200000)
    (h : ∀ h', Heap.SameBut D s.heap h' → h'.get? D = some { cls := .type "list", data := .seq (its.push v) (n + 1) } → Q .none { s with heap := h' }) :
    wpAny (model prog w) A (call (.ref x) [v]) Q E s := by
  refine wpAny_call (codeAny_of_tree ?_)
  show wpAny _ A.in1 (callAny (.ref x) ⟨[v], []⟩) _ _ s
  simp only [callAny]
  refine wpAny_bind (wpAny_load hx ?_)
  simp only [boundA, show (Value.type "builtin_function_or_method" == Value.type "method" || Value.type "builtin_function_or_method" == Value.type "builtin_function_or_method" || Value.type "builtin_function_or_method" == Value.type "method-wrapper") = true by decide, if_true]
  refine KFB.if_so (by decide) ?_
  refine wpAny_bind (check_app ho ?_)
  refine wpAny_bind (wpAny_pure (wpAny_pure ?_))
  exact ⟨quiet_app, codeAny_builtin entry_list_append (tree_app ho hsz fun h' a b => h h' a b)⟩
theorem call_addS {us : List Value} {n : Nat} {v : Value} {x : Addr} {news' : List (Addr × Obj)} {Q : Value → Shared → Prop} {s : Shared} (F : Fr h₀ L s.heap m) (N : News h₀ L s.heap news) (hm : (x, boundA D) ∈ news) (U : Upd D (W.listOf us.toArray n) (W.listOf (us ++ [v]).toArray (n + 1)) news news') (hz : us.length ≤ 200000)
    (h : ∀ h', Fr h₀ L h' m → News h₀ L h' news' → Q .none { s with heap := h' }) : wpAny (model prog w) A (call (.ref x) [v]) Q E s := by
  rw [← List.push_toArray] at U
  obtain ⟨pre, post, rfl, rfl, a, b⟩ := U.split
  have z := N (D, W.listOf us.toArray n) (List.mem_append.mpr (.inr (.head _)))
  exact call_app (N _ hm).1 z.1 (by rw [List.size_toArray]; omega) fun h' hs ho' => h h' (F.change hs z.2.1 z.2.2) (news_set N a b hs ho')
theorem callWith_app {pos : Pos} {u : Addr} {first : List Value} {args : List (Bool × Sem Value)} {Q : Value → Shared → Prop} {s : Shared} (hplain : args.any (·.1) = false)
    (h : wpAny (model prog w) A (evalArgs (.ref u) true args []) (fun x s₁ => StandsB u D s₁.heap ∧ wpAny (model prog w) A (call (.ref u) (first ++ x.pos) x.kw) Q E s₁) E s) : wpAny (model prog w) A (callWith pos (.ref u) first args []) Q E s := by
  unfold callWith
  refine wpAny_bind (wpAny_holding (wpAny_mono h (fun x s₁ h₁ => wpAny_bind (wpAny_standAt ?_)) fun _ _ x => x))
  obtain ⟨ho, hcall⟩ := h₁
  simp only [hplain, List.any_nil, Bool.or_false]
  refine wpAny_bind (m := keeperOf (.ref u)) ?_
  unfold keeperOf
  refine wpAny_bind (wpAny_load ho ?_)
  simp only [boundA, show (Value.type "builtin_function_or_method" != Value.type "method") = true by decide, show (Value.type "builtin_function_or_method" == Value.type "builtin_function_or_method" || Value.type "builtin_function_or_method" == Value.type "method-wrapper") = true by decide, if_true]
  refine wpAny_pure ?_
  exact wpAny_bind (wpAny_mono hcall (fun r s₂ hr => wpAny_bind (wpAny_holding (wpAny_point (wpAny_pure hr)))) fun _ _ x => x)
theorem callWith_appS {pos : Pos} {u : Addr} {first : List Value} {env : Env} {e : PySem.Expr} {rest : List PySem.Expr} {Q : Value → Shared → Prop} {s : Shared} (_N : News h₀ L s.heap news) (_hm : (u, boundA D) ∈ news)
    (h : wpAny (model prog w) A (spliced (backTo pos (starEach (e :: rest) env))) (fun vs s₁ => StandsB u D s₁.heap ∧ wpAny (model prog w) A (call (.ref u) (first ++ vs)) Q E s₁) E s)
    (he : starEach (e :: rest) env = (false, eval e env) :: starEach rest env := by rfl) (hplain : (backTo pos (starEach rest env)).any (·.1) = false := by rfl) :
    wpAny (model prog w) A (callWith pos (.ref u) first (backTo pos (starEach (e :: rest) env)) []) Q E s := by
  rw [he] at h ⊢
  refine callWith_app (D := D) (by show (false || (backTo pos (starEach rest env)).any (·.1)) = false; rw [hplain]; rfl) ?_
  exact evalArgs_plain h
theorem stands_of {x : Addr} {h : Heap} (N : News h₀ L h news) (hm : (x, boundA D) ∈ news) : StandsB x D h := (N _ hm).1
end
example : True := by
  k_with "getAttr ref" => (k_here; (with_reducible show wpAny _ _ (getAttr (Value.ref _) (PySem.Str.ofString "append") true) _ _ _); k_dflt (refine' get_append ?z9k1 ?z9k2 ?z9k3 ?z9k4 ?z9k5 ?z9k6 ?z9k7 ?_; (case z9k1 => k_asm); (case z9k2 => k_asm); (case z9k3 => k_asm); (case z9k4 => k_mem); (case z9k5 => exact rfl); (case z9k6 => tb_start); (case z9k7 => tb_start)); intro x' h' tk' F' N' o1'; (try simp only [LCg.Off1, and_true] at o1'))
  trivial
example : True := by
  k_with "callWith ref" => (k_here; (with_reducible show wpAny _ _ (callWith _ (Value.ref _) _ (backTo _ (starEach (_ :: _) _)) []) _ _ _); k_dflt (refine' callWith_appS ?z9k1 ?z9k2 ?_; (case z9k1 => k_asm); (case z9k2 => k_mem); k_whole))
  trivial
example : True := by
  k_with "And" => ((with_reducible show StandsB _ _ _ ∧ _); k_dflt (refine ⟨stands_of (by k_asm) (by k_mem), ?_⟩); (try dsimp only [List.nil_append, List.cons_append]))
  trivial
example : True := by
  k_with "call ref" => (k_here; (with_reducible show wpAny _ _ (call (Value.ref _) [_]) _ _ _); k_dflt (refine' call_addS ?z9k1 ?z9k2 ?z9k3 ?z9k4 ?z9k5 ?_; (case z9k1 => k_asm); (case z9k2 => k_asm); (case z9k3 => k_mem); (case z9k4 => k_upd); (case z9k5 => first | omega | exact Nat.le_of_ble_eq_true rfl); k_whole); intro h' F' N'; (try simp only [List.nil_append, List.cons_append] at N'))
  trivial

/-! ## translate -/
section
variable {prog : Program} {w : World} {p : Program} {loose : List PySem.Str} {mean : ExcName → Option Value} {mg mb : PySem.Str → Option Value}
theorem len_L {prog : Program} {w : World} {A : Around} {E : Value → Shared → Prop} {s : Shared} {h₀ : Heap} {L l : Addr} {m : PySem.Str → Option Value} {items : Array Value} {k : Nat} {Q : Value → Shared → Prop} (F : Fr h₀ L s.heap m) (hl : h₀.IsList l items) (hk : items.size = k) (hz : k ≤ 1000)
    (h : ∀ t tk', Q (.int (k : Int) t) { s with toks := tk' }) : wpAny (model prog w) A (call (.builtin "len") [.ref l]) Q E s := by
  subst hk
  exact len_list (hl.at fun o e => F.keep _ _ e) (by omega) (h _ _)
 example : True := by
   k_with "call builtin:len" => ((have gm := mkP17; clear gm); (k_here; (with_reducible show wpAny _ _ (call (Value.builtin "len") [Value.ref _]) _ _ _); k_dflt (refine' len_L (k := 5) ?z9k1 ?z9k2 ?z9k3 ?z9k4 ?_; (case z9k1 => k_asm); (case z9k2 => assumption); (case z9k3 => exact rfl); (case z9k4 => decide)); intro t' tk'))
   trivial
theorem item_L {prog : Program} {w : World} {A : Around} {E : Value → Shared → Prop} {s : Shared} {h₀ : Heap} {L l : Addr} {m : PySem.Str → Option Value} {items : Array Value} {k : Int} {u : Tok} {v : Value} {value slice : PySem.Expr} {Q : Value → Shared → Prop} (F : Fr h₀ L s.heap m) (hl : h₀.IsList l items) (h0 : 0 ≤ k) (hhi : k < 2 ^ 63) (hx : items[k.toNat]? = some v) (h : Q v s)
    (hs : subscripted slice false (.ref l) (.int k u) = operate [.ref l, .int k u] (getItem (.ref l) (.int k u)) := by with_unfolding_all rfl) :
    wpAny (model prog w) A (subscriptTail value slice (.ref l) (.int k u)) Q E s := by
  have hl' : s.heap.IsList l items := hl.at fun o e => F.keep _ _ e
  exact tail_any hl'.typeIs slot_list_getitem.lookup (wpAny_getItem_list hl' h0 hhi hx h) hs
 example : True := by
   k_with "subscriptTail Name Name ref int" => ((have gm := mkP17; clear gm); (k_here; k_dflt (refine' item_L ?z9k1 ?z9k2 ?z9k3 ?z9k4 ?z9k5 ?_; (case z9k1 => k_asm); (case z9k2 => assumption); (case z9k3 => decide); (case z9k4 => decide); (case z9k5 => first | exact (rfl : (_ : Option Value) = some (Value.ref _)) | exact (rfl : (_ : Option Value) = some (Value.str _ _))))))
   trivial
 example : True := by
   k_with "compareOp IsNot str ref" => ((have gm := mkP17; clear gm); (k_here; refine wpAny_isNot_other (by rfl) (by intro x; cases x) ?_))
   trivial
 example : True := by
   k_with "compareOp Is str ref" => ((have gm := mkP17; clear gm); (k_here; refine wpAny_is_other (by rfl) (by intro x; cases x) ?_))
   trivial
 example : True := by
   k_with "exec While" => ((have gm := mkP17; clear gm); (k_here; (try dsimp only); k_dflt (refine whl_start 100 ?_)))
   trivial
 example : True := by
   k_with "exec While Compare" => ((have gm := mkP17; clear gm); (k_here; (try dsimp only); k_dflt (refine whl_start 100 ?_)))
   trivial
 example : True := by
   k_with "exec While BoolOp" => ((have gm := mkP17; clear gm); (k_here; (try dsimp only); k_dflt (refine whl_start 100 ?_)))
   trivial
theorem join_S {prog : Program} {w : World} {A : Around} {E : Value → Shared → Prop} {s : Shared} {D : Addr} {items : Array Value} {ys : List PySem.Str} {t : Tok} {Q : Value → Shared → Prop} (hl : s.heap.IsList D items) (hi : StrsAre items.toList ys) (hw : (ys.map (·.length)).sum + ys.length ≤ 1000)
    (h : ∀ t' k, (Txt.join (PySem.Str.ofString "") ys).length ≤ 1000 → Q (.str (Txt.join (PySem.Str.ofString "") ys) t') { s with toks := k }) : wpAny (model prog w) A (call (.builtin "str.join") [.str (PySem.Str.ofString "") t, .ref D]) Q E s :=
  join_listW hl hi (by decide) (by omega) fun t' k => h t' k (by
    have := StrLaws.join_length_le (PySem.Str.ofString "") ys
    have e : (PySem.Str.ofString "").length = 0 := rfl
    rw [← StrLaws.glued_eq_join, e] at this
    unfold Txt.join
    omega)
 example : True := by
   k_with "call builtin:str.join" => ((have gm := mkP17; clear gm); (k_here; k_dflt (refine join_S (by is_list) (StrsAre.cons _ _ (StrsAre.cons _ _ StrsAre.nil)) (by (simp only [List.map_cons, List.map_nil, List.sum_cons, List.sum_nil, List.length_cons, List.length_nil, Str.length_append]; have e1 : (PySem.Str.ofString "(?>.*?").length = 6 := rfl; have e2 : (PySem.Str.ofString ")").length = 1 := rfl; have e3 : (PySem.Str.ofString ".*").length = 2 := rfl; have e4 : Str.empty.length = 0 := rfl; omega)) ?_); intro t' tk' hl'; simp only [Str.empty_append] at hl'))
   trivial
 example : True := by
   k_with "storeName" => ((have gm := mkP17; clear gm); (dsimp only; walk_at "storeName"))
   trivial
 example : True := by
   k_with "joinParts" => ((have gm := mkP17; clear gm); (k_here; (first | (with_reducible show wpAny _ _ (joinParts _ []) _ _ _) | (with_reducible show wpAny _ _ (joinParts _ (evalEach [] _)) _ _ _)); k_dflt (refine' joinParts_nil ?_ ?z9jl; (case z9jl => (simp only [Str.length_append, Str.empty_append]; have e1 : (PySem.Str.ofString "(?s:").length = 4 := rfl; have e2 : (PySem.Str.ofString ")\\Z").length = 3 := rfl; have e3 : (PySem.Str.ofString "(?>.*?").length = 6 := rfl; have e4 : Str.empty.length = 0 := rfl; have e5 : (PySem.Str.ofString ")").length = 1 := rfl; (try simp only [sizeLine_eq]); omega)))))
   trivial
def resT (x1 x2 x3 : PySem.Str) : PySem.Str := Str.empty ++ PySem.Str.ofString "(?s:" ++ Txt.join (PySem.Str.ofString "") [PySem.Str.ofString "(?>.*?" ++ Txt.join (PySem.Str.ofString "") [x1, x2, x3] ++ PySem.Str.ofString ")", PySem.Str.ofString ".*"] ++ PySem.Str.ofString ")\\Z"
theorem jtp_ok (x1 x2 x3 : PySem.Str) (t1 t2 t3 : Tok) (aI aS : Addr) (n : Nat) (h1 : x1.length = 1) (h2 : x2.length = 1) (h3 : x3.length = 1) : Cg 3 prog w p loose mean mg mb 227 [.ref aI, .ref aS] (fun g => g.IsList aI #[.ref aS, .str x1 t1, .str x2 t2, .str x3 t3, .ref aS])
    (fun v add => add = [] ∧ ∃ t, v = .str (resT x1 x2 x3) t) := by
  intro dp un gd fr g gens dr tk os Q E hd hu X T hp hret
  have mkP17 : True := trivial
  k_dflt (refine' call_G (binds := [(PySem.Str.ofString "inp", .ref aI), (PySem.Str.ofString "STAR", .ref aS)]) ?k1 ?k2 ?k6 ?k7 ?k8 ?k9 ?kB ?_ ?c2 ?c3 ?c4 ?c5; (case k1 => k_asm); (case k2 => exact Top.nolimit (by k_asm)); (case k6 => k_is); (case k7 => k_is); (case k8 => (show _ < 1000; tb_start)); (case k9 => exact BindsTo.of_eq rfl); (case c5 => decide); (case kB => exact locs rfl); (case c2 => exact rfl); (case c3 => exact rfl); (case c4 => exact rfl); k_whole)
  intro L' h' tk' F' N'
  replace F' : Fr g L' h' (fun z => if z = PySem.Str.ofString "inp" then some (.ref aI) else if z = PySem.Str.ofString "STAR" then some (.ref aS) else none) := by
    have e : (fun y => ([(PySem.Str.ofString "inp", Value.ref aI), (PySem.Str.ofString "STAR", Value.ref aS)] : List (PySem.Str × Value)).reverse.lookup y) = (fun z => if z = PySem.Str.ofString "inp" then some (.ref aI) else if z = PySem.Str.ofString "STAR" then some (.ref aS) else none) := by
      funext z
      by_cases h1 : z = PySem.Str.ofString "STAR"
      · subst h1; rfl
      · by_cases h2 : z = PySem.Str.ofString "inp"
        · subst h2; rfl
        · have b1 : (z == PySem.Str.ofString "STAR") = false := beq_eq_false_iff_ne.mpr h1
          have b2 : (z == PySem.Str.ofString "inp") = false := beq_eq_false_iff_ne.mpr h2
          simp [List.lookup, h1, h2, b1, b2]
    rw [← e]
    exact F'
  (try k_fold)
  have hj : (Txt.join (PySem.Str.ofString "") [x1, x2, x3]).length ≤ 3 := by
    have := StrLaws.join_length_le (PySem.Str.ofString "") [x1, x2, x3]
    have e : (PySem.Str.ofString "").length = 0 := rfl
    rw [← StrLaws.glued_eq_join, e] at this
    simp only [List.map_cons, List.map_nil, List.sum_cons, List.sum_nil, h1, h2, h3] at this
    exact this
  k_steps
  all_goals first
    | ((show Dn _ _ _ _ _); exact Dn.intro (by k_asm) (hret _ [] _ _ ⟨rfl, _, rfl⟩ (by exact Fr.keep (by k_asm)) (by simp)))
end

/-! ## _translate -/
theorem item_Y {prog : Program} {w : World} {A : Around} {E : Value → Shared → Prop} {s : Shared} {y v : PySem.Str} {k : Int} {t u : Tok} {value slice : PySem.Expr} {Q : Value → Shared → Prop} (hx : Txt.item y k = v) (hz : y.length = 5) (h0 : 0 ≤ k) (h5 : k < 5) (h : ∀ t tk', Q (.str v t) { s with toks := tk' })
    (hs : subscripted slice false (.str y t) (.int k u) = operate [.str y t, .int k u] (getItem (.str y t) (.int k u)) := by with_unfolding_all rfl)
    (ht : ∀ r, letTemporaryGo value (.str y t) r = pure () := by intro _; with_unfolding_all rfl) :
    wpAny (model prog w) A (subscriptTail value slice (.str y t) (.int k u)) Q E s := by
  subst hx
  exact item_str (fitsSsize_of (N := 9223372036854775808) (by omega) (by omega) (Int.le_refl _)) (by omega) (by omega) (fun _ => h _ _) hs ht
theorem eq_chr {c d : Nat} (h : c ≠ d) : ((⟨#[c]⟩ : PySem.Str) == ⟨#[d]⟩) = false := by
  rw [beq_eq_false_iff_ne]
  intro e
  injection e with e
  injection e with e
  exact h (List.cons.inj e).1
theorem len_Y {prog : Program} {w : World} {A : Around} {E : Value → Shared → Prop} {s : Shared} {y : PySem.Str} {t : Tok} {Q : Value → Shared → Prop} (hz : y.length = 5) (h : ∀ t tk', Q (.int 5 t) { s with toks := tk' }) : wpAny (model prog w) A (call (.builtin "len") [.str y t]) Q E s := by
  have e : ((y.length : Nat) : Int) = 5 := by omega
  refine len_str (by omega) ?_
  rw [e]
  exact h _ _
theorem own_in {g h : Heap} {L : Addr} {news : List (Addr × Obj)} {a : Addr × Obj} (N : News g L h news) (hm : a ∈ news) : ∀ q ∈ [a], h.get? q.1 = some q.2 ∧ g.get? q.1 = none := fun q hq => by
  rw [List.mem_singleton.mp hq]
  exact ⟨(N _ hm).1, (N _ hm).2.2⟩
section
variable {prog : Program} {w : World} {p : Program} {loose : List PySem.Str} {mean : ExcName → Option Value} {mg mb : PySem.Str → Option Value}
 example : True := by
   k_with "call ref" => ((have gm := mkP18; clear gm); (k_here; (with_reducible show wpAny _ _ (call (Value.ref 213) _) _ _ _); k_dflt (refine' Cg.use (escape_ok _ _ ?z9kc) ?z9k1 ?z9k2 ?z9k3 ?z9k4 ?z9k6 ?z9k7 ?z9k8 ?_; (case z9kc => first | assumption | decide); (case z9k1 => k_asm); (case z9k2 => k_asm); (case z9k3 => k_asm); (case z9k4 => k_asm); (case z9k6 => tb_start); (case z9k7 => tb_start); (case z9k8 => trivial)); intro v' add' h' tk' hv' F' N'; obtain ⟨ha', t', hv'⟩ := hv'; subst hv'; subst ha'; simp only [List.nil_append] at N'; (try k_sweep)))
   trivial
 example : True := by
   k_with "subscriptTail Name Name str int" => ((have gm := mkP18; clear gm); (k_here; k_dflt (refine' item_Y ?z9hx hy5 ?z9k1 ?z9k2 ?_; (case z9hx => first | exact hy0 | exact hy1 | exact hy2 | exact hy3 | exact hy4); (case z9k1 => decide); (case z9k2 => decide)); intro t' tk'))
   trivial
 example : True := by
   k_with "call builtin:len" => ((have gm := mkP18; clear gm); (k_here; k_dflt (refine' len_Y hy5 ?_); intro t' tk'))
   trivial
 example : True := by
   k_with "exec While" => ((have gm := mkP18; clear gm); (k_here; (try dsimp only); k_dflt (refine whl_start 100 ?_)))
   trivial
 example : True := by
   k_with "exec While Compare" => ((have gm := mkP18; clear gm); (k_here; (try dsimp only); k_dflt (refine whl_start 100 ?_)))
   trivial
 example : True := by
   k_with "storeName" => ((have gm := mkP18; clear gm); (dsimp only; walk_at "storeName"))
   trivial
 example : True := by
   k_with "compareOp IsNot str ref" => ((have gm := mkP18; clear gm); (k_here; refine wpAny_isNot_other (by rfl) (by intro x; cases x) ?_))
   trivial
theorem trA_ok (y : PySem.Str) (c : Nat) (ty tq : Tok) (aS : Addr) (hc : c ∈ esc8) (hy5 : y.length = 5) (hy0 : Txt.item y 0 = PySem.Str.ofString "*") (hy1 : Txt.item y 1 = ⟨#[61]⟩) (hy2 : Txt.item y 2 = ⟨#[c]⟩) (hy3 : Txt.item y 3 = PySem.Str.ofString "?") (hy4 : Txt.item y 4 = PySem.Str.ofString "*")
    (e1 : ((⟨#[c]⟩ : PySem.Str) == PySem.Str.ofString "*") = false) (e2 : ((⟨#[c]⟩ : PySem.Str) == PySem.Str.ofString "?") = false) (e3 : ((⟨#[c]⟩ : PySem.Str) == PySem.Str.ofString "[") = false) :
    Cg 3 prog w p loose mean mg mb 220 [.str y ty, .ref aS, .str (PySem.Str.ofString ".") tq] (fun _ => True)
    (fun v add => ∃ a n t1 t2 t3, v = .ref a ∧ add = [(a, W.listOf #[.ref aS, .str ⟨#[61]⟩ t1, .str ⟨#[c]⟩ t2, .str (PySem.Str.ofString ".") t3, .ref aS] n)]) := by
  intro dp un gd fr g gens dr tk os Q E hd hu X T hp hret
  have mkP18 : True := trivial
  have e4 : (PySem.Str.ofString "*").length = 1 := rfl
  k_dflt ktr_rel
  k_steps
  all_goals first
    | ((show Dn _ _ _ _ _); (rename News _ _ _ _ => lN); exact Dn.intro (by k_asm) (hret _ _ _ _ ⟨_, _, _, _, _, rfl, rfl⟩ (by exact Fr.keep (by k_asm)) (own_in lN (.tail _ (.tail _ (.head _))))))
theorem trB_ok (y : PySem.Str) (c : Nat) (ty tq : Tok) (aS : Addr) (hc : c ∈ esc8) (hy5 : y.length = 5) (hy0 : Txt.item y 0 = PySem.Str.ofString "*") (hy1 : Txt.item y 1 = ⟨#[61]⟩) (hy2 : Txt.item y 2 = PySem.Str.ofString "?") (hy3 : Txt.item y 3 = ⟨#[c]⟩) (hy4 : Txt.item y 4 = PySem.Str.ofString "*")
    (e1 : ((⟨#[c]⟩ : PySem.Str) == PySem.Str.ofString "*") = false) (e2 : ((⟨#[c]⟩ : PySem.Str) == PySem.Str.ofString "?") = false) (e3 : ((⟨#[c]⟩ : PySem.Str) == PySem.Str.ofString "[") = false) :
    Cg 3 prog w p loose mean mg mb 220 [.str y ty, .ref aS, .str (PySem.Str.ofString ".") tq] (fun _ => True)
    (fun v add => ∃ a n t1 t2 t3, v = .ref a ∧ add = [(a, W.listOf #[.ref aS, .str ⟨#[61]⟩ t1, .str (PySem.Str.ofString ".") t2, .str ⟨#[c]⟩ t3, .ref aS] n)]) := by
  intro dp un gd fr g gens dr tk os Q E hd hu X T hp hret
  have mkP18 : True := trivial
  have e4 : (PySem.Str.ofString "*").length = 1 := rfl
  k_dflt ktr_rel
  k_steps
  all_goals first
    | ((show Dn _ _ _ _ _); (rename News _ _ _ _ => lN); exact Dn.intro (by k_asm) (hret _ _ _ _ ⟨_, _, _, _, _, rfl, rfl⟩ (by exact Fr.keep (by k_asm)) (own_in lN (.tail _ (.tail _ (.head _))))))
end

/-! ## object(), translate -/
section
 local macro_rules | `(tactic| x_close) => do let h := Lean.mkIdent `hret; `(tactic| ((rename Mem _ _ _ _ => hM'); have hM2' := hM'.nw _ (List.mem_cons_self ..); exact $h _ _ _ _ (fun b o e => hM'.keep b o e (by show (_ || true) = true; rw [Bool.or_true])) hM2'.1 hM2'.2))
theorem xobj {prog : Program} {w : World} {fr gd} {hp : Heap} {g : Array GenState} {d : Drawn} {k : Nat} {os : OsState} {Q E : Value → Shared → Prop}
   (_K : (hd.heap_39 w.params).In hp) (hret : ∀ x o h' tk, (∀ b o, hp.get? b = some o → h'.get? b = some o) → h'.get? x = some o → hp.get? x = none → Q (.ref x) ⟨h', g, d, tk, os⟩) :
   wpAny (model prog w) { handled := none, depth := 400, frames := fr, guards := gd, units := 1000 } (call (.type "object") []) Q E ⟨hp, g, d, k, os⟩ := by
  x_run
end
theorem new_news {h₀ h h' : Heap} {L x : Addr} {m : PySem.Str → Option Value} {news : List (Addr × Obj)} {o : Obj} (F : Fr h₀ L h m) (N : News h₀ L h news) (hk : ∀ b o, h.get? b = some o → h'.get? b = some o) (hx : h'.get? x = some o) (hn : h.get? x = none) :
    Fr h₀ L h' m ∧ News h₀ L h' ((x, o) :: news) ∧ LCg.Off1 x news := by
  have off : ∀ p ∈ news, @Ne Nat p.1 x := fun p hp e => by
    have := (N p hp).1
    rw [e, hn] at this
    cases this
  have hL := F.ns
  obtain ⟨oL, es, ep, hL, hr⟩ := hL
  have hxL : x ≠ L := fun e => by rw [e, hL] at hn; cases hn
  have hx0 : h₀.get? x = none := by
    cases e : h₀.get? x with
    | none => rfl
    | some o => rw [F.keep _ _ e] at hn; cases hn
  refine ⟨⟨⟨oL, es, ep, hk _ _ hL, hr⟩, fun b o e => hk _ _ (F.keep b o e), F.above⟩, (fun p hp => ?_), (off1_of off)⟩
  rcases List.mem_cons.mp hp with rfl | hp
  · exact ⟨hx, hxL, hx0⟩
  · exact ⟨hk _ _ (N p hp).1, (N p hp).2⟩
theorem obj_S {prog : Program} {w : World} {A : Around} {E : Value → Shared → Prop} {h₀ h : Heap} {gens : Array GenState} {dr : Drawn} {tk : Nat} {os : OsState} {L : Addr} {m : PySem.Str → Option Value} {news : List (Addr × Obj)} {Q : Value → Shared → Prop} (F : Fr h₀ L h m) (X : (hd.heap_39 w.params).In h₀) (N : News h₀ L h news) (hA : A.handled = none) (hd' : A.depth ≤ 400) (hu : A.units ≤ 1000)
    (ret : ∀ x o h' tk', Fr h₀ L h' m → News h₀ L h' ((x, o) :: news) → LCg.Off1 x news → Q (.ref x) ⟨h', gens, dr, tk', os⟩) :
    wpAny (model prog w) A (call (.type "object") []) Q E ⟨h, gens, dr, tk, os⟩ :=
  wp_room hA hd' hu (xobj (X.keeps F.keep) fun x o h' tk' hk hx hn => ret x o h' tk' (new_news F N hk hx hn).1 (new_news F N hk hx hn).2.1 (new_news F N hk hx hn).2.2)
section
variable {prog : Program} {w : World} {p : Program} {loose : List PySem.Str} {mean : ExcName → Option Value} {mg mb : PySem.Str → Option Value}
 example : True := by
   k_with "call ref" => ((have gm := mkP19; clear gm); (k_here; (with_reducible show wpAny _ _ (call (Value.ref 220) _) _ _ _); k_dflt (refine' Cg.use (C _ _) ?z9k1 ?z9k2 ?z9k3 ?z9k4 ?z9k6 ?z9k7 ?z9k8 ?_; (case z9k1 => k_asm); (case z9k2 => k_asm); (case z9k3 => k_asm); (case z9k4 => k_asm); (case z9k6 => tb_start); (case z9k7 => tb_start); (case z9k8 => trivial)); intro v' add' h' tk' hv' F' N'; obtain ⟨a', n', t1', t2', t3', hv', ha'⟩ := hv'; subst hv'; subst ha'; simp only [List.nil_append, List.cons_append] at N'; (try k_sweep)))
   trivial
 example : True := by
   k_with "call ref" => ((have gm := mkP19; clear gm); (k_here; (with_reducible show wpAny _ _ (call (Value.ref 227) _) _ _ _); k_dflt (refine' Cg.use (jtp_ok _ _ _ _ _ _ _ _ 0 h1 h2 h3) ?z9k1 ?z9k2 ?z9k3 ?z9k4 ?z9k6 ?z9k7 ?z9k8 ?_; (case z9k1 => k_asm); (case z9k2 => k_asm); (case z9k3 => k_asm); (case z9k4 => k_asm); (case z9k6 => tb_start); (case z9k7 => tb_start); (case z9k8 => is_list)); intro v' add' h' tk' hv' F' N'; obtain ⟨ha', t', hv'⟩ := hv'; subst hv'; subst ha'; simp only [List.nil_append] at N'; (try k_sweep)))
   trivial
 example : True := by
   k_with "call type:object" => ((have gm := mkP19; clear gm); (k_here; k_dflt (refine' obj_S ?z9k1 ?z9k2 ?z9k3 ?z9k5 ?z9k6 ?z9k7 ?_; (case z9k1 => k_asm); (case z9k2 => k_asm); (case z9k3 => k_asm); (case z9k5 => exact rfl); (case z9k6 => tb_start); (case z9k7 => tb_start)); intro x' o' h' tk' F' N' o1'; (try simp only [LCg.Off1, and_true] at o1')))
   trivial
theorem translate_ok (y x1 x2 x3 : PySem.Str) (ty : Tok) (h1 : x1.length = 1) (h2 : x2.length = 1) (h3 : x3.length = 1)
    (C : ∀ tq aS, Cg 3 prog w p loose mean mg mb 220 [.str y ty, .ref aS, .str (PySem.Str.ofString ".") tq] (fun _ => True)
      (fun v add => ∃ a n t1 t2 t3, v = .ref a ∧ add = [(a, W.listOf #[.ref aS, .str x1 t1, .str x2 t2, .str x3 t3, .ref aS] n)])) :
    Cg 4 prog w p loose mean mg mb 201 [.str y ty] (fun _ => True) (fun v add => add = [] ∧ ∃ t, v = .str (resT x1 x2 x3) t) := by
  intro dp un gd fr g gens dr tk os Q E hd hu X T hp hret
  have mkP19 : True := trivial
  k_dflt ktr_rel
  k_steps
  all_goals first
    | ((show Dn _ _ _ _ _); exact Dn.intro (by k_asm) (hret _ [] _ _ ⟨rfl, _, rfl⟩ (by exact Fr.keep (by k_asm)) (by simp)))
end

/-! ## the contracts as the rest of law wants them -/
theorem dec_all (o : List (Fin 4)) (ho : o.length ≤ 3) : (plT o).length ≤ 100 ∧ 0 < (plT o).length ∧ Txt.lines (plT o) = [plT o] ∧ Txt.rstrip (plT o) = plT o ∧ decP (plT o) (decR o) 0 PySem.Str.empty ∧ Txt.endswith (decR o) (PySem.Str.ofString "\n") = true ∧ (Builtin.Str.occurrences (PySem.Str.ofString "\r\n") (Txt.item (plT o) (-1)) 0 (PySem.Str.ofString "\r\n").length 1).isEmpty = true ∧ Txt.slice (decR o) none (some (-1)) = orDot (bareT o) := by
  have h := of_small dec_small o ho
  unfold decAll at h
  simp only [Bool.and_eq_true, beq_iff_eq, decide_eq_true_eq] at h
  obtain ⟨⟨⟨⟨⟨⟨⟨h1, h2⟩, h3⟩, h4⟩, h5⟩, h6⟩, h7⟩, h8⟩ := h
  exact ⟨h1, h2, oneS_eq h3, leS_eq h4, ⟨Nat.zero_le _, Nat.zero_le _, _, decF3_ok _ _ _ _ _ (isS_eq h5)⟩, h6, h7, leS_eq h8⟩
def placeLen (o : List (Fin 4)) : Bool := decide ((placeT o).length ≤ 40)
theorem place_len (o : List (Fin 4)) (ho : o.length ≤ 3) : (placeT o).length ≤ 40 :=
  of_decide_eq_true (of_small (P := placeLen) (by decide +kernel) o ho)
def patA (k : Fin 4) : PySem.Str := PySem.Str.ofString "*=" ++ Txt.item (PySem.Str.ofString "2345") (k.val : Int) ++ PySem.Str.ofString "?*"
def patB (k : Fin 3) : PySem.Str := PySem.Str.ofString "*=?" ++ Txt.item (PySem.Str.ofString "FEA") (k.val : Int) ++ PySem.Str.ofString "*"
def lvC (k : Fin 3) : Nat := if k.val = 0 then 70 else if k.val = 1 then 69 else 65
section
variable {prog : Program} {w : World} {p : Program} {loose : List PySem.Str} {mean : ExcName → Option Value} {mg mb : PySem.Str → Option Value}
theorem Cg.imp {n : Nat} {f : Addr} {vs : List Value} {pre : Heap → Prop} {R R' : Value → List (Addr × Obj) → Prop} (C : Cg n prog w p loose mean mg mb f vs pre R) (h : ∀ v add, R v add → R' v add) : Cg n prog w p loose mean mg mb f vs pre R' := by
  intro dp un gd fr g gens dr tk os Q E hd hu X T hp hret
  exact C dp un gd fr g gens dr tk os Q E hd hu X T hp fun v add h' tk' hR => hret v add h' tk' (h v add hR)
theorem place_law (aL aU : Addr) (vsL vsU : List Value) {rr : Fin 4 → Nat} (hr : ∀ k, rr k ≤ 3) {us o : List (Fin 4)} (hiL : StrsAre vsL (linksT rr)) (hiU : IntsAre vsU (finInts us)) (hlen : us.length ≤ 40) (ho : fore rr us = o) :
    Cg 5 prog w p loose mean mg mb 241 [.ref aL, .ref aU] (fun g => g.IsList aL vsL.toArray ∧ g.IsList aU vsU.toArray) (fun v add => add = [] ∧ ∃ t, v = .str (plT o) t) := by
  have h := place_ok (prog := prog) (w := w) (p := p) (loose := loose) (mean := mean) (mg := mg) (mb := mb) aL aU vsL vsU (linksT rr) us hiL rfl (linksT_len rr hr) hiU hlen (way_Wy rr hr us).first
  rw [way_norm rr hr us, ho] at h
  exact h
theorem join_law (o q : List (Fin 4)) (tx ty : Tok) (ho : o.length ≤ 3) (hq : q.length ≤ 3) :
    Cg 2 prog w p loose mean mg mb 132 [.str (plT o) tx, .str (plT q) ty] (fun _ => True) (fun v add => add = [] ∧ ∃ t, v = .str (joinT (plT o) (plT q)) t) :=
  join_ok _ _ _ _ (by have := (dec_all o ho).1; have := (dec_all q hq).1; omega)
theorem norm_law (o q : List (Fin 4)) (tx : Tok) (ho : o.length ≤ 3) (hq : q.length ≤ 3) :
    Cg 3 prog w p loose mean mg mb 146 [.str (joinT (plT o) (plT q)) tx] (fun _ => True) (fun v add => add = [] ∧ ∃ t, v = .str (plT (top2 o q)) t) := by
  have h := normpath_c (prog := prog) (w := w) (p := p) (loose := loose) (mean := mean) (mg := mg) (mb := mb) (joinT (plT o) (plT q)) tx (by have := (dec_all o ho).1; have := (dec_all q hq).1; have := joinT_len (plT o) (plT q); omega) (parts_Wy o q).first
  rw [parts_norm o q ho hq] at h
  exact h
theorem decode_law (o : List (Fin 4)) (tx : Tok) (ho : o.length ≤ 3) :
    Cg 3 prog w p loose mean mg mb 189 [.str (plT o) tx] (fun _ => True) (fun v add => add = [] ∧ ∃ t, v = .str (orDot (bareT o)) t) := by
  obtain ⟨h1, h2, h3, h4, h5, h6, h7, h8⟩ := dec_all o ho
  have h := decode_ok (prog := prog) (w := w) (p := p) (loose := loose) (mean := mean) (mg := mg) (mb := mb) (plT o) tx h1 h2 h3 h4 (decR o) h5 h6 h7
  rw [h8] at h
  exact h
theorem trans_A (k : Fin 4) (ty : Tok) : Cg 4 prog w p loose mean mg mb 201 [.str (patA k) ty] (fun _ => True) (fun v add => add = [] ∧ ∃ t, v = .str (txtT 61 (50 + k.val) 46) t) := by
  have hy : (patA k).length = 5 ∧ Txt.item (patA k) 0 = PySem.Str.ofString "*" ∧ Txt.item (patA k) 1 = ⟨#[61]⟩ ∧ Txt.item (patA k) 2 = ⟨#[50 + k.val]⟩ ∧ Txt.item (patA k) 3 = PySem.Str.ofString "?" ∧ Txt.item (patA k) 4 = PySem.Str.ofString "*" ∧ 50 + k.val ∈ esc8 ∧ ((⟨#[50 + k.val]⟩ : PySem.Str) == PySem.Str.ofString "*") = false ∧ ((⟨#[50 + k.val]⟩ : PySem.Str) == PySem.Str.ofString "?") = false ∧ ((⟨#[50 + k.val]⟩ : PySem.Str) == PySem.Str.ofString "[") = false ∧ resT ⟨#[61]⟩ ⟨#[50 + k.val]⟩ (PySem.Str.ofString ".") = txtT 61 (50 + k.val) 46 := by
    revert k; decide +kernel
  obtain ⟨y5, y0, y1, y2, y3, y4, hc, e1, e2, e3, e⟩ := hy
  rw [← e]
  exact translate_ok _ _ _ _ ty rfl rfl rfl fun tq aS => trA_ok _ _ _ _ _ hc y5 y0 y1 y2 y3 y4 e1 e2 e3
theorem trans_B (k : Fin 3) (ty : Tok) : Cg 4 prog w p loose mean mg mb 201 [.str (patB k) ty] (fun _ => True) (fun v add => add = [] ∧ ∃ t, v = .str (txtT 61 46 (lvC k)) t) := by
  have hy : (patB k).length = 5 ∧ Txt.item (patB k) 0 = PySem.Str.ofString "*" ∧ Txt.item (patB k) 1 = ⟨#[61]⟩ ∧ Txt.item (patB k) 2 = PySem.Str.ofString "?" ∧ Txt.item (patB k) 3 = ⟨#[lvC k]⟩ ∧ Txt.item (patB k) 4 = PySem.Str.ofString "*" ∧ lvC k ∈ esc8 ∧ ((⟨#[lvC k]⟩ : PySem.Str) == PySem.Str.ofString "*") = false ∧ ((⟨#[lvC k]⟩ : PySem.Str) == PySem.Str.ofString "?") = false ∧ ((⟨#[lvC k]⟩ : PySem.Str) == PySem.Str.ofString "[") = false ∧ resT ⟨#[61]⟩ (PySem.Str.ofString ".") ⟨#[lvC k]⟩ = txtT 61 46 (lvC k) := by
    revert k; decide +kernel
  obtain ⟨y5, y0, y1, y2, y3, y4, hc, e1, e2, e3, e⟩ := hy
  rw [← e]
  exact translate_ok _ _ _ _ ty rfl rfl rfl fun tq aS => trB_ok _ _ _ _ _ hc y5 y0 y1 y2 y3 y4 e1 e2 e3
theorem setA (k : Fin 4) : Txt.slice (txtT 61 (50 + k.val) 46) (some 10) (some 13) = runA k.val ∧ ∀ s ∈ [61, 50 + k.val, 46], (Builtin.Str.occurrences (PySem.Str.ofString "=.0123456789ABCDEF") ⟨#[s]⟩ 0 (PySem.Str.ofString "=.0123456789ABCDEF").length 1).isEmpty = false := by
  revert k; decide +kernel
theorem setB (k : Fin 3) : Txt.slice (txtT 61 46 (lvC k)) (some 10) (some 13) = runB k.val ∧ ∀ s ∈ [61, 46, lvC k], (Builtin.Str.occurrences (PySem.Str.ofString "=.0123456789ABCDEF") ⟨#[s]⟩ 0 (PySem.Str.ofString "=.0123456789ABCDEF").length 1).isEmpty = false := by
  revert k; decide +kernel
theorem sets_in {a b c : Nat} (h : ∀ s ∈ [a, b, c], (Builtin.Str.occurrences (PySem.Str.ofString "=.0123456789ABCDEF") ⟨#[s]⟩ 0 (PySem.Str.ofString "=.0123456789ABCDEF").length 1).isEmpty = false) (i s : Nat) (hs : (⟨#[a, b, c]⟩ : PySem.Str).cps[i]? = some s) : (Builtin.Str.occurrences (PySem.Str.ofString "=.0123456789ABCDEF") ⟨#[s]⟩ 0 (PySem.Str.ofString "=.0123456789ABCDEF").length 1).isEmpty = false :=
  h s (List.mem_of_getElem? (i := i) (by simpa using hs))
theorem takes_A (o : List (Fin 4)) (ho : o.length ≤ 3) (k : Fin 4) (tx ty : Tok) : Cg 3 prog w p loose mean mg mb 246 [.str (txtT 61 (50 + k.val) 46) tx, .str (placeT o) ty] (fun _ => True) (fun v add => add = [] ∧ v = .bool (decide (k ∈ o))) := by
  have h := of_small take_small o ho
  unfold takeAll at h
  rw [Bool.and_eq_true] at h
  have hk := List.all_eq_true.mp h.1 k (List.mem_finRange k)
  rw [beq_iff_eq, ← takesC_eq rfl] at hk
  rw [← hk]
  have hs := setA k
  exact takes_ok _ _ _ _ _ (place_len o ho) (txtT_len _ _ _) rfl hs.1 (txt_ne _ _ _) fun i s e => sets_in hs.2 i s e
theorem takes_B (o : List (Fin 4)) (ho : o.length ≤ 3) (k : Fin 3) (tx ty : Tok) : Cg 3 prog w p loose mean mg mb 246 [.str (txtT 61 46 (lvC k)) tx, .str (placeT o) ty] (fun _ => True) (fun v add => add = [] ∧ v = .bool (decide (k.val < o.length))) := by
  have h := of_small take_small o ho
  unfold takeAll at h
  rw [Bool.and_eq_true] at h
  have hk := List.all_eq_true.mp h.2 k.val (List.mem_range.mpr k.isLt)
  rw [beq_iff_eq, ← takesC_eq rfl] at hk
  rw [← hk]
  have hs := setB k
  exact takes_ok _ _ _ _ _ (place_len o ho) (txtT_len _ _ _) rfl hs.1 (txt_ne _ _ _) fun i s e => sets_in hs.2 i s e
end
/-! texts and truths that are the same -/
section
variable {prog : Program} {w : World} {A : Around} {E : Value → Shared → Prop} {s : Shared} {Q : Value → Shared → Prop}
theorem ne_same {x y : PySem.Str} {t u : Tok} (e : x = y) (h : Q (.bool false) s) : wpAny (model prog w) A (compareOp .NotEq (.str x t) (.str y u)) Q E s := by
  subst e
  refine ne_str ?_
  rw [bne_self_eq_false]
  exact h
theorem ne_sameB {a b : Bool} (e : a = b) (h : Q (.bool false) s) : wpAny (model prog w) A (compareOp .NotEq (.bool a) (.bool b)) Q E s := by
  subst e
  refine ne_bool ?_
  rw [bne_self_eq_false]
  exact h
variable {env : Env} {h : Heap} {gens : Array GenState} {dr : Drawn} {tk : Nat} {os : OsState}
theorem or_D {e1 e2 : PySem.Expr} {pos : Pos} {x y : PySem.Str} {t : Tok} (hx : x.length ≤ 1000) (hy : orDot x = y)
    (h1 : ∀ Q' : Value → Shared → Prop, (∀ tk', Q' (.str x t) ⟨h, gens, dr, tk', os⟩) → wpAny (model prog w) A (eval e1 env) Q' E ⟨h, gens, dr, tk, os⟩)
    (h2 : ∀ (tk : Nat) (Q' : Value → Shared → Prop), (∀ t tk', Q' (.str dt t) ⟨h, gens, dr, tk', os⟩) → wpAny (model prog w) A (eval e2 env) Q' E ⟨h, gens, dr, tk, os⟩)
    (k : ∀ t tk', Q (.str y t) ⟨h, gens, dr, tk', os⟩) : wpAny (model prog w) A (eval (.BoolOp .Or [e1, e2] pos) env) Q E ⟨h, gens, dr, tk, os⟩ := by
  subst hy
  refine wpAny_Or2 (h1 _ fun tk' => P.truthy_str (by omega) ?_)
  unfold orDot at k
  by_cases e : x.length = 0
  · have e' : ((x.length : Int) != 0) = false := by simp [e]
    rw [e']
    rw [if_pos e] at k
    exact h2 _ Q k
  · have e' : ((x.length : Int) != 0) = true := by simp; exact e
    rw [e']
    rw [if_neg e] at k
    exact k _ _
end

/-! ## law -/
def OwnCell (o : Obj) : Prop := o.data = Data.cell none
/-! ## law, second stage -/
theorem fmod4 (x : Int) : 0 ≤ x.fmod 4 ∧ x.fmod 4 < 4 := ⟨Int.fmod_nonneg_of_pos _ (by decide), Int.fmod_lt_of_pos _ (by decide)⟩
/-- the uses -/
def useOf (n : Int) : Fin 4 := ⟨(n.fmod 4).toNat, by have := fmod4 n; omega⟩
theorem useOf_val (n : Int) : (((useOf n).val : Nat) : Int) = n.fmod 4 := by
  have := fmod4 n
  show (((n.fmod 4).toNat : Nat) : Int) = _
  omega
theorem uses_ints {ys : List Value} {ns : List Int} (hc : CarriedAll ys ((ns.filter fun _ => true).map fun a => PyData.int (a.fmod 4))) : IntsAre ys (finInts (ns.map useOf)) := by
  have h := CarriedAll.intsOf (f := fun a : Int => a.fmod 4) hc
  have e : (ns.filter fun _ => true) = ns := by simp
  rw [e] at h
  have e2 : finInts (ns.map useOf) = ns.map fun a => a.fmod 4 := by
    unfold finInts
    rw [List.map_map]
    exact List.map_congr_left fun a _ => useOf_val a
  rw [e2]
  exact h
def usesOf (ns : List Int) : List (Fin 4) := [2, 0, 1, 3] ++ ns.map useOf
theorem add_U {prog : Program} {w : World} {A : Around} {E : Value → Shared → Prop} {s : Shared} {h₀ : Heap} {L a b : Addr} {m : PySem.Str → Option Value} {news : List (Addr × Obj)} {ys : List Value} {ns : List Int} {t0 t1 t2 t3 : Tok} {Q : Value → Shared → Prop} (F : Fr h₀ L s.heap m) (N : News h₀ L s.heap news)
    (ha : s.heap.IsList a [.int 2 t0, .int 0 t1, .int 1 t2, .int 3 t3].toArray) (hb : s.heap.IsList b ys.toArray) (hc : CarriedAll ys ((ns.filter fun _ => true).map fun a => PyData.int (a.fmod 4))) (hn : ns.length ≤ 24)
    (h : ∀ D us h', Fr h₀ L h' m → News h₀ L h' ((D, W.listOf (List.toArray us) 0) :: news) → (∀ p ∈ news, p.1 < D) → IntsAre us (finInts (usesOf ns)) → us.length ≤ 28 → Q (.ref D) { s with heap := h' }) : wpAny (model prog w) A (binaryOp .Add (.ref a) (.ref b)) Q E s := by
  have hi : IntsAre [.int 2 t0, .int 0 t1, .int 1 t2, .int 3 t3] (finInts [2, 0, 1, 3]) := .cons _ _ (.cons _ _ (.cons _ _ (.cons _ _ .nil)))
  have hj := uses_ints hc
  refine kmk_add_ints F N ha hb hi hj (fun D us h' F' N' l1 hk => ?_) (by rw [sizeLine_eq]; simp; omega)
  have e : finInts [2, 0, 1, 3] ++ finInts (ns.map useOf) = finInts (usesOf ns) := by simp [usesOf]
  rw [e] at hk
  exact h D us h' F' N' l1 hk (by rw [hk.length]; simp [usesOf]; omega)
/-- the reaches -/
def e0 (T : Int) : Int := (T.fdiv (4 ^ 0) + 2).fmod 4
def e1 (T : Int) : Int := (T.fdiv (4 ^ 1) + 1).fmod 4
def e2 (T : Int) : Int := (T.fdiv (4 ^ 2) + 3).fmod 4
def e3 (T : Int) : Int := (T.fdiv (4 ^ 3) + 1).fmod 4
def rrOf (T : Int) (k : Fin 4) : Nat := if k = 0 then (e0 T).toNat else if k = 1 then (e1 T).toNat else if k = 2 then (e2 T).toNat else (e3 T).toNat
theorem rrOf_le (T : Int) (k : Fin 4) : rrOf T k ≤ 3 := by
  have h0 := fmod4 (T.fdiv (4 ^ 0) + 2)
  have h1 := fmod4 (T.fdiv (4 ^ 1) + 1)
  have h2 := fmod4 (T.fdiv (4 ^ 2) + 3)
  have h3 := fmod4 (T.fdiv (4 ^ 3) + 1)
  unfold rrOf e0 e1 e2 e3
  split
  · omega
  · split
    · omega
    · split <;> omega
theorem reach_ints (T : Int) (t0 t1 t2 t3 : Tok) : IntsAre [.int (e0 T) t0, .int (e1 T) t1, .int (e2 T) t2, .int (e3 T) t3] (finR (rrOf T)) := by
  have h0 : ((rrOf T 0 : Nat) : Int) = e0 T := by have := fmod4 (T.fdiv (4 ^ 0) + 2); show (((e0 T).toNat : Nat) : Int) = _; unfold e0; omega
  have h1 : ((rrOf T 1 : Nat) : Int) = e1 T := by have := fmod4 (T.fdiv (4 ^ 1) + 1); show (((e1 T).toNat : Nat) : Int) = _; unfold e1; omega
  have h2 : ((rrOf T 2 : Nat) : Int) = e2 T := by have := fmod4 (T.fdiv (4 ^ 2) + 3); show (((e2 T).toNat : Nat) : Int) = _; unfold e2; omega
  have h3 : ((rrOf T 3 : Nat) : Int) = e3 T := by have := fmod4 (T.fdiv (4 ^ 3) + 1); show (((e3 T).toNat : Nat) : Int) = _; unfold e3; omega
  unfold finR
  rw [h0, h1, h2, h3]
  exact .cons _ _ (.cons _ _ (.cons _ _ (.cons _ _ .nil)))
theorem reach_ints' {ns : List Int} {a0 a1 a2 a3 : Int} {t0 t1 t2 t3 : Tok} (h0 : a0 = e0 ns.sum) (h1 : a1 = e1 ns.sum) (h2 : a2 = e2 ns.sum) (h3 : a3 = e3 ns.sum) : IntsAre [.int a0 t0, .int a1 t1, .int a2 t2, .int a3 t3] (finR (rrOf ns.sum)) := by
  subst h0 h1 h2 h3
  exact reach_ints _ _ _ _ _
theorem records_law {prog : Program} {w : World} {p : Program} {loose : List PySem.Str} {mean : ExcName → Option Value} {mg mb : PySem.Str → Option Value} {aU aR : Addr} {vsU vsR : List Value} {ns : List Int} (hiU : IntsAre vsU (finInts (usesOf ns))) (hiR : IntsAre vsR (finR (rrOf ns.sum))) (hn : ns.length ≤ 24) :
    Cg 5 prog w p loose mean mg mb 253 [.ref aU, .ref aR] (fun g => g.IsList aU vsU.toArray ∧ g.IsList aR vsR.toArray) (fun v add => ∃ aT aX aY ws nX vo nO, v = .ref aT ∧ add = [(aT, { cls := .type "tuple", data := .seq #[.ref aX, .ref aY] }), (aX, W.listOf ws.toArray nX), (aY, W.listOf vo.toArray nO)] ∧ IntsAre ws (finInts (recRun (rrOf ns.sum) ([], []) (usesOf ns).reverse).1.reverse) ∧ IntsAre vo (finInts (recRun (rrOf ns.sum) ([], []) (usesOf ns).reverse).2)) :=
  records_ok _ _ _ _ _ _ hiU hiR (by simp [usesOf]; omega) (rrOf_le _)
theorem usesOf_len {ns : List Int} (h : ns.length ≤ 24) : (usesOf ns).length ≤ 40 := by simp [usesOf]; omega
theorem take24 (ns : List Int) : (ns.take 24).length ≤ 24 := by rw [List.length_take]; omega
/-- a contract's call whose new objects lie apart from the ledger's -/
theorem Cg.use2 {n : Nat} {prog : Program} {w : World} {p : Program} {loose : List PySem.Str} {mean : ExcName → Option Value} {mg mb : PySem.Str → Option Value} {f : Addr} {vs : List Value} {pre : Heap → Prop} {R : Value → List (Addr × Obj) → Prop}
    (C : Cg n prog w p loose mean mg mb f vs pre R)
    {dp un : Nat} {gd : Option (List Code)} {fr : Option (List Env)} {h₀ h : Heap} {gens : Array GenState} {dr : Drawn} {tk : Nat} {os : OsState} {L : Addr} {m : PySem.Str → Option Value} {news : List (Addr × Obj)} {Q E : Value → Shared → Prop}
    (F : Fr h₀ L h m) (X : (Nine.hd.heap_39 w.params).In h₀) (N : News h₀ L h news) (T : Top p loose mean mg mb h₀) (hd : dp + n ≤ 350) (hu : un + 20 * n ≤ 900) (hp : pre h)
    (ret : ∀ v add h' tk', R v add → Fr h₀ L h' m → News h₀ L h' (add ++ news) → (∀ q ∈ add, LCg.Off1 q.1 news) → Q v ⟨h', gens, dr, tk', os⟩) :
    wpAny (model prog w) (At dp un gd fr) (call (.ref f) vs) Q E ⟨h, gens, dr, tk, os⟩ := by
  refine C dp un gd fr h gens dr tk os Q E hd hu (X.keeps F.keep) (T.keeps F.keep) hp fun v add h' tk' hR hk hn => ?_
  obtain ⟨oL, es, ep, hL, hr⟩ := F.ns
  refine ret v add h' tk' hR ⟨⟨oL, es, ep, hk _ _ hL, hr⟩, fun b o e => hk _ _ (F.keep b o e), F.above⟩ (fun q hq => ?_) fun q hq => off1_of fun p hp e => ?_
  · rcases List.mem_append.mp hq with hq | hq
    · obtain ⟨h1, h2⟩ := hn q hq
      refine ⟨h1, fun e => ?_, ?_⟩
      · rw [e, hL] at h2; cases h2
      · cases e : h₀.get? q.1 with
        | none => rfl
        | some o => rw [F.keep _ _ e] at h2; cases h2
    · exact ⟨hk _ _ (N q hq).1, (N q hq).2⟩
  · have := (N p hp).1
    rw [e, (hn q hq).2] at this
    cases this
theorem off_none {x c : Addr} {o : Obj} (d : OwnCell o) : ∀ {l : List (Addr × Obj)}, LCg.Off1 x l → (c, o) ∈ l → @Ne Nat c x
  | p :: l, h, hm => by
    rcases List.mem_cons.mp hm with e | hm
    · rw [show c = p.1 from congrArg Prod.fst e]; exact h.1
    · exact off_none d h.2 hm
theorem off3 {a b c : Addr × Obj} {news : List (Addr × Obj)} (h : ∀ q ∈ [a, b, c], LCg.Off1 q.1 news) : LCg.Off1 a.1 news ∧ LCg.Off1 b.1 news ∧ LCg.Off1 c.1 news := ⟨h _ (by simp), h _ (by simp), h _ (by simp)⟩
section
variable {prog : Program} {w : World} {p : Program} {loose : List PySem.Str} {mean : ExcName → Option Value} {mg mb : PySem.Str → Option Value}
theorem link_okI (a b : Int) (ta tb : Tok) (ha : 0 ≤ a ∧ a < 4) (hb : 0 ≤ b ∧ b < 4) : Cg 3 prog w p loose mean mg mb 234 [.int a ta, .int b tb] (fun _ => True)
    (fun v add => add = [] ∧ ∃ t, v = .str (linkT a.toNat b.toNat) t) := by
  have h := link_ok (prog := prog) (w := w) (p := p) (loose := loose) (mean := mean) (mg := mg) (mb := mb) a.toNat b.toNat ta tb (by omega) (by omega)
  have ea : ((a.toNat : Nat) : Int) = a := by omega
  have eb : ((b.toNat : Nat) : Int) = b := by omega
  rw [ea, eb] at h
  exact h
end
local macro_rules | `(tactic| tb_start) => `(tactic| exact Nat.le_of_ble_eq_true rfl)
example : True := by
  k_with "call ref" => (k_here; (with_reducible show wpAny _ _ (call (Value.ref 234) _) _ _ _); (k_dflt (refine' Cg.use (link_okI _ _ _ _ ?z9ka ?z9kb) ?z9k1 ?z9k2 ?z9k3 ?z9k4 ?z9k6 ?z9k7 ?z9k8 ?_; (case z9ka => decide); (case z9kb => exact fmod4 _); (case z9k1 => k_asm); (case z9k2 => k_asm); (case z9k3 => k_asm); (case z9k4 => k_asm); (case z9k6 => tb_start); (case z9k7 => tb_start); (case z9k8 => trivial))); intro v' add' h' tk' hv' F' N'; obtain ⟨ha', t', hv'⟩ := hv'; subst hv'; subst ha'; simp only [List.nil_append] at N'; (try k_sweep))
  trivial
example : True := by
  k_with "binaryOp Add ref ref" => (k_here; (with_reducible show wpAny _ _ (binaryOp _ (Value.ref _) (Value.ref _)) _ _ _); (rename CarriedAll _ _ => hC_Q20x71); k_dflt (refine' add_U ?z9F ?z9N ?z9a ?z9b hC_Q20x71 (take24 _) ?_; (case z9F => k_asm); (case z9N => k_asm); (case z9a => is_list); (case z9b => assumption)); intro D' us' h' F' N' l1 hI' hl'; (try k_lt l1); (try k_sweep))
  trivial
example : True := by
  k_with "call ref" => (k_here; (with_reducible show wpAny _ _ (call (Value.ref 253) _) _ _ _); (rename IntsAre _ (finInts _) => hI_Q20x72); (k_dflt (refine' Cg.use2 (records_law hI_Q20x72 (reach_ints' ?z9h0 ?z9h1 ?z9h2 ?z9h3) (take24 _)) ?z9k1 ?z9k2 ?z9k3 ?z9k4 ?z9k6 ?z9k7 ?z9k8 ?_; (case z9k1 => k_asm); (case z9k2 => k_asm); (case z9k3 => k_asm); (case z9k4 => k_asm); (case z9k6 => tb_start); (case z9k7 => tb_start); (case z9k8 => exact ⟨by is_list, by is_list⟩); (case z9h0 => exact rfl); (case z9h1 => exact rfl); (case z9h2 => exact rfl); (case z9h3 => exact rfl))); intro v' add' h' tk' hv' F' N' of'; obtain ⟨aT', aX', aY', ws', nX', vo', nO', hv', ha', hX', hO'⟩ := hv'; subst hv'; subst ha'; obtain ⟨of1', of2', of3'⟩ := off3 of'; clear of'; (rename OwnCell _ => dc_Q20x72); k_dflt (have oc1' := off_none dc_Q20x72 of1' (by k_mem)); k_dflt (have oc2' := off_none dc_Q20x72 of2' (by k_mem)); k_dflt (have oc3' := off_none dc_Q20x72 of3' (by k_mem)); clear of1' of2' of3'; clear dc_Q20x72; simp only [List.nil_append, List.cons_append] at N'; (try k_sweep))
  trivial
/-! ## law, third stage -/
theorem cut1 {M : Model} {A : Around} {E : Value → Shared → Prop} {env : Env} {st : Stmt} {rest : List Stmt} {Q : Flow → Shared → Prop} {s : Shared} {P : Shared → Prop}
    (h : ∀ Q' : Flow → Shared → Prop, (∀ s', P s' → Q' .next s') → wpAny M A (exec st env) Q' E s) (k : ∀ s', P s' → wpAny M A (execs rest env) Q E s') : wpAny M A (execs (st :: rest) env) Q E s :=
  wpAny_execs_cons (h _ fun s' hp => k s' hp)
/-- the ledger that the rest of law needs -/
theorem law_mid {P : Prop} {g h : Heap} {L aT aX aY aU aN aL aR : Addr} {oT oN oR : Obj} {ws vo us : List Value} {nX nY nU : Nat} {ns : List Int} {l0 l1 l2 l3 : PySem.Str} {t0 t1 t2 t3 : Tok} {cells : List (Addr × Obj)}
    (N : News g L h ((aT, oT) :: (aX, W.listOf ws.toArray nX) :: (aY, W.listOf vo.toArray nY) :: (aU, W.listOf us.toArray nU) :: (aN, oN) :: (aL, LCg.lst [.str l0 t0, .str l1 t1, .str l2 t2, .str l3 t3]) :: (aR, oR) :: cells))
    (h0 : l0 = linkT 0 (rrOf ns.sum 0)) (h1 : l1 = linkT 1 (rrOf ns.sum 1)) (h2 : l2 = linkT 2 (rrOf ns.sum 2)) (h3 : l3 = linkT 3 (rrOf ns.sum 3))
    (k : ∀ vL, StrsAre vL (linksT (rrOf ns.sum)) → vL.length = 4 → News g L h ((aX, W.listOf ws.toArray nX) :: (aY, W.listOf vo.toArray nY) :: (aU, W.listOf us.toArray nU) :: (aL, W.listOf vL.toArray 4) :: cells) → P) : P := by
  subst h0 h1 h2 h3
  refine k [.str _ t0, .str _ t1, .str _ t2, .str _ t3] (.cons _ _ (.cons _ _ (.cons _ _ (.cons _ _ .nil)))) rfl fun p hp => N p ?_
  simp only [List.mem_cons] at hp ⊢
  rcases hp with e | e | e | e | e
  · exact .inr (.inl e)
  · exact .inr (.inr (.inl e))
  · exact .inr (.inr (.inr (.inl e)))
  · exact .inr (.inr (.inr (.inr (.inr (.inl e)))))
  · exact .inr (.inr (.inr (.inr (.inr (.inr (.inr e))))))
/-- the owners -/
theorem owners_law {P : Prop} {ns : List Int} {vo ws : List Value} (hO : IntsAre vo (finInts (recRun (rrOf ns.sum) ([], []) (usesOf ns).reverse).2)) (hX : IntsAre ws (finInts (recRun (rrOf ns.sum) ([], []) (usesOf ns).reverse).1.reverse))
    (k : ∀ o : List (Fin 4), o = fore (rrOf ns.sum) (usesOf ns) → o.length ≤ 3 → IntsAre vo (finInts o) → vo.length = o.length → ws.length ≤ 3 → P) : P := by
  rw [owners_fore] at hO
  refine k _ rfl (fore_len _ 3 (rrOf_le _) _) hO (ints_len hO) ?_
  rw [ints_len hX, List.length_reverse]
  exact (rec_len (rrOf_le _) _).1
def downL (n : Nat) : List Int := if n = 0 then [] else if n = 1 then [1] else if n = 2 then [2, 1] else [3, 2, 1]
theorem ints_lit0 {vo : List Value} (h : IntsAre vo (finInts [])) : vo = [] := by cases h; rfl
theorem ints_lit1 {vo : List Value} {a : Fin 4} (h : IntsAre vo (finInts [a])) : ∃ t, vo = [.int (a.val : Int) t] := by
  cases h with | cons _ t h => cases h; exact ⟨t, rfl⟩
theorem ints_lit2 {vo : List Value} {a b : Fin 4} (h : IntsAre vo (finInts [a, b])) : ∃ t u, vo = [.int (a.val : Int) t, .int (b.val : Int) u] := by
  cases h with | cons _ t h => cases h with | cons _ u h => cases h; exact ⟨t, u, rfl⟩
theorem ints_lit3 {vo : List Value} {a b c : Fin 4} (h : IntsAre vo (finInts [a, b, c])) : ∃ t u v, vo = [.int (a.val : Int) t, .int (b.val : Int) u, .int (c.val : Int) v] := by
  cases h with | cons _ t h => cases h with | cons _ u h => cases h with | cons _ v h => cases h; exact ⟨t, u, v, rfl⟩
section
variable {prog : Program} {w : World} {A : Around} {E : Value → Shared → Prop} {env : Env} {st : Stmt} {rest : List Stmt} {Q : Flow → Shared → Prop} {h₀ h : Heap} {gens : Array GenState} {dr : Drawn} {tk : Nat} {os : OsState} {L : Addr} {m : PySem.Str → Option Value} {news : List (Addr × Obj)}
theorem down_is : ∀ n : Nat, n ≤ 3 → rangeInts (n : Int) (-1) n = downL n := by
  intro n hn
  have h : n = 0 ∨ n = 1 ∨ n = 2 ∨ n = 3 := by omega
  rcases h with e | e | e | e <;> subst e <;> decide
theorem list_down {r : Addr} {n : Nat} {t u v : Tok} {Q : Value → Shared → Prop} (hh : A.handled = none) (F : Fr h₀ L h m) (N : News h₀ L h news) (hr : IsRange h r (n : Int) 0 (-1) t u v) (hn : n ≤ 3)
    (hQ : ∀ (D : Nat) h' tk' vl c, Fr h₀ L h' m → News h₀ L h' ((D, W.listOf (List.toArray vl) c) :: news) → (∀ p ∈ news, @LT.lt Nat _ p.1 D) → IntsAre vl (downL n) → Q (.ref D) ⟨h', gens, dr, tk', os⟩) :
    wpAny (model prog w) A (call (.type "list") [.ref r]) Q E ⟨h, gens, dr, tk, os⟩ := by
  refine list_rangeD (s := ⟨h, gens, dr, tk, os⟩) (n := n) hh F N hr (small_dn (by omega) (by omega) (by decide) (by decide)) (size_dn n) (by omega) fun h' tk' ys F' N' hk h0 hl hp hc => ?_
  obtain ⟨⟨c, hg⟩, _⟩ := hp
  have hi := CarriedAll.intsOf (f := fun a : Int => a) hc
  rw [List.map_id', down_is n hn] at hi
  refine hQ _ h' tk' ys c F' (fun p hp => ?_) (fun p hp => Heap.lt_size (N p hp).1) hi
  rcases List.mem_cons.mp hp with rfl | hp
  · exact ⟨hg, Nat.ne_of_gt F.ns.lt, h0⟩
  · exact N' p hp
end
example : True := by
  k_with "call type:list" => (k_here; (with_reducible show wpAny _ _ (call (Value.type _) [Value.ref _]) _ _ _); (rename IsRange _ _ _ _ _ _ _ _ => rgX_Q20x73); k_dflt (refine' list_down ?z9k0 ?z9k1 ?z9k2 rgX_Q20x73 ?z9k4 ?_; (case z9k0 => exact rfl); (case z9k1 => k_asm); (case z9k2 => k_asm); (case z9k4 => omega)); intro D' h' tk' vl' c' F' N' l1 hI'; (try k_lt l1); (try k_sweep))
  trivial
example : True := by
  k_with "call builtin:len" => (k_here; (with_reducible show wpAny _ _ (call (Value.builtin "len") [Value.ref _]) _ _ _); k_dflt (refine' len_S ?z9k1 ?z9k2 ?z9k3 ?_; (case z9k1 => k_asm); (case z9k2 => k_mem); (case z9k3 => omega); k_whole))
  trivial
/-! ## law, fourth stage: place -/
section
variable {prog : Program} {w : World} {A : Around} {E : Value → Shared → Prop} {env : Env} {st : Stmt} {rest : List Stmt} {Q : Flow → Shared → Prop} {h₀ h : Heap} {gens : Array GenState} {dr : Drawn} {tk : Nat} {os : OsState} {L : Addr} {m : PySem.Str → Option Value} {news : List (Addr × Obj)}
theorem cut_str (name T : PySem.Str) (_F : Fr h₀ L h m) (_N : News h₀ L h news)
    (hh : ∀ Q' : Flow → Shared → Prop, (∀ h' tk' t T' news', Fr h₀ L h' (fun z => if z = name then some (.str T' t) else m z) → News h₀ L h' news' → (∀ p ∈ news, p ∈ news') → T' = T → Q' .next ⟨h', gens, dr, tk', os⟩) → wpAny (model prog w) A (exec st env) Q' E ⟨h, gens, dr, tk, os⟩)
    (k : ∀ h' tk' t, Fr h₀ L h' (fun z => if z = name then some (.str T t) else m z) → News h₀ L h' news → wpAny (model prog w) A (execs rest env) Q E ⟨h', gens, dr, tk', os⟩) :
    wpAny (model prog w) A (execs (st :: rest) env) Q E ⟨h, gens, dr, tk, os⟩ := by
  refine cut1 (P := fun s' => ∃ h' tk' t, s' = ⟨h', gens, dr, tk', os⟩ ∧ Fr h₀ L h' (fun z => if z = name then some (.str T t) else m z) ∧ News h₀ L h' news) (fun Q' hQ => hh Q' fun h' tk' t T' news' F' N' hs e => hQ _ ⟨h', tk', t, rfl, e ▸ F', fun p hp => N' p (hs p hp)⟩) ?_
  rintro s' ⟨h', tk', t, rfl, F', N'⟩
  exact k h' tk' t F' N'
end
theorem item_F {prog : Program} {w : World} {A : Around} {E : Value → Shared → Prop} {s : Shared} {x : PySem.Str} {k : Int} {a : Fin 4} {t u : Tok} {value slice : PySem.Expr} {Q : Value → Shared → Prop} (hk : k = (a.val : Int)) (hz : x.length = 4) (h : ∀ t tk', (Txt.item x (a.val : Int)).length ≤ 1 → Q (.str (Txt.item x (a.val : Int)) t) { s with toks := tk' })
    (hs : subscripted slice false (.str x t) (.int k u) = operate [.str x t, .int k u] (getItem (.str x t) (.int k u)) := by with_unfolding_all rfl)
    (ht : ∀ r, letTemporaryGo value (.str x t) r = pure () := by intro _; with_unfolding_all rfl) :
    wpAny (model prog w) A (subscriptTail value slice (.str x t) (.int k u)) Q E s := by
  subst hk
  have := a.isLt
  exact item_str (fitsSsize_of (N := 9223372036854775808) (by omega) (by omega) (Int.le_refl _)) (by omega) (by omega) (fun q => h _ _ q.2) hs ht
theorem add_S {prog : Program} {w : World} {A : Around} {E : Value → Shared → Prop} {s : Shared} {x y : PySem.Str} {t u : Tok} {Q : Value → Shared → Prop} (hz : x.length + y.length ≤ 1000)
    (h : ∀ t' k, (x ++ y).length = x.length + y.length → Q (.str (x ++ y) t') { s with toks := k }) : wpAny (model prog w) A (binaryOp .Add (.str x t) (.str y u)) Q E s :=
  SB.add (fun t' k => h t' k (Str.length_append x y)) (by rw [sizeLine_eq]; omega)
theorem joinS_S {prog : Program} {w : World} {A : Around} {E : Value → Shared → Prop} {s : Shared} {D : Addr} {items : Array Value} {ys : List PySem.Str} {t : Tok} {Q : Value → Shared → Prop} (hl : s.heap.IsList D items) (hi : StrsAre items.toList ys) (hw : (ys.map (·.length)).sum + ys.length ≤ 100)
    (h : ∀ t' k, (Txt.join (PySem.Str.ofString "/") ys).length ≤ 200 → Q (.str (Txt.join (PySem.Str.ofString "/") ys) t') { s with toks := k }) : wpAny (model prog w) A (call (.builtin "str.join") [.str (PySem.Str.ofString "/") t, .ref D]) Q E s :=
  join_listW hl hi (by decide) (by omega) fun t' k => h t' k (by
    have := StrLaws.join_length_le (PySem.Str.ofString "/") ys
    have e : (PySem.Str.ofString "/").length = 1 := rfl
    rw [← StrLaws.glued_eq_join, e] at this
    unfold Txt.join
    omega)
theorem len_eq1 : (PySem.Str.ofString "=").length = 1 := rfl
theorem len_item (x : PySem.Str) (k : Int) : (Txt.item x k).length = 1 := rfl
theorem down1 {vl : List Value} (h : IntsAre vl (downL 1)) : ∃ t, vl = [.int 1 t] := by
  cases h with | cons _ t h => cases h; exact ⟨t, rfl⟩
theorem down2 {vl : List Value} (h : IntsAre vl (downL 2)) : ∃ t u, vl = [.int 2 t, .int 1 u] := by
  cases h with | cons _ t h => cases h with | cons _ u h => cases h; exact ⟨t, u, rfl⟩
theorem down3 {vl : List Value} (h : IntsAre vl (downL 3)) : ∃ t u v, vl = [.int 3 t, .int 2 u, .int 1 v] := by
  cases h with | cons _ t h => cases h with | cons _ u h => cases h with | cons _ v h => cases h; exact ⟨t, u, v, rfl⟩
theorem down0 {vl : List Value} (h : IntsAre vl (downL 0)) : vl = [] := by cases h; rfl
/-! ## law, fifth stage: bare -/
theorem item_T4 {prog : Program} {w : World} {A : Around} {E : Value → Shared → Prop} {s : Shared} {h₀ : Heap} {L D : Addr} {news : List (Addr × Obj)} {x0 x1 x2 x3 : PySem.Str} {t0 t1 t2 t3 : Tok} {k : Int} {a : Fin 4} {u : Tok} {value slice : PySem.Expr} {Q : Value → Shared → Prop} (N : News h₀ L s.heap news) (hm : (D, ({ cls := .type "tuple", data := .seq #[.str x0 t0, .str x1 t1, .str x2 t2, .str x3 t3] } : Obj)) ∈ news) (hk : k = (a.val : Int))
    (h : ∀ t, Q (.str ([x0, x1, x2, x3].getD a.val Str.empty) t) s)
    (hs : subscripted slice false (.ref D) (.int k u) = operate [.ref D, .int k u] (getItem (.ref D) (.int k u)) := by with_unfolding_all rfl) :
    wpAny (model prog w) A (subscriptTail value slice (.ref D) (.int k u)) Q E s := by
  subst hk
  have h4 := a.isLt
  have hj : seqIndex? (a.val : Int) 4 = some a.val := StrLaws.seqIndex_nonneg (n := 4) (by omega) (by omega)
  have hx : ([Value.str x0 t0, .str x1 t1, .str x2 t2, .str x3 t3] : List Value)[a.val]? = some (.str ([x0, x1, x2, x3].getD a.val Str.empty) ([t0, t1, t2, t3].getD a.val t0)) := by
    match a, h4 with
    | ⟨0, _⟩, _ => rfl
    | ⟨1, _⟩, _ => rfl
    | ⟨2, _⟩, _ => rfl
    | ⟨3, _⟩, _ => rfl
  exact item_tupleT (News.isTup N hm) (by omega) (by omega) hj hx (h _) hs
theorem bare_texts (a : Fin 4) : ([PySem.Str.ofString "/.*", PySem.Str.ofString "?>:", PySem.Str.ofString "ONJ", PySem.Str.ofString "_^Z"].getD a.val Str.empty).length = 3 := by
  revert a; decide +kernel
theorem item_3 {prog : Program} {w : World} {A : Around} {E : Value → Shared → Prop} {s : Shared} {x : PySem.Str} {k : Int} {t u : Tok} {value slice : PySem.Expr} {Q : Value → Shared → Prop} (hz : x.length = 3) (h0 : 0 ≤ k) (h3 : k < 3) (h : ∀ t tk', (Txt.item x k).length ≤ 1 → Q (.str (Txt.item x k) t) { s with toks := tk' })
    (hs : subscripted slice false (.str x t) (.int k u) = operate [.str x t, .int k u] (getItem (.str x t) (.int k u)) := by with_unfolding_all rfl)
    (ht : ∀ r, letTemporaryGo value (.str x t) r = pure () := by intro _; with_unfolding_all rfl) :
    wpAny (model prog w) A (subscriptTail value slice (.str x t) (.int k u)) Q E s :=
  item_str (fitsSsize_of (N := 9223372036854775808) (by omega) (by omega) (Int.le_refl _)) (by omega) (by omega) (fun q => h _ _ q.2) hs ht
/-! ## law, sixth stage: lasts -/
def lastsTo (us : List (Fin 4)) : Nat → List (Fin 4)
  | 0 => []
  | i + 1 => match us[i]? with
    | some k => if k ∈ us.drop (i + 1) then lastsTo us i else lastsTo us i ++ [k]
    | none => lastsTo us i
theorem lastsTo_succ {us : List (Fin 4)} {i : Nat} {k : Fin 4} (hk : us[i]? = some k) : lastsTo us (i + 1) = if k ∈ us.drop (i + 1) then lastsTo us i else lastsTo us i ++ [k] := by
  show (match us[i]? with
    | some k => if k ∈ us.drop (i + 1) then lastsTo us i else lastsTo us i ++ [k]
    | none => lastsTo us i) = _
  rw [hk]
theorem lastsTo_drop (us : List (Fin 4)) : ∀ i, i ≤ us.length → lastsTo us i ++ lasts (us.drop i) = lasts us
  | 0, _ => rfl
  | i + 1, h => by
    have ih := lastsTo_drop us i (by omega)
    have hi : us[i]? = some us[i] := List.getElem?_eq_getElem (by omega)
    have hd : us.drop i = us[i] :: us.drop (i + 1) := List.drop_eq_getElem_cons (by omega)
    rw [← ih, hd, lastsTo_succ hi]
    by_cases hm : us[i] ∈ us.drop (i + 1)
    · rw [if_pos hm]
      rw [show lasts (us[i] :: us.drop (i + 1)) = lasts (us.drop (i + 1)) from if_pos hm]
    · rw [if_neg hm]
      rw [show lasts (us[i] :: us.drop (i + 1)) = us[i] :: lasts (us.drop (i + 1)) from if_neg hm]
      rw [List.append_assoc]
      rfl
theorem lastsTo_all (us : List (Fin 4)) : lastsTo us us.length = lasts us := by
  have h := lastsTo_drop us us.length (Nat.le_refl _)
  rw [List.drop_length] at h
  simpa [lasts] using h
theorem lasts_yes {us : List (Fin 4)} {i : Nat} {k : Fin 4} {ys : List Value} {t : Tok} (hk : us[i]? = some k) (hm : k ∉ us.drop (i + 1)) (hi : IntsAre ys (finInts (lastsTo us i))) : IntsAre (ys ++ [.int (k.val : Int) t]) (finInts (lastsTo us (i + 1))) := by
  rw [lastsTo_succ hk, if_neg hm]
  exact ints_snoc hi
theorem lasts_no {us : List (Fin 4)} {i : Nat} {k : Fin 4} {ys : List Value} (hk : us[i]? = some k) (hm : k ∈ us.drop (i + 1)) (hi : IntsAre ys (finInts (lastsTo us i))) : IntsAre ys (finInts (lastsTo us (i + 1))) := by
  rw [lastsTo_succ hk, if_pos hm]
  exact hi
section
variable {prog : Program} {w : World} {A : Around} {E : Value → Shared → Prop} {s : Shared} {h₀ : Heap} {L : Addr} {m : PySem.Str → Option Value} {env : Env}
theorem lasts_rest {ct elt : PySem.Expr} {x : PySem.Str} {scope : Scope} {cl : List (PySem.Str × Addr)} {Fin' : List Value → List (Addr × Obj) → Prop} {us : List (Fin 4)} {news : List (Addr × Obj)}
    (turn : ∀ (i : Nat) (k : Fin 4) (ys : List Value) (t : Tok) I oI C oC D m₂ h tk (E' : Value → Shared → Prop), us[i]? = some k → LCg.NsObj oC m₂ → m₂ x = some (.int (0 + (i : Int)) t) → Fr h₀ L h m → News h₀ L h ((I, oI) :: (C, oC) :: (D, LCg.lst ys) :: news) → LCg.Off3 I C D news → ((@Ne Nat I C) ∧ (@Ne Nat I D) ∧ (@Ne Nat C D)) →
      wpAny (model prog w) A (isTrue ct (compEnvC scope cl C env) (eval ct (compEnvC scope cl C env))) (fun ok s' => if ok = true then
        wpAny (model prog w) A (eval elt (compEnvC scope cl C env)) (LCg.CompEnd h₀ L m { s with heap := h, toks := tk } I oI C oC D (LCg.lst ys) (fun _ => True) (fun y news' => news' = news ∧ k ∉ us.drop (i + 1) ∧ ∃ t, y = .int (k.val : Int) t)) E' s'
        else LCg.CompEnd h₀ L m { s with heap := h, toks := tk } I oI C oC D (LCg.lst ys) (fun _ => True) (fun _ news' => news' = news ∧ k ∈ us.drop (i + 1)) Value.none s') E' { s with heap := h, toks := tk })
    (fin : ∀ ys, IntsAre ys (finInts (lasts us)) → Fin' ys news) :
    ∀ j i ys, i + j = us.length → IntsAre ys (finInts (lastsTo us i)) → LCt.CompRestT prog w A h₀ L m env ct elt x scope cl s (fun _ => True) (fun i v => ∃ t, v = .int (0 + (i : Int)) t) Fin' j i ys news
  | 0, i, ys, hij, hi => by
    have : i = us.length := by omega
    subst this
    rw [lastsTo_all] at hi
    exact LCt.CompRestT.zero (fin ys hi)
  | j + 1, i, ys, hij, hi => by
    have hk : us[i]? = some us[i] := List.getElem?_eq_getElem (by omega)
    refine LCt.CompRestT.succ fun v I oI C oC D m₂ h tk E' hv hC hx F N off ne => ?_
    obtain ⟨t, rfl⟩ := hv
    refine wpAny_mono (turn i us[i] ys t I oI C oC D m₂ h tk E' hk hC hx F N off ne) (fun ok s' hq => ?_) fun _ _ e => e
    cases ok with
    | true =>
      simp only [if_true] at hq ⊢
      refine wpAny_mono hq (fun y s₂ hy => ?_) fun _ _ e => e
      obtain ⟨h', tk', news', rfl, F', N', off', hS, rfl, hm, t', rfl⟩ := hy
      exact ⟨h', tk', news', rfl, F', N', off', hS, lasts_rest turn fin j (i + 1) _ (by omega) (lasts_yes hk hm hi)⟩
    | false =>
      simp only [Bool.false_eq_true, if_false] at hq ⊢
      obtain ⟨h', tk', news', rfl, F', N', off', hS, rfl, hm⟩ := hq
      exact ⟨h', tk', news', rfl, F', N', off', hS, lasts_rest turn fin j (i + 1) _ (by omega) (lasts_no hk hm hi)⟩
theorem item_U {news : List (Addr × Obj)} {D : Addr} {vs : List Value} {n : Nat} {us : List (Fin 4)} {i : Nat} {k : Fin 4} {j : Int} {u : Tok} {value slice : PySem.Expr} {Q : Value → Shared → Prop} (N : News h₀ L s.heap news) (hm : (D, W.listOf vs.toArray n) ∈ news) (hi : IntsAre vs (finInts us)) (hk : us[i]? = some k) (hj : j = (i : Int)) (hz : us.length ≤ 1000)
    (h : ∀ t, Q (.int (k.val : Int) t) s)
    (hs : subscripted slice false (.ref D) (.int j u) = operate [.ref D, .int j u] (getItem (.ref D) (.int j u)) := by with_unfolding_all rfl) :
    wpAny (model prog w) A (subscriptTail value slice (.ref D) (.int j u)) Q E s := by
  subst hj
  have hl : s.heap.IsList D vs.toArray := News.isList N hm
  have hlt : i < us.length := (List.getElem?_eq_some_iff.mp hk).1
  obtain ⟨t, ht⟩ := hi.get i (k.val : Int) (by simp [hk])
  exact tail_any hl.typeIs slot_list_getitem.lookup (wpAny_getItem_list (x := .int (k.val : Int) t) hl (by omega) (by omega) (by simpa using ht) (h t)) hs
theorem kf_ints_of {vs : List Value} {ns : List Int} (h : IntsAre vs ns) : kf_ints vs = true := by
  induction h with
  | nil => rfl
  | cons _ _ _ ih => exact ih
theorem kf_any_of {vs : List Value} {us : List (Fin 4)} {k : Fin 4} (h : IntsAre vs (finInts us)) : (!vs.any (isInt (k.val : Int))) = decide (k ∉ us) := by
  have key : ∀ (us : List (Fin 4)) (vs : List Value), IntsAre vs (finInts us) → vs.any (isInt (k.val : Int)) = decide (k ∈ us) := by
    intro us
    induction us with
    | nil => intro vs h; cases h; rfl
    | cons a us ih =>
      intro vs h
      cases h with
      | cons _ t h =>
        rw [List.any_cons, ih _ h]
        have e : isInt (k.val : Int) (.int (a.val : Int) t) = decide (k = a) := by
          show ((a.val : Int) == (k.val : Int)) = _
          by_cases q : k = a
          · subst q; simp
          · have : (a.val : Int) ≠ (k.val : Int) := fun e => q (Fin.ext (by omega))
            simp [q, this]
        rw [e, ← Bool.decide_or]
        exact decide_eq_decide.mpr List.mem_cons.symm
  rw [key us vs h, decide_not]
theorem notin_U {news : List (Addr × Obj)} {D : Addr} {vs : List Value} {n : Nat} {us : List (Fin 4)} {k : Fin 4} {t : Tok} {Q : Value → Shared → Prop} (N : News h₀ L s.heap news) (hm : (D, W.listOf vs.toArray n) ∈ news) (hi : IntsAre vs (finInts us)) (h : Q (.bool (decide (k ∉ us))) s) :
    wpAny (model prog w) A (compareOp .NotIn (.int (k.val : Int) t) (.ref D)) Q E s :=
  kf_notin N hm (by simpa using kf_ints_of hi) (by simpa using kf_any_of hi) h
theorem in_U {news : List (Addr × Obj)} {D : Addr} {vs : List Value} {n : Nat} {us : List (Fin 4)} {k : Fin 4} {t : Tok} {Q : Value → Shared → Prop} (N : News h₀ L s.heap news) (hm : (D, W.listOf vs.toArray n) ∈ news) (hi : IntsAre vs (finInts us)) (h : Q (.bool (decide (k ∈ us))) s) :
    wpAny (model prog w) A (compareOp .In (.int (k.val : Int) t) (.ref D)) Q E s :=
  kf_in N hm (by simpa using kf_ints_of hi) (by
    have := congrArg (! ·) (kf_any_of (k := k) hi)
    simpa using this) h
end
/-! ## law, sixth stage: the statement «lasts» -/
section
variable {prog : Program} {w : World} {A : Around} {E : Value → Shared → Prop} {env : Env} {st : Stmt} {rest : List Stmt} {Q : Flow → Shared → Prop} {h₀ h : Heap} {gens : Array GenState} {dr : Drawn} {tk : Nat} {os : OsState} {L : Addr} {m : PySem.Str → Option Value} {news : List (Addr × Obj)}
theorem cut_ints (name : PySem.Str) (us : List (Fin 4)) (_F : Fr h₀ L h m) (_N : News h₀ L h news)
    (hh : ∀ Q' : Flow → Shared → Prop, (∀ h' tk' D vs n news', Fr h₀ L h' (fun z => if z = name then some (.ref D) else m z) → News h₀ L h' news' → (∀ p ∈ (D, W.listOf (List.toArray vs) n) :: news, p ∈ news') → IntsAre vs (finInts us) → Q' .next ⟨h', gens, dr, tk', os⟩) → wpAny (model prog w) A (exec st env) Q' E ⟨h, gens, dr, tk, os⟩)
    (k : ∀ h' tk' D vs n, Fr h₀ L h' (fun z => if z = name then some (.ref D) else m z) → News h₀ L h' ((D, W.listOf (List.toArray vs) n) :: news) → IntsAre vs (finInts us) → wpAny (model prog w) A (execs rest env) Q E ⟨h', gens, dr, tk', os⟩) :
    wpAny (model prog w) A (execs (st :: rest) env) Q E ⟨h, gens, dr, tk, os⟩ := by
  refine cut1 (P := fun s' => ∃ h' tk' D vs n, s' = ⟨h', gens, dr, tk', os⟩ ∧ Fr h₀ L h' (fun z => if z = name then some (.ref D) else m z) ∧ News h₀ L h' ((D, W.listOf (List.toArray vs) n) :: news) ∧ IntsAre vs (finInts us)) (fun Q' hQ => hh Q' fun h' tk' D vs n news' F' N' hs hi => hQ _ ⟨h', tk', D, vs, n, rfl, F', fun p hp => N' p (hs p hp), hi⟩) ?_
  rintro s' ⟨h', tk', D, vs, n, rfl, F', N', hi⟩
  exact k h' tk' D vs n F' N' hi
theorem cut_lasts {vs : List Value} {us : List (Fin 4)} (name : PySem.Str) (_hU : IntsAre vs (finInts us)) (_F : Fr h₀ L h m) (_N : News h₀ L h news)
    (hh : ∀ Q' : Flow → Shared → Prop, (∀ h' tk' D vs n news', Fr h₀ L h' (fun z => if z = name then some (.ref D) else m z) → News h₀ L h' news' → (∀ p ∈ (D, W.listOf (List.toArray vs) n) :: news, p ∈ news') → IntsAre vs (finInts (lasts us)) → Q' .next ⟨h', gens, dr, tk', os⟩) → wpAny (model prog w) A (exec st env) Q' E ⟨h, gens, dr, tk, os⟩)
    (k : ∀ h' tk' D vs n, Fr h₀ L h' (fun z => if z = name then some (.ref D) else m z) → News h₀ L h' ((D, W.listOf (List.toArray vs) n) :: news) → IntsAre vs (finInts (lasts us)) → wpAny (model prog w) A (execs rest env) Q E ⟨h', gens, dr, tk', os⟩) :
    wpAny (model prog w) A (execs (st :: rest) env) Q E ⟨h, gens, dr, tk, os⟩ := cut_ints name (lasts us) _F _N hh k
theorem slice_U {l : Addr} {vs : List Value} {us vs2 : List (Fin 4)} {lo hi : Option Int} {vl vu : Value} {value slice : PySem.Expr} {Q : Value → Shared → Prop} (F : Fr h₀ L h m) (N : News h₀ L h news) (hl : h.IsList l vs.toArray) (pl : IsPart vl lo) (pu : IsPart vu hi) (hi' : IntsAre vs (finInts us)) (hz : us.length ≤ 40)
    (hm : IntsAre (slicePick vs.toArray lo hi none).toList (finInts vs2))
    (hk : ∀ D ws h', Fr h₀ L h' m → News h₀ L h' ((D, W.listOf (List.toArray ws) 0) :: news) → (∀ p ∈ news, p.1 < D) → IntsAre ws (finInts vs2) → Q (.ref D) ⟨h', gens, dr, tk, os⟩)
    (hs : subscripted slice false (.ref l) (.ref h.objs.size) = operate [.ref h.objs.size, .ref l] (getItem (.ref l) (.ref h.objs.size)) := by with_unfolding_all rfl) (ht : ∀ r, letTemporaryGo value (.ref l) r = pure () := by intro _; with_unfolding_all rfl) :
    wpAny (model prog w) A (subscriptTail value slice (.ref l) (.ref h.objs.size)) Q E ⟨h.push { cls := .type "slice", data := .fields #[vl, vu, .none] }, gens, dr, tk, os⟩ :=
  kmk_slice_ints (s := ⟨h, gens, dr, tk, os⟩) F N hl pl pu hi' hm rfl (fun D ws h' F' N' l1 hI _ _ => hk D ws h' F' N' l1 hI) hs ht (by rw [List.size_toArray, hi'.length, sizeLine_eq]; simp; omega)
theorem from_U {vs : List Value} {us : List (Fin 4)} {x : Int} {i : Nat} (hi : IntsAre vs (finInts us)) (e : x = (i : Int)) : IntsAre (slicePick vs.toArray (some x) none none).toList (finInts (us.drop i)) := by
  subst e
  have h := kmk_from hi (x := (i : Int)) (by omega)
  rw [Int.toNat_natCast] at h
  rw [finInts, List.map_drop]
  exact h
theorem from_K {vs : List Value} {us : List (Fin 4)} {x : Int} {i : Nat} {k : Fin 4} (hi : IntsAre vs (finInts us)) (_hk : us[i]? = some k) (e : x = 0 + (i : Int) + 1) : IntsAre (slicePick vs.toArray (some x) none none).toList (finInts (us.drop (i + 1))) := from_U hi (by omega)
theorem upto_U {vs : List Value} {us : List (Fin 4)} {x : Int} {i : Nat} (hi : IntsAre vs (finInts us)) (e : x = (i : Int)) : IntsAre (slicePick vs.toArray none (some x) none).toList (finInts (us.take i)) := by
  subst e
  have h := kmk_upto hi (y := (i : Int)) (by omega)
  rw [Int.toNat_natCast] at h
  rw [finInts, List.map_take]
  exact h
end
/-! ## law, seventh stage: the three rows -/
theorem lasts_len : ∀ us : List (Fin 4), (lasts us).length ≤ us.length
  | [] => Nat.le_refl _
  | x :: t => by
    have ih := lasts_len t
    unfold lasts
    split
    · exact Nat.le_succ_of_le ih
    · exact Nat.succ_le_succ ih
def bareLen (o : List (Fin 4)) : Bool := decide ((bareT o).length ≤ 1000)
theorem bare_len (o : List (Fin 4)) (ho : o.length ≤ 3) : (bareT o).length ≤ 1000 :=
  of_decide_eq_true (of_small (P := bareLen) (by decide +kernel) o ho)
theorem place_len' (o : List (Fin 4)) (ho : o.length ≤ 3) : (placeT o).length ≤ 1000 := Nat.le_trans (place_len o ho) (by decide)
theorem row_u {ns : List Int} {o : List (Fin 4)} (ho : o = fore (rrOf ns.sum) (usesOf ns)) : fore (rrOf ns.sum) (usesOf ns) = o := ho.symm
theorem row_l {ns : List Int} {o : List (Fin 4)} (ho : o = fore (rrOf ns.sum) (usesOf ns)) : fore (rrOf ns.sum) (lasts (usesOf ns)) = o := (fore_lasts _ _).trans ho.symm
theorem row_r {ns : List Int} {o : List (Fin 4)} (ho : o = fore (rrOf ns.sum) (usesOf ns)) : fore (rrOf ns.sum) (recRun (rrOf ns.sum) ([], []) (usesOf ns).reverse).1.reverse = o := (fore_records _ _).trans ho.symm
theorem row_ul {ns : List Int} : (usesOf (ns.take 24)).length ≤ 40 := usesOf_len (take24 _)
theorem row_ll {ns : List Int} : (lasts (usesOf (ns.take 24))).length ≤ 40 := Nat.le_trans (lasts_len _) row_ul
theorem row_rl {T : Int} {us : List (Fin 4)} : (recRun (rrOf T) ([], []) us).1.reverse.length ≤ 40 := by
  rw [List.length_reverse]
  exact Nat.le_trans (rec_len (rrOf_le _) _).1 (by decide)
section
variable {prog : Program} {w : World} {A : Around} {E : Value → Shared → Prop} {env : Env} {st : Stmt} {rest : List Stmt} {Q : Flow → Shared → Prop} {h₀ h : Heap} {gens : Array GenState} {dr : Drawn} {tk : Nat} {os : OsState} {L : Addr} {m : PySem.Str → Option Value} {news : List (Addr × Obj)}
theorem cut_name (name : PySem.Str) (_F : Fr h₀ L h m) (_N : News h₀ L h news)
    (hh : ∀ Q' : Flow → Shared → Prop, (∀ h' tk' m' news', Fr h₀ L h' m' → (∀ z, z ≠ name → m' z = m z) → News h₀ L h' news' → (∀ p ∈ news, p ∈ news') → Q' .next ⟨h', gens, dr, tk', os⟩) → wpAny (model prog w) A (exec st env) Q' E ⟨h, gens, dr, tk, os⟩)
    (k : ∀ h' tk' u, Fr h₀ L h' (fun z => if z = name then u else m z) → News h₀ L h' news → wpAny (model prog w) A (execs rest env) Q E ⟨h', gens, dr, tk', os⟩) :
    wpAny (model prog w) A (execs (st :: rest) env) Q E ⟨h, gens, dr, tk, os⟩ := by
  refine cut1 (P := fun s' => ∃ h' tk' u, s' = ⟨h', gens, dr, tk', os⟩ ∧ Fr h₀ L h' (fun z => if z = name then u else m z) ∧ News h₀ L h' news) (fun Q' hQ => hh Q' fun h' tk' m' news' F' hm N' hs => hQ _ ⟨h', tk', m' name, rfl, ?_, fun p hp => N' p (hs p hp)⟩) ?_
  · have e : (fun z => if z = name then m' name else m z) = m' := by
      funext z
      by_cases hz : z = name
      · rw [if_pos hz, hz]
      · rw [if_neg hz, hm z hz]
    rw [e]
    exact F'
  · rintro s' ⟨h', tk', u, rfl, F', N'⟩
    exact k h' tk' u F' N'
end
/-! ## law, eighth stage: the cut -/
section
variable {prog : Program} {w : World} {A : Around} {E : Value → Shared → Prop} {env : Env} {st : Stmt} {rest : List Stmt} {Q : Flow → Shared → Prop} {h₀ h : Heap} {gens : Array GenState} {dr : Drawn} {tk : Nat} {os : OsState} {L : Addr} {m : PySem.Str → Option Value} {news : List (Addr × Obj)}
theorem cut_nat (name : PySem.Str) (_F : Fr h₀ L h m) (_N : News h₀ L h news)
    (hh : ∀ Q' : Flow → Shared → Prop, (∀ h' tk' (x : Int) t news', 0 ≤ x → Fr h₀ L h' (fun z => if z = name then some (.int x t) else m z) → News h₀ L h' news' → (∀ p ∈ news, p ∈ news') → Q' .next ⟨h', gens, dr, tk', os⟩) → wpAny (model prog w) A (exec st env) Q' E ⟨h, gens, dr, tk, os⟩)
    (k : ∀ h' tk' (c : Nat) t, Fr h₀ L h' (fun z => if z = name then some (.int (c : Int) t) else m z) → News h₀ L h' news → wpAny (model prog w) A (execs rest env) Q E ⟨h', gens, dr, tk', os⟩) :
    wpAny (model prog w) A (execs (st :: rest) env) Q E ⟨h, gens, dr, tk, os⟩ := by
  refine cut1 (P := fun s' => ∃ h' tk' c t, s' = ⟨h', gens, dr, tk', os⟩ ∧ Fr h₀ L h' (fun z => if z = name then some (.int ((c : Nat) : Int) t) else m z) ∧ News h₀ L h' news) (fun Q' hQ => hh Q' fun h' tk' x t news' hx F' N' hs => hQ _ ⟨h', tk', x.toNat, t, rfl, by rw [Int.toNat_of_nonneg hx]; exact F', fun p hp => N' p (hs p hp)⟩) ?_
  rintro s' ⟨h', tk', c, t, rfl, F', N'⟩
  exact k h' tk' c t F' N'
/-- a statement that changes nothing that is asked later -/
theorem cut_same (_F : Fr h₀ L h m) (_N : News h₀ L h news)
    (hh : ∀ Q' : Flow → Shared → Prop, (∀ h' tk' news', Fr h₀ L h' m → News h₀ L h' news' → (∀ p ∈ news, p ∈ news') → Q' .next ⟨h', gens, dr, tk', os⟩) → wpAny (model prog w) A (exec st env) Q' E ⟨h, gens, dr, tk, os⟩)
    (k : ∀ h' tk', Fr h₀ L h' m → News h₀ L h' news → wpAny (model prog w) A (execs rest env) Q E ⟨h', gens, dr, tk', os⟩) :
    wpAny (model prog w) A (execs (st :: rest) env) Q E ⟨h, gens, dr, tk, os⟩ := by
  refine cut1 (P := fun s' => ∃ h' tk', s' = ⟨h', gens, dr, tk', os⟩ ∧ Fr h₀ L h' m ∧ News h₀ L h' news) (fun Q' hQ => hh Q' fun h' tk' news' F' N' hs => hQ _ ⟨h', tk', rfl, F', fun p hp => N' p (hs p hp)⟩) ?_
  rintro s' ⟨h', tk', rfl, F', N'⟩
  exact k h' tk' F' N'
end
theorem row_tl {ns : List Int} {c : Nat} : ((usesOf (ns.take 24)).take c).length ≤ 40 := by
  rw [List.length_take]
  exact Nat.le_trans (Nat.min_le_right _ _) row_ul
theorem row_dl {ns : List Int} {c : Nat} : ((usesOf (ns.take 24)).drop c).length ≤ 40 := by
  rw [List.length_drop]
  exact Nat.le_trans (Nat.sub_le _ _) row_ul
theorem fore_le3 (T : Int) (us : List (Fin 4)) : (fore (rrOf T) us).length ≤ 3 := fore_len _ 3 (rrOf_le _) _
theorem cut_o {T : Int} {us o : List (Fin 4)} {c : Nat} (ho : o = fore (rrOf T) us) : plT (top2 (fore (rrOf T) (us.take c)) (fore (rrOf T) (us.drop c))) = plT o := by
  rw [← fore_append, List.take_append_drop, ho]
/-! ## law, ninth stage: decode, takes -/
section
variable {prog : Program} {w : World} {A : Around} {E : Value → Shared → Prop} {env : Env} {h₀ : Heap} {x : PySem.Str} {body : List Stmt} {Q : Flow → Shared → Prop} {h : Heap} {gens : Array GenState} {dr : Drawn} {tk : Nat} {os : OsState}
/-- a loop over a range that turns nothing but its target -/
theorem it_r0 {r : Addr} {t₀ u₀ v₀ : Tok} {n : Nat} {m₀ : PySem.Str → Option Value} {cst : List (Addr × Obj)} (hn : n ≤ 1000) (hh : A.handled = none) (hr : IsRange h r 0 (n : Int) 1 t₀ u₀ v₀) (F : Fr h₀ env.locals h m₀) (N : News h₀ env.locals h cst)
    (turn : ∀ (I : Nat) (k : Fin n) tl h' tk' o', Fr h₀ env.locals h' (fun z => if z = x then some (.int (k.val : Int) tl) else m₀ z) → News h₀ env.locals h' (cst ++ [(I, o')]) →
      wpAny (model prog w) A (execs body env) (TP h₀ env.locals (fun (_ : Unit) => []) cst (fun _ => []) x [] m₀ (fun _ => True) (I, o') gens dr os Q) E ⟨h', gens, dr, tk', os⟩)
    (done : ∀ (u : PySem.Str → Option Value) h' tk', Fr h₀ env.locals h' (fun z => if z = x then u z else m₀ z) → News h₀ env.locals h' cst → Q .next ⟨h', gens, dr, tk', os⟩) :
    wpAny (model prog w) A (pyIter (.ref r)) (fun it s₂ => LoopAtV prog w A h₀ env x body Q E it s₂) E ⟨h, gens, dr, tk, os⟩ := by
  refine it_range (fun (_ : Unit) => []) cst (fun _ => []) [] (fun _ _ => True) (cst.map (·.1)) () hh hr (small_one (by omega) (by omega) (by omega) (by omega)) (size_up n) (fun _ => rfl) F N (fun _ hp => nomatch hp) trivial ?_ ?_
  · rintro I _ i _ tl u h' tk' o' hi _ F' N'
    have e2 : (0 : Int) + (i : Int) * 1 = (i : Int) := by omega
    rw [e2] at F'
    exact turn I ⟨i, hi⟩ tl h' tk' o' F' N'
  · rintro _ u h' tk' _ F' N'
    exact done u h' tk' F' N'
theorem TE_0 {L : Addr} {cst news' : List (Addr × Obj)} {m₀ : PySem.Str → Option Value} {it : Addr × Obj} {a : Option Value}
    (F : Fr h₀ L h (fun z => if z = x then a else m₀ z)) (N : News h₀ L h news') (hn : ∀ p ∈ cst ++ [it], p ∈ news') :
    TE h₀ L (fun (_ : Unit) => []) cst (fun _ => []) x [] m₀ (fun _ => True) it gens dr os ⟨h, gens, dr, tk, os⟩ :=
  TE.intro () F N hn (fun _ hp => nomatch hp) (fun _ h1 _ _ => if_neg h1) trivial
end
theorem rec_mem {T : Int} {us o : List (Fin 4)} (ho : o = fore (rrOf T) us) (k : Fin 4) : decide (k ∈ o) = decide (k ∈ (recRun (rrOf T) ([], []) us.reverse).1.reverse) := by
  refine decide_eq_decide.mpr ?_
  rw [List.mem_reverse, recRun_mem _ _ _ _ Iff.rfl, owners_fore, ho]
theorem lev_mem {o : List (Fin 4)} {n : Nat} (h : n = o.length) (k : Fin 3) : decide (k.val < o.length) = decide ((k.val : Int) < (n : Int)) := decide_eq_decide.mpr (by omega)

/-! ## law's walk -/
def Halt (P : Prop) : Prop := P
theorem halt_in {P : Prop} (h : Halt P) : P := h
theorem halt_out {P : Prop} (h : P) : Halt P := h
section
 local macro_rules | `(tactic| k_qdec) => `(tactic| decide +kernel)
 local macro_rules | `(tactic| size_fits) => `(tactic| first | exact Nat.le_of_ble_eq_true (by kernel_rfl!) | (simp only [PySem.sizeOk, PySem.sizeLine_eq, List.size_toArray, List.length_cons, List.length_nil]; first | omega | exact True.intro))
 example : True := by
   k_with "execs cons" => ((have gm := mkPZ; clear gm); ((with_reducible show wpAny _ _ (execs (Stmt.Assign [PySem.Expr.Name (PySem.Str.ofString "height") _] _ _ :: _) _) _ _ _); refine halt_in ?_))
   trivial
 example : True := by
   k_with "execs cons" => ((have gm := mkPZ; clear gm); ((with_reducible show wpAny _ _ (execs (Stmt.Assign [PySem.Expr.Name (PySem.Str.ofString "place") _] _ _ :: _) _) _ _ _); refine halt_in ?_))
   trivial
 example : True := by
   k_with "storeName" => ((have gm := mkPZ; clear gm); (dsimp only; walk_at "storeName"))
   trivial
 -- comprehensions
 example : True := by
   k_with "CompSrc" => ((have gm := mkPZ; clear gm); (k_here; k_dflt (first
  | (refine LCg.CompSrc.ledger (by rfl) (by k_asm) (by k_asm) (by k_mem) (by exact Nat.le_of_ble_eq_true rfl) ?_; intro g'; (try dsimp only); lcg_lit)
  | (refine LCg.CompSrc.range (by rfl) (by k_asm) (by k_asm) (by assumption) (by first | decide | rfl) (by first | rfl | decide) (by first | size_fits | exact Nat.le_of_ble_eq_true rfl) ?_; intro g'; (try dsimp only); lcg_lit))))
   trivial
 example : True := by
   k_with "CompRest" => ((have gm := mkPZ; clear gm); (with_unfolding_all first
  | (refine LCg.CompRest.succ ?_; intro v' I' oI' C' oC' D' m' h' tk' E' hv' hC' hx' F' N' off9' ne'; (first | lcg_open hv' | (obtain ⟨t9', hv9'⟩ := hv'; subst hv9')); have off' := off9'; (try simp only [LCg.Off3, and_true] at off'); (try dsimp only))
  | refine LCg.CompRest.zero ?_))
   trivial
 example : True := by
   k_with "CompEnd" => ((have gm := mkPZ; clear gm); ((try dsimp only); (rename LCg.Off3 _ _ _ _ => o9_PZx80); (rename News _ _ _ _ => n9_PZx80); (rename Fr _ _ _ _ => f9_PZx80); refine' LCg.CompEnd.intro ?z9ca ?z9cb _ ?z9cd ?z9ce ?z9cf ?_; (case z9ca => exact f9_PZx80); (case z9ce => exact o9_PZx80); (case z9cb => exact n9_PZx80); (case z9cf => lcg_src); (case z9cd => lcg_sub); clear o9_PZx80; (try ((rename (_ ≠ _ ∧ _) ∧ _ => z_PZx80); clear z_PZx80)); (try ((rename _ ≠ _ ∧ _ ≠ _ ∧ _ ≠ _ => z_PZx80); clear z_PZx80))))
   trivial
 example : True := by
   k_with "CompSrcT" => ((have gm := mkPZ; clear gm); (k_here; (rename IntsAre _ (finInts (usesOf _)) => hI_PZx81); k_dflt (refine' LCt.CompSrcT.range ?z9c1 ?z9c2 ?z9c3 (by assumption) ?z9c4 (size_up _) ?z9c5 ?_; (case z9c1 => exact rfl); (case z9c2 => k_asm); (case z9c3 => k_asm); (case z9c4 => exact small_one (by omega) (by omega) (by omega) (by omega)); (case z9c5 => (rw [sizeLine_eq]; omega)); intro g'; refine lasts_rest (us := usesOf _) ?_ ?_ _ 0 [] ((Nat.zero_add _).trans (ints_len hI_PZx81)) .nil); (first | (intro i' k' ys' t' I' oI' C' oC' D' m' h' tk' E' hk' hC' hx' F' N' off9' ne'; (try dsimp only)) | (intro ys' hys'))))
   trivial
 -- items, slices
 example : True := by
   k_with "subscriptTail" => ((have gm := mkPZ; clear gm); (k_here; (with_reducible show wpAny _ _ (subscriptTail _ _ (Value.str _ _) (Value.int (List.getD (finInts _) _ _) _)) _ _ _); k_dflt (refine' item_F ?z9hk ?z9hz ?_; (case z9hk => exact rfl); (case z9hz => exact rfl)); intro t' tk' hl'))
   trivial
 example : True := by
   k_with "subscriptTail" => ((have gm := mkPZ; clear gm); (k_here; (with_reducible show wpAny _ _ (subscriptTail _ _ (Value.str _ _) (Value.int (Nat.cast (Fin.val _)) _)) _ _ _); k_dflt (first | (refine' item_F ?z9hk ?z9hz ?_; (case z9hk => exact rfl); (case z9hz => exact rfl)) | (refine' item_3 ?z9hz ?z9h0 ?z9h3 ?_; (case z9hz => exact rfl); (case z9h0 => omega); (case z9h3 => omega))); intro t' tk' hl'))
   trivial
 example : True := by
   k_with "subscriptTail" => ((have gm := mkPZ; clear gm); (k_here; (with_reducible show wpAny _ _ (subscriptTail _ _ (Value.str (List.getD _ _ _) _) (Value.int _ _)) _ _ _); k_dflt (refine' item_3 ?z9hz ?z9h0 ?z9h3 ?_; (case z9hz => exact bare_texts _); (case z9h0 => decide); (case z9h3 => decide)); intro t' tk' hl'))
   trivial
 example : True := by
   k_with "subscriptTail" => ((have gm := mkPZ; clear gm); (k_here; (with_reducible show wpAny _ _ (subscriptTail _ _ (Value.ref _) (Value.int (List.getD (finInts _) _ _) _)) _ _ _); k_dflt (refine' item_T4 ?z9N ?z9hm ?z9hk ?_; (case z9N => k_asm); (case z9hm => k_mem); (case z9hk => exact rfl)); intro t'))
   trivial
 example : True := by
   k_with "subscriptTail Name Name ref int" => ((have gm := mkPZ; clear gm); (k_here; (rename IntsAre _ (finInts (usesOf _)) => hI_PZx86); (rename _ = some (_ : Fin 4) => hk_PZx86); k_dflt (refine' item_U ?z9N ?z9m hI_PZx86 hk_PZx86 ?z9j ?z9z ?_; (case z9N => k_asm); (case z9m => k_mem); (case z9j => omega); (case z9z => exact Nat.le_trans (usesOf_len (take24 _)) (by decide))); intro t'))
   trivial
 example : True := by
   k_with "subscriptTail Name Slice ref ref" => ((have gm := mkPZ; clear gm); (k_here; (try dsimp only); (rename IntsAre _ (finInts (usesOf _)) => hI_PZx87); k_dflt (refine' slice_U ?z9F ?z9N ?z9l ?z9p ?z9q hI_PZx87 (usesOf_len (take24 _)) ?z9m ?_; (case z9F => k_asm); (case z9N => k_asm); (case z9l => exact News.isList (by k_asm) (by k_mem)); (case z9p => kmk_part); (case z9q => kmk_part); (case z9m => first | exact from_U hI_PZx87 rfl | exact upto_U hI_PZx87 rfl)); intro D' ws' h' F' N' l1 hJ'; clear l1))
   trivial
 example : True := by
   k_with "subscriptTail Name Slice ref ref" => ((have gm := mkPZ; clear gm); (k_here; (rename IntsAre _ (finInts (usesOf _)) => hI_PZx88); (rename _ = some (_ : Fin 4) => hk_PZx88); (try dsimp only); k_dflt (refine' slice_U ?z9F ?z9N ?z9l ?z9p ?z9q hI_PZx88 (usesOf_len (take24 _)) ?z9m ?_; (case z9F => k_asm); (case z9N => k_asm); (case z9l => exact News.isList (by k_asm) (by k_mem)); (case z9p => exact IsPart.int _ _); (case z9q => exact IsPart.none); (case z9m => exact from_K hI_PZx88 hk_PZx88 rfl)); intro D' ws' h' F' N' l1 hJ'; clear l1))
   trivial
 -- tests
 example : True := by
   k_with "compareOp NotIn int ref" => ((have gm := mkPZ; clear gm); (k_here; k_dflt (refine' notin_U ?z9N ?z9m ?z9i ?_; (case z9N => k_asm); (case z9m => k_mem); (case z9i => assumption))))
   trivial
 example : True := by
   k_with "compareOp In int ref" => ((have gm := mkPZ; clear gm); (k_here; k_dflt (refine' in_U ?z9N ?z9m ?z9i ?_; (case z9N => k_asm); (case z9m => k_mem); (case z9i => assumption))))
   trivial
 example : True := by
   k_with "eval BoolOp" => ((have gm := mkPZ; clear gm); (k_here; k_dflt (refine' or_D ?z9hx ?z9hy ?z9h1 ?z9h2 ?_; (case z9h1 => (intro Q' hQ'; k_steps; exact hQ' _)); (case z9h2 => (intro tk' Q' hQ'; k_steps; exact hQ' _ _)); (case z9hx => first | (with_reducible exact place_len' _ (by assumption)) | exact bare_len _ (by assumption)); (case z9hy => first | (with_reducible exact place_or _) | exact rfl)); intro t' tk'; (try dsimp only)))
   trivial
 example : True := by
   k_with "compareOp NotEq str str" => ((have gm := mkPZ; clear gm); (k_here; k_dflt (first | (with_reducible refine' ne_same rfl ?_) | ((rename _ = fore _ (usesOf _) => ho_PZx92); refine' ne_same (cut_o ho_PZx92) ?_))))
   trivial
 example : True := by
   k_with "compareOp NotEq bool bool" => ((have gm := mkPZ; clear gm); (k_here; k_dflt (first | ((rename _ = fore _ (usesOf _) => ho_PZx93); refine' ne_sameB (rec_mem ho_PZx93 _) ?_) | ((rename _ = List.length (α := Fin 4) _ => hl_PZx93); refine' ne_sameB (lev_mem hl_PZx93 _) ?_))))
   trivial
 -- texts
 example : True := by
   k_with "callWith ref" => ((have gm := mkPZ; clear gm); (k_here; k_dflt (first
  | (refine' callWith_K ?z9k1 ?z9k2 ?_; (case z9k1 => k_asm); (case z9k2 => k_is); k_whole)
  | (refine' callWith_K0 ?z9k1 ?z9k2 ?_; (case z9k1 => k_in); (case z9k2 => k_is); k_whole))))
   trivial
 example : True := by
   k_with "binaryOp Add str str" => ((have gm := mkPZ; clear gm); (k_here; (try dsimp only); k_dflt (refine' add_S ?z9z ?_; (case z9z => first | exact Nat.le_of_ble_eq_true (by kernel_rfl!) | omega | (simp only [len_eq1, len_item, Str.length_append]; omega) | exact Nat.le_trans (Nat.add_le_add (Nat.le_of_ble_eq_true rfl : _ ≤ 20) (by assumption : _ ≤ 200)) (by decide))); intro t' tk' hl'))
   trivial
 example : True := by
   k_with "binaryOp Add str str" => ((have gm := mkPZ; clear gm); (k_here; (with_reducible show wpAny _ _ (binaryOp _ (Value.str _ _) (Value.str (Txt.item _ (Nat.cast (Fin.val _))) _)) _ _ _); k_dflt (refine' add_S ?z9z ?_; (case z9z => exact Nat.le_of_ble_eq_true (by kernel_rfl!))); intro t' tk' hl'))
   trivial
 example : True := by
   k_with "binaryOp Add str str" => ((have gm := mkPZ; clear gm); (k_here; (with_reducible show wpAny _ _ (binaryOp _ (Value.str (HAppend.hAppend _ (Txt.item _ (Nat.cast (Fin.val _)))) _) (Value.str _ _)) _ _ _); k_dflt (refine' add_S ?z9z ?_; (case z9z => exact Nat.le_of_ble_eq_true (by kernel_rfl!))); intro t' tk' hl'))
   trivial
 example : True := by
   k_with "call builtin:str.join" => ((have gm := mkPZ; clear gm); (k_here; k_dflt (refine' joinS_S ?z9l ?z9i ?z9w ?_; (case z9l => is_list); (case z9i => repeat' (first | exact StrsAre.nil | refine' StrsAre.cons _ _ ?_)); (case z9w => first | exact Nat.le_of_ble_eq_true rfl | ((simp only [List.map_cons, List.map_nil, List.sum_cons, List.sum_nil, List.length_cons, List.length_nil, Str.length_append, len_eq1, len_item]); first | done | decide | omega))); intro t' tk' hl'))
   trivial
 -- calls
 example : True := by
   k_with "call ref" => ((have gm := mkPZ; clear gm); (k_here; (with_reducible show wpAny _ _ (call (Value.ref 241) _ _) _ _ _); (rename StrsAre _ (linksT _) => hL_PZx99); (rename _ = fore _ (usesOf _) => ho_PZx99); k_dflt (refine' Cg.use (place_law _ _ _ _ (rrOf_le _) hL_PZx99 ?z9kU ?z9kz ?z9ko) ?z9k1 ?z9k2 ?z9k3 ?z9k4 ?z9k6 ?z9k7 ?z9k8 ?_; (case z9k1 => k_asm); (case z9k2 => k_asm); (case z9k3 => k_asm); (case z9k4 => k_asm); (case z9k8 => exact ⟨News.isList (by k_asm) (by k_mem), News.isList (by k_asm) (by k_mem)⟩); (case z9kU => assumption); (case z9kz => first | with_reducible exact row_ul | with_reducible exact row_ll | with_reducible exact row_rl | with_reducible exact row_tl | with_reducible exact row_dl); (case z9ko => first | with_reducible exact row_u ho_PZx99 | with_reducible exact row_l ho_PZx99 | with_reducible exact row_r ho_PZx99 | exact rfl); (case z9k6 => tb_start); (case z9k7 => tb_start)); intro v' add' h' tk' hv' F' N'; obtain ⟨ha', t', hv'⟩ := hv'; subst hv'; subst ha'; simp only [List.nil_append] at N'; (try k_sweep)))
   trivial
 example : True := by
   k_with "call ref" => ((have gm := mkPZ; clear gm); (k_here; (with_reducible show wpAny _ _ (call (Value.ref 132) _ _) _ _ _); k_dflt (refine' Cg.use (join_law _ _ _ _ (fore_le3 _ _) (fore_le3 _ _)) ?z9k1 ?z9k2 ?z9k3 ?z9k4 ?z9k6 ?z9k7 ?z9k8 ?_; (case z9k1 => k_asm); (case z9k2 => k_asm); (case z9k3 => k_asm); (case z9k4 => k_asm); (case z9k8 => trivial); (case z9k6 => tb_start); (case z9k7 => tb_start)); intro v' add' h' tk' hv' F' N'; obtain ⟨ha', t', hv'⟩ := hv'; subst hv'; subst ha'; simp only [List.nil_append] at N'; (try k_sweep)))
   trivial
 example : True := by
   k_with "call ref" => ((have gm := mkPZ; clear gm); (k_here; (with_reducible show wpAny _ _ (call (Value.ref 146) _ _) _ _ _); k_dflt (refine' Cg.use (norm_law _ _ _ (fore_le3 _ _) (fore_le3 _ _)) ?z9k1 ?z9k2 ?z9k3 ?z9k4 ?z9k6 ?z9k7 ?z9k8 ?_; (case z9k1 => k_asm); (case z9k2 => k_asm); (case z9k3 => k_asm); (case z9k4 => k_asm); (case z9k8 => trivial); (case z9k6 => tb_start); (case z9k7 => tb_start)); intro v' add' h' tk' hv' F' N'; obtain ⟨ha', t', hv'⟩ := hv'; subst hv'; subst ha'; simp only [List.nil_append] at N'; (try k_sweep)))
   trivial
 example : True := by
   k_with "call ref" => ((have gm := mkPZ; clear gm); (k_here; (with_reducible show wpAny _ _ (call (Value.ref 189) _ _) _ _ _); k_dflt (refine' Cg.use (decode_law _ _ (by assumption)) ?z9k1 ?z9k2 ?z9k3 ?z9k4 ?z9k6 ?z9k7 ?z9k8 ?_; (case z9k1 => k_asm); (case z9k2 => k_asm); (case z9k3 => k_asm); (case z9k4 => k_asm); (case z9k8 => trivial); (case z9k6 => tb_start); (case z9k7 => tb_start)); intro v' add' h' tk' hv' F' N'; obtain ⟨ha', t', hv'⟩ := hv'; subst hv'; subst ha'; simp only [List.nil_append] at N'; (try k_sweep)))
   trivial
 example : True := by
   k_with "call ref" => ((have gm := mkPZ; clear gm); (k_here; (with_reducible show wpAny _ _ (call (Value.ref 201) [Value.str (HAppend.hAppend (HAppend.hAppend (PySem.Str.ofString "*=") _) _) _] _) _ _ _); k_dflt (refine' Cg.use (trans_A _ _) ?z9k1 ?z9k2 ?z9k3 ?z9k4 ?z9k6 ?z9k7 ?z9k8 ?_; (case z9k1 => k_asm); (case z9k2 => k_asm); (case z9k3 => k_asm); (case z9k4 => k_asm); (case z9k8 => trivial); (case z9k6 => tb_start); (case z9k7 => tb_start)); intro v' add' h' tk' hv' F' N'; obtain ⟨ha', t', hv'⟩ := hv'; subst hv'; subst ha'; simp only [List.nil_append] at N'; (try k_sweep)))
   trivial
 example : True := by
   k_with "call ref" => ((have gm := mkPZ; clear gm); (k_here; (with_reducible show wpAny _ _ (call (Value.ref 201) [Value.str (HAppend.hAppend (HAppend.hAppend (PySem.Str.ofString "*=?") _) _) _] _) _ _ _); k_dflt (refine' Cg.use (trans_B _ _) ?z9k1 ?z9k2 ?z9k3 ?z9k4 ?z9k6 ?z9k7 ?z9k8 ?_; (case z9k1 => k_asm); (case z9k2 => k_asm); (case z9k3 => k_asm); (case z9k4 => k_asm); (case z9k8 => trivial); (case z9k6 => tb_start); (case z9k7 => tb_start)); intro v' add' h' tk' hv' F' N'; obtain ⟨ha', t', hv'⟩ := hv'; subst hv'; subst ha'; simp only [List.nil_append] at N'; (try k_sweep)))
   trivial
 example : True := by
   k_with "call ref" => ((have gm := mkPZ; clear gm); (k_here; (with_reducible show wpAny _ _ (call (Value.ref 246) [Value.str (txtT 61 (50 + _) 46) _, _] _) _ _ _); k_dflt (refine' Cg.use (takes_A _ (by assumption) _ _ _) ?z9k1 ?z9k2 ?z9k3 ?z9k4 ?z9k6 ?z9k7 ?z9k8 ?_; (case z9k1 => k_asm); (case z9k2 => k_asm); (case z9k3 => k_asm); (case z9k4 => k_asm); (case z9k8 => trivial); (case z9k6 => tb_start); (case z9k7 => tb_start)); intro v' add' h' tk' hv' F' N'; obtain ⟨ha', hv'⟩ := hv'; subst hv'; subst ha'; simp only [List.nil_append] at N'; (try k_sweep)))
   trivial
 example : True := by
   k_with "call ref" => ((have gm := mkPZ; clear gm); (k_here; (with_reducible show wpAny _ _ (call (Value.ref 246) [Value.str (txtT 61 46 _) _, _] _) _ _ _); k_dflt (refine' Cg.use (takes_B _ (by assumption) _ _ _) ?z9k1 ?z9k2 ?z9k3 ?z9k4 ?z9k6 ?z9k7 ?z9k8 ?_; (case z9k1 => k_asm); (case z9k2 => k_asm); (case z9k3 => k_asm); (case z9k4 => k_asm); (case z9k8 => trivial); (case z9k6 => tb_start); (case z9k7 => tb_start)); intro v' add' h' tk' hv' F' N'; obtain ⟨ha', hv'⟩ := hv'; subst hv'; subst ha'; simp only [List.nil_append] at N'; (try k_sweep)))
   trivial
 -- loops
 example : True := by
   k_with "exec For Name Call cons nil" => ((have gm := mkPZ; clear gm); (k_here; (rename Fr _ _ _ _ => lF_PZx107); (with_unfolding_all refine' For_invVF lF_PZx107 ?z9k1 ?z9k2 ?_; (case z9k1 => exact rfl); (case z9k2 => exact rfl); k_whole)))
   trivial
 example : True := by
   k_with "pyIter ref" => ((have gm := mkPZ; clear gm); (k_here; (with_reducible show wpAny _ _ (pyIter (Value.ref _)) (fun it s₂ => LoopAtV _ _ _ _ _ _ _ _ _ it s₂) _ _); (rename IsRange _ _ _ _ _ _ _ _ => rg_PZx108); (rename Fr _ _ _ _ => lF_PZx108); (rename News _ _ _ _ => lN_PZx108); (with_unfolding_all refine' it_r0 (by decide) ?z9q2 rg_PZx108 lF_PZx108 lN_PZx108 ?_ ?_; (case z9q2 => exact rfl)); (first | (intro I' k' tl' h' tk' o' F' N'; simp only [List.cons_append, List.nil_append] at N') | (intro u' h' tk' F' N'))))
   trivial
set_option maxHeartbeats 40000000 in
theorem walk : PySem.Challenge.rw_rt0091_01.Holds := by
  refine holds_law hd.said fun sd => ?_
  refine holds_open (q := hd.view_39) (loose := hd.loose) (Xt := hd.Xt) (XP := XL hd.view_39 hd.lits) (Yf := hd.Hk.obs) (Ya := hd.Hk.val) (YP := hd.Hk.says) (N := hd.N0) hd.left hd.Hk.of hd.Hk.keeps (fun s e => xl_of s (Bool.and_eq_true_iff.mp e).1) XL.keeps (by rfl) (by rfl) (by rfl) (fun s e => recFacts_of (Bool.and_eq_true_iff.mp e).2) (by rfl) sd (by decide +kernel) ⟨rfl, rfl, rfl, rfl, rfl, by decide +kernel⟩ ?hw ?hc
  all_goals clear sd
  case hw => w_witness2
  k_go0
  have mkPZ : True := trivial
  all_goals (try k_fold)
  (rename Obj.data _ = Data.cell _ => d4); have d4' : _ = Data.cell none := d4; clear d4; revert d4'
  (rename Obj.data _ = Data.cell _ => d4); have d4' : _ = Data.cell none := d4; clear d4; revert d4'
  (rename Obj.data _ = Data.cell _ => d4); have d4' : _ = Data.cell none := d4; clear d4; revert d4'
  (rename Obj.data _ = Data.cell _ => d4); have d4' : _ = Data.cell none := d4; clear d4; revert d4'
  intro d1 d2 d3 d4
  have oc : OwnCell _ := d1
  (rename CellsAre _ _ _ => X0); clear X0
  (rename Fr _ _ _ _ => lF)
  replace lF : Fr _ _ _ (fun z => if z = PySem.Str.ofString "script" then some (.ref _) else none) := lF
  dsimp only
  k_steps
  refine halt_out ?_
  (repeat ((rename Value → Shared → Prop => z'); clear z'))
  (repeat ((rename (_ ≠ _ ∧ _) => z'); clear z'))
  (repeat ((rename (@LT.lt Nat _ _ _ ∧ _) => z'); clear z'))
  (rename News _ _ _ _ => lN)
  refine law_mid lN rfl rfl rfl rfl ?_
  clear lN
  intro vL hvL hvl lN
  (rename IntsAre _ (finInts (recRun _ _ _).2) => hO)
  (rename IntsAre _ (finInts (recRun _ _ _).1.reverse) => hX)
  refine owners_law hO hX ?_
  clear hO
  intro o ho hol hO hvo hwl
  refine wpAny_execs_cons ?_
  k_steps
  refine halt_out ?_
  (rename Fr _ _ _ _ => lF)
  (rename News _ _ _ _ => lN)
  (rename IntsAre _ (downL _) => hV)
  refine cut_str (PySem.Str.ofString "place") (placeT o) lF lN ?_ ?_
  · intro Q' hQ
    rcases o with _ | ⟨a, _ | ⟨b, _ | ⟨c, _ | ⟨d, o⟩⟩⟩⟩
    · have e := ints_lit0 hO
      subst e
      have e := down0 hV
      subst e
      simp only [List.length_nil] at lF
      k_steps
      (try dsimp only)
      (rename Fr _ _ _ _ => lF2); (rename News _ _ _ _ => lN2)
      exact hQ _ _ _ _ _ lF2 lN2 (by kcj_all) (by decide +kernel)
    · obtain ⟨t, e⟩ := ints_lit1 hO
      subst e
      obtain ⟨u, e⟩ := down1 hV
      subst e
      simp only [List.length_cons, List.length_nil] at lF
      k_steps
      (try dsimp only)
      (rename Fr _ _ _ _ => lF2); (rename News _ _ _ _ => lN2)
      exact hQ _ _ _ _ _ lF2 lN2 (by kcj_all) (by rw [dig_it a]; kernel_rfl)
    · obtain ⟨t1, t2, e⟩ := ints_lit2 hO
      subst e
      obtain ⟨u1, u2, e⟩ := down2 hV
      subst e
      simp only [List.length_cons, List.length_nil] at lF
      k_steps
      (try dsimp only)
      (rename Fr _ _ _ _ => lF2); (rename News _ _ _ _ => lN2)
      exact hQ _ _ _ _ _ lF2 lN2 (by kcj_all) (by rw [dig_it b, dig_it a]; kernel_rfl)
    · obtain ⟨t1, t2, t3, e⟩ := ints_lit3 hO
      subst e
      obtain ⟨u1, u2, u3, e⟩ := down3 hV
      subst e
      simp only [List.length_cons, List.length_nil] at lF
      k_steps
      (try dsimp only)
      (rename Fr _ _ _ _ => lF2); (rename News _ _ _ _ => lN2)
      exact hQ _ _ _ _ _ lF2 lN2 (by kcj_all) (by rw [dig_it c, dig_it b, dig_it a]; kernel_rfl)
    · exfalso
      simp only [List.length_cons] at hol
      omega
  clear lF lN
  intro h' tk' t lF lN
  refine cut_str (PySem.Str.ofString "bare") (bareT o) lF lN ?_ ?_
  · intro Q' hQ
    rcases o with _ | ⟨a, _ | ⟨b, _ | ⟨c, _ | ⟨d, o⟩⟩⟩⟩
    · have e := ints_lit0 hO
      subst e
      have e := down0 hV
      subst e
      simp only [List.length_nil] at lF
      k_steps
      (try dsimp only)
      (rename Fr _ _ _ _ => lF2); (rename News _ _ _ _ => lN2)
      exact hQ _ _ _ _ _ lF2 lN2 (by kcj_all) (by decide +kernel)
    · obtain ⟨t, e⟩ := ints_lit1 hO
      subst e
      obtain ⟨u, e⟩ := down1 hV
      subst e
      simp only [List.length_cons, List.length_nil] at lF
      k_steps
      (try dsimp only)
      (rename Fr _ _ _ _ => lF2); (rename News _ _ _ _ => lN2)
      exact hQ _ _ _ _ _ lF2 lN2 (by kcj_all) (by rw [own_it1 a]; kernel_rfl)
    · obtain ⟨t1, t2, e⟩ := ints_lit2 hO
      subst e
      obtain ⟨u1, u2, e⟩ := down2 hV
      subst e
      simp only [List.length_cons, List.length_nil] at lF
      k_steps
      (try dsimp only)
      (rename Fr _ _ _ _ => lF2); (rename News _ _ _ _ => lN2)
      exact hQ _ _ _ _ _ lF2 lN2 (by kcj_all) (by rw [own_it2 b, own_it1 a]; kernel_rfl)
    · obtain ⟨t1, t2, t3, e⟩ := ints_lit3 hO
      subst e
      obtain ⟨u1, u2, u3, e⟩ := down3 hV
      subst e
      simp only [List.length_cons, List.length_nil] at lF
      k_steps
      (try dsimp only)
      (rename Fr _ _ _ _ => lF2); (rename News _ _ _ _ => lN2)
      exact hQ _ _ _ _ _ lF2 lN2 (by kcj_all) (by rw [own_it3 c, own_it2 b, own_it1 a]; kernel_rfl)
    · exfalso
      simp only [List.length_cons] at hol
      omega
  clear lF lN
  intro h' tk' t lF lN
  (rename IntsAre _ (finInts (usesOf _)) => hU)
  refine cut_lasts (PySem.Str.ofString "lasts") hU lF lN ?_ ?_
  · intro Q' hQ
    k_steps
    · assumption
    · first | assumption | exact Decidable.of_not_not (by assumption)
    · (rename IntsAre _ (finInts (lasts _)) => hys'); (rename Fr _ _ _ _ => lF2); (rename News _ _ _ _ => lN2)
      exact hQ _ _ _ _ _ _ lF2 lN2 (fun p hp => hp) hys'
  clear lF lN
  intro h' tk' D vs n lF lN hJ
  refine cut_name (PySem.Str.ofString "row") lF lN ?_ ?_
  · intro Q' hQ
    k_steps
    (rename Fr _ _ _ _ => lF2); (rename News _ _ _ _ => lN2)
    exact hQ _ _ _ _ lF2 (by intro z hz; simp only [if_neg hz]) lN2 (by kcj_all)
  clear lF lN
  intro h' tk' u lF lN
  refine cut_nat (PySem.Str.ofString "cut") lF lN ?_ ?_
  · intro Q' hQ
    k_steps
    (try dsimp only)
    (rename Fr _ _ _ _ => lF2); (rename News _ _ _ _ => lN2)
    exact hQ _ _ _ _ _ (by first | exact Int.fmod_nonneg_of_pos _ (by omega) | exact Int.emod_nonneg _ (by omega)) lF2 lN2 (by kcj_all)
  clear lF lN
  intro h' tk' c t lF lN
  refine cut_same lF lN ?_ ?_
  · intro Q' hQ
    k_steps
    (rename Fr _ _ _ _ => lF2); (rename News _ _ _ _ => lN2)
    exact hQ _ _ _ lF2 lN2 (by kcj_all)
  clear lF lN
  intro h' tk' lF lN
  refine cut_same lF lN ?_ ?_
  · intro Q' hQ
    k_steps
    (rename Fr _ _ _ _ => lF2); (rename News _ _ _ _ => lN2)
    exact hQ _ _ _ lF2 lN2 (by kcj_all)
  clear lF lN
  intro h' tk' lF lN
  refine cut_name (PySem.Str.ofString "k") lF lN ?_ ?_
  · intro Q' hQ
    k_steps
    · (rename Fr _ _ _ _ => lF2); (rename News _ _ _ _ => lN2)
      exact TE_0 lF2 lN2 (by kcj_all)
    · (rename Fr _ _ _ _ => lF2); (rename News _ _ _ _ => lN2)
      exact hQ _ _ _ _ lF2 (by intro z hz; simp only [if_neg hz]) lN2 (by kcj_all)
  clear lF lN
  intro h' tk' u lF lN
  refine cut_name (PySem.Str.ofString "k") lF lN ?_ ?_
  · intro Q' hQ
    k_steps
    · (rename Fr _ _ _ _ => lF2); (rename News _ _ _ _ => lN2)
      exact TE_0 lF2 lN2 (by kcj_all)
    · (rename Fr _ _ _ _ => lF2); (rename News _ _ _ _ => lN2)
      exact hQ _ _ _ _ lF2 (by intro z hz; simp only [if_neg hz]) lN2 (by kcj_all)
  clear lF lN
  intro h' tk' u F' N'
  k_steps
end

end Nine
theorem PySem.Challenge.cw_rt0091_01_holds : PySem.Challenge.rw_rt0091_01.Holds :=
  Nine.walk
