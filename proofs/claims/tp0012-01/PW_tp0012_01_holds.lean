import PyProof.Rows.All
import Wide.All
import OpenK.AllK
import Wide.FinOn
import PyProof.TableTree
import PyProof.FactsTree
import PyProof.PlainAttrs
import Lean
import PySem.Challenge.RW_tp0012_01
set_option Elab.async false
section
open PySem PySem.W PyProof.Rows
set_option Elab.async false
set_option maxRecDepth 100000
set_option maxHeartbeats 8000000
namespace Mine
def defOf : Stmt → Arguments × List Stmt × Scope
  | .FunctionDef _ a b _ _ _ s .. => (a, b, s)
  | _ => (⟨[], [], none, [], [], none, []⟩, [], ⟨.function, [], false, false, []⟩)
def defAt (k : Nat) : Arguments × List Stmt × Scope := match PySem.Challenge.pw_tp0012_01.main.body.drop k with
  | s :: _ => defOf s
  | [] => (⟨[], [], none, [], [], none, []⟩, [], ⟨.function, [], false, false, []⟩)
noncomputable def hd.args_52 : Arguments := by
  apply (?f : (x : Arguments) → (h : x = (defAt 52).1) → Arguments)
  case h => conv => rhs; whnf
  case f => exact fun x _ => x
noncomputable def hd.body_52 : List Stmt := by
  apply (?f : (x : List Stmt) → (h : x = (defAt 52).2.1) → List Stmt)
  case h => conv => rhs; whnf
  case f => exact fun x _ => x
noncomputable def hd.scope_52 : Scope := by
  apply (?f : (x : Scope) → (h : x = (defAt 52).2.2) → Scope)
  case h => conv => rhs; whnf
  case f => exact fun x _ => x
noncomputable def hd.args_56 : Arguments := by
  apply (?f : (x : Arguments) → (h : x = (defAt 56).1) → Arguments)
  case h => conv => rhs; whnf
  case f => exact fun x _ => x
noncomputable def hd.body_56 : List Stmt := by
  apply (?f : (x : List Stmt) → (h : x = (defAt 56).2.1) → List Stmt)
  case h => conv => rhs; whnf
  case f => exact fun x _ => x
noncomputable def hd.scope_56 : Scope := by
  apply (?f : (x : Scope) → (h : x = (defAt 56).2.2) → Scope)
  case h => conv => rhs; whnf
  case f => exact fun x _ => x
noncomputable def hd.args_61 : Arguments := by
  apply (?f : (x : Arguments) → (h : x = (defAt 61).1) → Arguments)
  case h => conv => rhs; whnf
  case f => exact fun x _ => x
noncomputable def hd.body_61 : List Stmt := by
  apply (?f : (x : List Stmt) → (h : x = (defAt 61).2.1) → List Stmt)
  case h => conv => rhs; whnf
  case f => exact fun x _ => x
noncomputable def hd.scope_61 : Scope := by
  apply (?f : (x : Scope) → (h : x = (defAt 61).2.2) → Scope)
  case h => conv => rhs; whnf
  case f => exact fun x _ => x
noncomputable def hd.args_63 : Arguments := by
  apply (?f : (x : Arguments) → (h : x = (defAt 63).1) → Arguments)
  case h => conv => rhs; whnf
  case f => exact fun x _ => x
noncomputable def hd.body_63 : List Stmt := by
  apply (?f : (x : List Stmt) → (h : x = (defAt 63).2.1) → List Stmt)
  case h => conv => rhs; whnf
  case f => exact fun x _ => x
noncomputable def hd.scope_63 : Scope := by
  apply (?f : (x : Scope) → (h : x = (defAt 63).2.2) → Scope)
  case h => conv => rhs; whnf
  case f => exact fun x _ => x
noncomputable def hd.args_64 : Arguments := by
  apply (?f : (x : Arguments) → (h : x = (defAt 64).1) → Arguments)
  case h => conv => rhs; whnf
  case f => exact fun x _ => x
noncomputable def hd.body_64 : List Stmt := by
  apply (?f : (x : List Stmt) → (h : x = (defAt 64).2.1) → List Stmt)
  case h => conv => rhs; whnf
  case f => exact fun x _ => x
noncomputable def hd.scope_64 : Scope := by
  apply (?f : (x : Scope) → (h : x = (defAt 64).2.2) → Scope)
  case h => conv => rhs; whnf
  case f => exact fun x _ => x
noncomputable def hd.args_65 : Arguments := by
  apply (?f : (x : Arguments) → (h : x = (defAt 65).1) → Arguments)
  case h => conv => rhs; whnf
  case f => exact fun x _ => x
noncomputable def hd.body_65 : List Stmt := by
  apply (?f : (x : List Stmt) → (h : x = (defAt 65).2.1) → List Stmt)
  case h => conv => rhs; whnf
  case f => exact fun x _ => x
noncomputable def hd.scope_65 : Scope := by
  apply (?f : (x : Scope) → (h : x = (defAt 65).2.2) → Scope)
  case h => conv => rhs; whnf
  case f => exact fun x _ => x
noncomputable def hd.args_66 : Arguments := by
  apply (?f : (x : Arguments) → (h : x = (defAt 66).1) → Arguments)
  case h => conv => rhs; whnf
  case f => exact fun x _ => x
noncomputable def hd.body_66 : List Stmt := by
  apply (?f : (x : List Stmt) → (h : x = (defAt 66).2.1) → List Stmt)
  case h => conv => rhs; whnf
  case f => exact fun x _ => x
noncomputable def hd.scope_66 : Scope := by
  apply (?f : (x : Scope) → (h : x = (defAt 66).2.2) → Scope)
  case h => conv => rhs; whnf
  case f => exact fun x _ => x
noncomputable def hd.args_67 : Arguments := by
  apply (?f : (x : Arguments) → (h : x = (defAt 67).1) → Arguments)
  case h => conv => rhs; whnf
  case f => exact fun x _ => x
noncomputable def hd.body_67 : List Stmt := by
  apply (?f : (x : List Stmt) → (h : x = (defAt 67).2.1) → List Stmt)
  case h => conv => rhs; whnf
  case f => exact fun x _ => x
noncomputable def hd.scope_67 : Scope := by
  apply (?f : (x : Scope) → (h : x = (defAt 67).2.2) → Scope)
  case h => conv => rhs; whnf
  case f => exact fun x _ => x
noncomputable def hd.args_68 : Arguments := by
  apply (?f : (x : Arguments) → (h : x = (defAt 68).1) → Arguments)
  case h => conv => rhs; whnf
  case f => exact fun x _ => x
noncomputable def hd.body_68 : List Stmt := by
  apply (?f : (x : List Stmt) → (h : x = (defAt 68).2.1) → List Stmt)
  case h => conv => rhs; whnf
  case f => exact fun x _ => x
noncomputable def hd.scope_68 : Scope := by
  apply (?f : (x : Scope) → (h : x = (defAt 68).2.2) → Scope)
  case h => conv => rhs; whnf
  case f => exact fun x _ => x
noncomputable def hd.args_69 : Arguments := by
  apply (?f : (x : Arguments) → (h : x = (defAt 69).1) → Arguments)
  case h => conv => rhs; whnf
  case f => exact fun x _ => x
noncomputable def hd.body_69 : List Stmt := by
  apply (?f : (x : List Stmt) → (h : x = (defAt 69).2.1) → List Stmt)
  case h => conv => rhs; whnf
  case f => exact fun x _ => x
noncomputable def hd.scope_69 : Scope := by
  apply (?f : (x : Scope) → (h : x = (defAt 69).2.2) → Scope)
  case h => conv => rhs; whnf
  case f => exact fun x _ => x
noncomputable def hd.args_70 : Arguments := by
  apply (?f : (x : Arguments) → (h : x = (defAt 70).1) → Arguments)
  case h => conv => rhs; whnf
  case f => exact fun x _ => x
noncomputable def hd.body_70 : List Stmt := by
  apply (?f : (x : List Stmt) → (h : x = (defAt 70).2.1) → List Stmt)
  case h => conv => rhs; whnf
  case f => exact fun x _ => x
noncomputable def hd.scope_70 : Scope := by
  apply (?f : (x : Scope) → (h : x = (defAt 70).2.2) → Scope)
  case h => conv => rhs; whnf
  case f => exact fun x _ => x
noncomputable def hd.args_71 : Arguments := by
  apply (?f : (x : Arguments) → (h : x = (defAt 71).1) → Arguments)
  case h => conv => rhs; whnf
  case f => exact fun x _ => x
noncomputable def hd.body_71 : List Stmt := by
  apply (?f : (x : List Stmt) → (h : x = (defAt 71).2.1) → List Stmt)
  case h => conv => rhs; whnf
  case f => exact fun x _ => x
noncomputable def hd.scope_71 : Scope := by
  apply (?f : (x : Scope) → (h : x = (defAt 71).2.2) → Scope)
  case h => conv => rhs; whnf
  case f => exact fun x _ => x
noncomputable def hd.args_72 : Arguments := by
  apply (?f : (x : Arguments) → (h : x = (defAt 72).1) → Arguments)
  case h => conv => rhs; whnf
  case f => exact fun x _ => x
noncomputable def hd.body_72 : List Stmt := by
  apply (?f : (x : List Stmt) → (h : x = (defAt 72).2.1) → List Stmt)
  case h => conv => rhs; whnf
  case f => exact fun x _ => x
noncomputable def hd.scope_72 : Scope := by
  apply (?f : (x : Scope) → (h : x = (defAt 72).2.2) → Scope)
  case h => conv => rhs; whnf
  case f => exact fun x _ => x
noncomputable def hd.args_73 : Arguments := by
  apply (?f : (x : Arguments) → (h : x = (defAt 73).1) → Arguments)
  case h => conv => rhs; whnf
  case f => exact fun x _ => x
noncomputable def hd.body_73 : List Stmt := by
  apply (?f : (x : List Stmt) → (h : x = (defAt 73).2.1) → List Stmt)
  case h => conv => rhs; whnf
  case f => exact fun x _ => x
noncomputable def hd.scope_73 : Scope := by
  apply (?f : (x : Scope) → (h : x = (defAt 73).2.2) → Scope)
  case h => conv => rhs; whnf
  case f => exact fun x _ => x
abbrev hd.life : Life := (Life.mk [] [] [] 0 [] [] Bool.false #[] [] 0 Bool.false Bool.false Bool.false 0 [2000, 10, 10] Bool.false 0 Bool.true [] [] 0 Bool.false)
abbrev en (P : Params) (n : String) (t : Nat) (v : Value) : DictEntry := ⟨PyData.keyHash P (Str.ofString n), .str (Str.ofString n) t, v⟩
noncomputable def hd.o_41 : Params → Obj := (fun P => (Obj.mk (Value.type "dict") (Option.none) (Data.dict (List.toArray ((en P "__name__" 1 (Value.str (Str.ofString "builtins") 160)) :: (en P "__doc__" 2 (Value.builtin "builtins.__doc__:str#opaque")) :: (en P "__package__" 3 (Value.builtin "builtins.__package__:str#opaque")) :: (en P "__loader__" 4 (Value.builtin "builtins.__loader__:shared#opaque")) :: (en P "__spec__" 5 (Value.builtin "builtins.__spec__#opaque")) :: (en P "__build_class__" 6 (Value.builtin "__build_class__")) :: (en P "__import__" 7 (Value.builtin "__import__")) :: (en P "abs" 8 (Value.builtin "abs")) :: (en P "all" 9 (Value.builtin "all")) :: (en P "any" 10 (Value.builtin "any")) :: (en P "ascii" 11 (Value.builtin "ascii")) :: (en P "bin" 12 (Value.builtin "bin")) :: (en P "breakpoint" 13 (Value.builtin "breakpoint")) :: (en P "callable" 14 (Value.builtin "callable")) :: (en P "chr" 15 (Value.builtin "chr")) :: (en P "compile" 16 (Value.builtin "compile")) :: (en P "delattr" 17 (Value.builtin "delattr")) :: (en P "dir" 18 (Value.builtin "dir")) :: (en P "divmod" 19 (Value.builtin "divmod")) :: (en P "eval" 20 (Value.builtin "eval")) :: (en P "exec" 21 (Value.builtin "exec")) :: (en P "format" 22 (Value.builtin "format")) :: (en P "getattr" 23 (Value.builtin "getattr")) :: (en P "globals" 24 (Value.builtin "globals")) :: (en P "hasattr" 25 (Value.builtin "hasattr")) :: (en P "hash" 26 (Value.builtin "hash")) :: (en P "hex" 27 (Value.builtin "hex")) :: (en P "id" 28 (Value.builtin "id")) :: (en P "input" 29 (Value.builtin "input")) :: (en P "isinstance" 30 (Value.builtin "isinstance")) :: (en P "issubclass" 31 (Value.builtin "issubclass")) :: (en P "iter" 32 (Value.builtin "iter")) :: (en P "aiter" 33 (Value.builtin "aiter")) :: (en P "len" 34 (Value.builtin "len")) :: (en P "locals" 35 (Value.builtin "locals")) :: (en P "max" 36 (Value.builtin "max")) :: (en P "min" 37 (Value.builtin "min")) :: (en P "next" 38 (Value.builtin "next")) :: (en P "anext" 39 (Value.builtin "anext")) :: (en P "oct" 40 (Value.builtin "oct")) :: (en P "ord" 41 (Value.builtin "ord")) :: (en P "pow" 42 (Value.builtin "pow")) :: (en P "print" 43 (Value.builtin "print")) :: (en P "repr" 44 (Value.builtin "repr")) :: (en P "round" 45 (Value.builtin "round")) :: (en P "setattr" 46 (Value.builtin "setattr")) :: (en P "sorted" 47 (Value.builtin "sorted")) :: (en P "sum" 48 (Value.builtin "sum")) :: (en P "vars" 49 (Value.builtin "vars")) :: (en P "None" 50 Value.none) :: (en P "Ellipsis" 51 Value.ellipsis) :: (en P "NotImplemented" 52 Value.notImplemented) :: (en P "False" 53 (Value.bool Bool.false)) :: (en P "True" 54 (Value.bool Bool.true)) :: (en P "bool" 55 (Value.type "bool")) :: (en P "memoryview" 56 (Value.type "memoryview")) :: (en P "bytearray" 57 (Value.type "bytearray")) :: (en P "bytes" 58 (Value.type "bytes")) :: (en P "classmethod" 59 (Value.type "classmethod")) :: (en P "complex" 60 (Value.type "complex")) :: (en P "dict" 61 (Value.type "dict")) :: (en P "enumerate" 62 (Value.type "enumerate")) :: (en P "filter" 63 (Value.type "filter")) :: (en P "float" 64 (Value.type "float")) :: (en P "frozenset" 65 (Value.type "frozenset")) :: (en P "property" 66 (Value.type "property")) :: (en P "int" 67 (Value.type "int")) :: (en P "list" 68 (Value.type "list")) :: (en P "map" 69 (Value.type "map")) :: (en P "object" 70 (Value.type "object")) :: (en P "range" 71 (Value.type "range")) :: (en P "reversed" 72 (Value.type "reversed")) :: (en P "set" 73 (Value.type "set")) :: (en P "slice" 74 (Value.type "slice")) :: (en P "staticmethod" 75 (Value.type "staticmethod")) :: (en P "str" 76 (Value.type "str")) :: (en P "super" 77 (Value.type "super")) :: (en P "tuple" 78 (Value.type "tuple")) :: (en P "type" 79 (Value.type "type")) :: (en P "zip" 80 (Value.type "zip")) :: (en P "__debug__" 81 (Value.bool Bool.true)) :: (en P "BaseException" 82 (Value.type "BaseException")) :: (en P "BaseExceptionGroup" 83 (Value.type "BaseExceptionGroup")) :: (en P "Exception" 84 (Value.type "Exception")) :: (en P "GeneratorExit" 85 (Value.type "GeneratorExit")) :: (en P "KeyboardInterrupt" 86 (Value.type "KeyboardInterrupt")) :: (en P "SystemExit" 87 (Value.type "SystemExit")) :: (en P "ArithmeticError" 88 (Value.type "ArithmeticError")) :: (en P "AssertionError" 89 (Value.type "AssertionError")) :: (en P "AttributeError" 90 (Value.type "AttributeError")) :: (en P "BufferError" 91 (Value.type "BufferError")) :: (en P "EOFError" 92 (Value.type "EOFError")) :: (en P "ImportError" 93 (Value.type "ImportError")) :: (en P "LookupError" 94 (Value.type "LookupError")) :: (en P "MemoryError" 95 (Value.type "MemoryError")) :: (en P "NameError" 96 (Value.type "NameError")) :: (en P "OSError" 97 (Value.type "OSError")) :: (en P "ReferenceError" 98 (Value.type "ReferenceError")) :: (en P "RuntimeError" 99 (Value.type "RuntimeError")) :: (en P "StopAsyncIteration" 100 (Value.type "StopAsyncIteration")) :: (en P "StopIteration" 101 (Value.type "StopIteration")) :: (en P "SyntaxError" 102 (Value.type "SyntaxError")) :: (en P "SystemError" 103 (Value.type "SystemError")) :: (en P "TypeError" 104 (Value.type "TypeError")) :: (en P "ValueError" 105 (Value.type "ValueError")) :: (en P "Warning" 106 (Value.type "Warning")) :: (en P "FloatingPointError" 107 (Value.type "FloatingPointError")) :: (en P "OverflowError" 108 (Value.type "OverflowError")) :: (en P "ZeroDivisionError" 109 (Value.type "ZeroDivisionError")) :: (en P "BytesWarning" 110 (Value.type "BytesWarning")) :: (en P "DeprecationWarning" 111 (Value.type "DeprecationWarning")) :: (en P "EncodingWarning" 112 (Value.type "EncodingWarning")) :: (en P "FutureWarning" 113 (Value.type "FutureWarning")) :: (en P "ImportWarning" 114 (Value.type "ImportWarning")) :: (en P "PendingDeprecationWarning" 115 (Value.type "PendingDeprecationWarning")) :: (en P "ResourceWarning" 116 (Value.type "ResourceWarning")) :: (en P "RuntimeWarning" 117 (Value.type "RuntimeWarning")) :: (en P "SyntaxWarning" 118 (Value.type "SyntaxWarning")) :: (en P "UnicodeWarning" 119 (Value.type "UnicodeWarning")) :: (en P "UserWarning" 120 (Value.type "UserWarning")) :: (en P "BlockingIOError" 121 (Value.type "BlockingIOError")) :: (en P "ChildProcessError" 122 (Value.type "ChildProcessError")) :: (en P "ConnectionError" 123 (Value.type "ConnectionError")) :: (en P "FileExistsError" 124 (Value.type "FileExistsError")) :: (en P "FileNotFoundError" 125 (Value.type "FileNotFoundError")) :: (en P "InterruptedError" 126 (Value.type "InterruptedError")) :: (en P "IsADirectoryError" 127 (Value.type "IsADirectoryError")) :: (en P "NotADirectoryError" 128 (Value.type "NotADirectoryError")) :: (en P "PermissionError" 129 (Value.type "PermissionError")) :: (en P "ProcessLookupError" 130 (Value.type "ProcessLookupError")) :: (en P "TimeoutError" 131 (Value.type "TimeoutError")) :: (en P "IndentationError" 132 (Value.type "IndentationError")) :: (en P "_IncompleteInputError" 133 (Value.type "_IncompleteInputError")) :: (en P "IndexError" 134 (Value.type "IndexError")) :: (en P "KeyError" 135 (Value.type "KeyError")) :: (en P "ModuleNotFoundError" 136 (Value.type "ModuleNotFoundError")) :: (en P "NotImplementedError" 137 (Value.type "NotImplementedError")) :: (en P "PythonFinalizationError" 138 (Value.type "PythonFinalizationError")) :: (en P "RecursionError" 139 (Value.type "RecursionError")) :: (en P "UnboundLocalError" 140 (Value.type "UnboundLocalError")) :: (en P "UnicodeError" 141 (Value.type "UnicodeError")) :: (en P "BrokenPipeError" 142 (Value.type "BrokenPipeError")) :: (en P "ConnectionAbortedError" 143 (Value.type "ConnectionAbortedError")) :: (en P "ConnectionRefusedError" 144 (Value.type "ConnectionRefusedError")) :: (en P "ConnectionResetError" 145 (Value.type "ConnectionResetError")) :: (en P "TabError" 146 (Value.type "TabError")) :: (en P "UnicodeDecodeError" 147 (Value.type "UnicodeDecodeError")) :: (en P "UnicodeEncodeError" 148 (Value.type "UnicodeEncodeError")) :: (en P "UnicodeTranslateError" 149 (Value.type "UnicodeTranslateError")) :: (en P "ExceptionGroup" 150 (Value.type "ExceptionGroup")) :: (en P "EnvironmentError" 151 (Value.type "OSError")) :: (en P "IOError" 152 (Value.type "OSError")) :: (en P "open" 153 (Value.builtin "open")) :: (en P "quit" 154 (Value.builtin "builtins.quit#opaque")) :: (en P "exit" 155 (Value.builtin "builtins.exit#opaque")) :: (en P "copyright" 156 (Value.builtin "builtins.copyright#opaque")) :: (en P "credits" 157 (Value.builtin "builtins.credits#opaque")) :: (en P "license" 158 (Value.builtin "builtins.license#opaque")) :: (en P "help" 159 (Value.builtin "builtins.help#opaque")) :: [])) 159) #[]))
noncomputable def hd.o_42 : Params → Obj := (fun P => (Obj.mk (Value.type "dict") (Option.none) (Data.dict #[(en P "builtins" 162 (Value.ref 4)), (en P "__main__" 163 (Value.ref 5)), (en P "_sre" 244 (Value.ref 12))] 3) #[]))
noncomputable def hd.o_43 : Params → Obj := (fun P => (Obj.mk Value.none (Option.none) (Data.dict #[(en P "\x69mport.loaded._sre" 183 (Value.bool Bool.true)), (en P "class._frozen_importlib.BuiltinImporter" 185 (Value.ref 14)), (en P "watched.\x69mport" 206 (Value.ref 18)), (en P "class._frozen_importlib.ModuleSpec" 216 (Value.ref 22)), (en P "sys.modules.booked-epoch" 245 (Value.int 3 0)), (en P "\x69mport.later-laid._sre" 270 (Value.bool Bool.true)), (en P "watched.library" 272 (Value.ref 27)), (en P "watched.library-objects" 0 (Value.str (Str.ofString "\x0c") 0)), (en P "watched.library-deep._sre" 273 (Value.str (Str.ofString "\x04\x00\x00\x0b\x04\x00\x00\x0b\x04\x00\x00\x03\x04\x00\x00\x0b\x08\x04dict\x02") 0))] 9) #[]))
noncomputable def hd.o_44 : Params → Obj := (fun P => (Obj.mk (Value.type "dict") (Option.none) (Data.dict #[(en P "__name__" 165 (Value.str (Str.ofString "__main__") 164)), (en P "__doc__" 166 Value.none), (en P "__package__" 167 Value.none), (en P "__loader__" 168 (Value.builtin "__main__.__loader__#opaque")), (en P "__spec__" 169 Value.none), (en P "__annotations__" 170 (Value.ref 6)), (en P "__builtins__" 171 (Value.ref 4)), (en P "__file__" 173 (Value.str (Str.ofString "/claim/cut.py") 172)), (en P "__cached__" 174 Value.none), (en P "_sre" 275 (Value.ref 12))] 10) #[]))
noncomputable def hd.o_45 : Params → Obj := (fun P => (Obj.mk (Value.type "module") (Option.some 0) Data.plain #[]))
noncomputable def hd.o_46 : Params → Obj := (fun P => (Obj.mk (Value.type "module") (Option.some 3) Data.plain #[]))
noncomputable def hd.o_47 : Params → Obj := (fun P => (Obj.mk (Value.type "dict") (Option.none) (Data.dict #[] 0) #[]))
noncomputable def hd.o_48 : Params → Obj := (fun P => (Obj.mk (Value.type "tuple") (Option.none) (Data.seq #[] 0) #[]))
noncomputable def hd.o_49 : Params → Obj := (fun P => (Obj.mk Value.none (Option.none) (Data.fields #[]) #[]))
noncomputable def hd.o_50 : Params → Obj := (fun P => (Obj.mk (Value.type "code") (Option.none) (Data.fields #[(Value.str (Str.ofString "<module>") 176), (Value.str (Str.ofString "<module>") 177), (Value.str (Str.ofString "/claim/cut.py") 178), (Value.int 1 0), (Value.int 0 0), (Value.int 0 0), (Value.int 0 0), (Value.int 0 0), (Value.ref 7), (Value.bool Bool.false), (Value.int 175 0), (Value.ref 8), Value.none, Value.none, Value.none, Value.none, (Value.int 179 0), (Value.int 1 0), (Value.str (Str.ofString "/claim/cut.py") 180)]) #[]))
noncomputable def hd.o_51 : Params → Obj := (fun P => (Obj.mk (Value.type "frame") (Option.none) Data.plain #[(Option.some (Value.ref 9)), (Option.some (Value.ref 3)), (Option.some (Value.ref 3)), (Option.none), (Option.some (Value.str (Str.ofString "__main__") 164)), (Option.none), (Option.some (Value.ref 0))]))
noncomputable def hd.o_277 : Params → Obj := (fun P => (Obj.mk (Value.type "dict") (Option.none) (Data.dict #[(en P "__name__" 247 (Value.str (Str.ofString "_sre") 246)), (en P "__doc__" 248 Value.none), (en P "__package__" 250 (Value.str (Str.ofString "") 249)), (en P "__loader__" 251 (Value.ref 14)), (en P "__spec__" 252 (Value.ref 26)), (en P "compile" 253 (Value.builtin "_sre.compile")), (en P "template" 254 (Value.builtin "_sre.template")), (en P "getcodesize" 255 (Value.builtin "_sre.getcodesize")), (en P "ascii_iscased" 256 (Value.builtin "_sre.ascii_iscased")), (en P "unicode_iscased" 257 (Value.builtin "_sre.unicode_iscased")), (en P "ascii_tolower" 258 (Value.builtin "_sre.ascii_tolower")), (en P "unicode_tolower" 259 (Value.builtin "_sre.unicode_tolower")), (en P "MAGIC" 261 (Value.int 20230612 260)), (en P "CODESIZE" 263 (Value.int 4 262)), (en P "MAXREPEAT" 265 (Value.int 4294967295 264)), (en P "MAXGROUPS" 267 (Value.int 1073741823 266)), (en P "copyright" 269 (Value.str (Str.ofString " SRE 2.2.2 Copyright (c) 1997-2002 by Secret Labs AB ") 268))] 17) #[]))
noncomputable def hd.o_53 : Params → Obj := (fun P => (Obj.mk (Value.type "module") (Option.some 11) Data.plain #[]))
noncomputable def hd.o_54 : Params → Obj := (fun P => (Obj.mk (Value.type "dict") (Option.none) (Data.dict #[(en P "__module__" 189 (Value.str (Str.ofString "_frozen_importlib") 186)), (en P "__firstlineno__" 190 (Value.int 971 187)), (en P "__doc__" 191 (Value.builtin "_frozen_importlib.BuiltinImporter.__doc__:str#opaque")), (en P "_ORIGIN" 192 (Value.str (Str.ofString "built-in") 188)), (en P "find_spec" 193 (Value.builtin "_frozen_importlib.BuiltinImporter.find_spec#opaque")), (en P "create_module" 194 (Value.builtin "_frozen_importlib.BuiltinImporter.create_module#opaque")), (en P "exec_module" 195 (Value.builtin "_frozen_importlib.BuiltinImporter.exec_module#opaque")), (en P "get_code" 196 (Value.builtin "_frozen_importlib.BuiltinImporter.get_code#opaque")), (en P "get_source" 197 (Value.builtin "_frozen_importlib.BuiltinImporter.get_source#opaque")), (en P "is_package" 198 (Value.builtin "_frozen_importlib.BuiltinImporter.is_package#opaque")), (en P "load_module" 199 (Value.builtin "_frozen_importlib.BuiltinImporter.load_module#opaque")), (en P "__static_attributes__" 200 (Value.ref 15)), (en P "__dict__" 202 (Value.ref 16)), (en P "__weakref__" 204 (Value.ref 17))] 14) #[]))
noncomputable def hd.o_55 : Params → Obj := (fun P => (Obj.mk (Value.type "type") (Option.none) (Data.cls (ClassData.mk (Str.ofString "BuiltinImporter") [(Value.type "object")] [(Value.ref 14), (Value.type "object")] 13 (Str.ofString "BuiltinImporter") Bool.true [] [] Bool.false (Option.none) Bool.false)) #[]))
noncomputable def hd.o_56 : Params → Obj := (fun P => (Obj.mk (Value.type "tuple") (Option.none) (Data.seq #[] 0) #[]))
noncomputable def hd.o_57 : Params → Obj := (fun P => (Obj.mk (Value.type "getset_descriptor") (Option.none) (Data.fields #[(Value.str (Str.ofString "__dict__") 201), (Value.ref 14), (Value.builtin "function.__dict__"), (Value.builtin "function.__dict__#set")]) #[]))
noncomputable def hd.o_58 : Params → Obj := (fun P => (Obj.mk (Value.type "getset_descriptor") (Option.none) (Data.fields #[(Value.str (Str.ofString "__weakref__") 203), (Value.ref 14), (Value.builtin "ExceptionGroup.__weakref__"), Value.none]) #[]))
noncomputable def hd.o_59 : Params → Obj := (fun P => (Obj.mk Value.none (Option.none) (Data.seq #[(Value.int 13 0), (Value.str (Str.ofString "\x06½\n__module__\x06º\x11_frozen_importlib\x06¾\x0f__firstlineno__\x04»\x00ϋ\x06¿\x07__doc__\t4_frozen_importlib.BuiltinImporter.__doc__:str#opaque\x06À\x07_ORIGIN\x06¼\x08built-in\x06Á\tfind_spec\t2_frozen_importlib.BuiltinImporter.find_spec#opaque\x06Â\x0dcreate_module\t6_frozen_importlib.BuiltinImporter.create_module#opaque\x06Ã\x0bexec_module\t4_frozen_importlib.BuiltinImporter.exec_module#opaque\x06Ä\x08get_code\t1_frozen_importlib.BuiltinImporter.get_code#opaque\x06Å\nget_source\t3_frozen_importlib.BuiltinImporter.get_source#opaque\x06Æ\nis_package\t3_frozen_importlib.BuiltinImporter.is_package#opaque\x06Ç\x0bload_module\t4_frozen_importlib.BuiltinImporter.load_module#opaque\x06È\x15__static_attributes__\x04\x00\x00\x0f\x06Ê\x08__dict__\x04\x00\x00\x10\x06Ì\x0b__weakref__\x04\x00\x00\x11") 0), (Value.bool Bool.true), (Value.bool Bool.true), (Value.str (Str.ofString "") 205), (Value.int 21 0), (Value.str (Str.ofString "\x06ã\n__module__\x06Ù\x11_frozen_importlib\x06ä\x0f__firstlineno__\x04Ú\x00Ȳ\x06å\x07__doc__\t/_frozen_importlib.ModuleSpec.__doc__:str#opaque\x06æ\x08__init__\t,_frozen_importlib.ModuleSpec.__init__#opaque\x06ç\x08__repr__\t,_frozen_importlib.ModuleSpec.__repr__#opaque\x06è\x06__eq__\t*_frozen_importlib.ModuleSpec.__eq__#opaque\x06é\x06cached\t*_frozen_importlib.ModuleSpec.cached#opaque\x06ê\x06parent\t*_frozen_importlib.ModuleSpec.parent#opaque\x06ë\x0chas_location\t0_frozen_importlib.ModuleSpec.has_location#opaque\x06ì\x15__static_attributes__\x04\x00\x00\x17\x06î\x08__dict__\x04\x00\x00\x18\x06ð\x0b__weakref__\x04\x00\x00\x19\x06ñ\x08__hash__\x00") 0), (Value.bool Bool.true), (Value.bool Bool.true), (Value.str (Str.ofString "") 242)] 1) #[]))
noncomputable def hd.o_60 : Params → Obj := (fun P => (Obj.mk (Value.type "list") (Option.none) (Data.seq #[] 0) #[]))
noncomputable def hd.o_61 : Params → Obj := (fun P => (Obj.mk (Value.type "dict") (Option.none) (Data.dict #[(en P "name" 208 (Value.str (Str.ofString "_sre") 207)), (en P "loader" 209 (Value.ref 14)), (en P "origin" 210 (Value.str (Str.ofString "built-in") 184)), (en P "loader_state" 211 Value.none), (en P "submodule_search_locations" 212 Value.none), (en P "_uninitialized_submodules" 213 (Value.ref 19)), (en P "_set_fileattr" 214 (Value.bool Bool.false)), (en P "_cached" 215 Value.none), (en P "_initializing" 243 (Value.bool Bool.false))] 9) #[]))
noncomputable def hd.o_62 : Params → Obj := (fun P => (Obj.mk (Value.type "dict") (Option.none) (Data.dict #[(en P "__module__" 227 (Value.str (Str.ofString "_frozen_importlib") 217)), (en P "__firstlineno__" 228 (Value.int 562 218)), (en P "__doc__" 229 (Value.builtin "_frozen_importlib.ModuleSpec.__doc__:str#opaque")), (en P "__init__" 230 (Value.builtin "_frozen_importlib.ModuleSpec.__init__#opaque")), (en P "__repr__" 231 (Value.builtin "_frozen_importlib.ModuleSpec.__repr__#opaque")), (en P "__eq__" 232 (Value.builtin "_frozen_importlib.ModuleSpec.__eq__#opaque")), (en P "cached" 233 (Value.builtin "_frozen_importlib.ModuleSpec.cached#opaque")), (en P "parent" 234 (Value.builtin "_frozen_importlib.ModuleSpec.parent#opaque")), (en P "has_location" 235 (Value.builtin "_frozen_importlib.ModuleSpec.has_location#opaque")), (en P "__static_attributes__" 236 (Value.ref 23)), (en P "__dict__" 238 (Value.ref 24)), (en P "__weakref__" 240 (Value.ref 25)), (en P "__hash__" 241 Value.none)] 13) #[]))
noncomputable def hd.o_63 : Params → Obj := (fun P => (Obj.mk (Value.type "type") (Option.none) (Data.cls (ClassData.mk (Str.ofString "ModuleSpec") [(Value.type "object")] [(Value.ref 22), (Value.type "object")] 21 (Str.ofString "ModuleSpec") Bool.true [] [] Bool.false (Option.none) Bool.false)) #[]))
noncomputable def hd.o_64 : Params → Obj := (fun P => (Obj.mk (Value.type "tuple") (Option.none) (Data.seq #[(Value.str (Str.ofString "_cached") 219), (Value.str (Str.ofString "_set_fileattr") 220), (Value.str (Str.ofString "_uninitialized_submodules") 221), (Value.str (Str.ofString "loader") 222), (Value.str (Str.ofString "loader_state") 223), (Value.str (Str.ofString "name") 224), (Value.str (Str.ofString "origin") 225), (Value.str (Str.ofString "submodule_search_locations") 226)] 0) #[]))
noncomputable def hd.o_65 : Params → Obj := (fun P => (Obj.mk (Value.type "getset_descriptor") (Option.none) (Data.fields #[(Value.str (Str.ofString "__dict__") 237), (Value.ref 22), (Value.builtin "function.__dict__"), (Value.builtin "function.__dict__#set")]) #[]))
noncomputable def hd.o_66 : Params → Obj := (fun P => (Obj.mk (Value.type "getset_descriptor") (Option.none) (Data.fields #[(Value.str (Str.ofString "__weakref__") 239), (Value.ref 22), (Value.builtin "ExceptionGroup.__weakref__"), Value.none]) #[]))
noncomputable def hd.o_67 : Params → Obj := (fun P => (Obj.mk (Value.ref 22) (Option.some 20) Data.plain #[]))
noncomputable def hd.o_68 : Params → Obj := (fun P => (Obj.mk Value.none (Option.none) (Data.seq #[(Value.int 11 0), (Value.str (Str.mk (List.toArray (6 :: 247 :: 8 :: 95 :: 95 :: 110 :: 97 :: 109 :: 101 :: 95 :: 95 :: 6 :: 246 :: 4 :: 95 :: 115 :: 114 :: 101 :: 6 :: 248 :: 7 :: 95 :: 95 :: 100 :: 111 :: 99 :: 95 :: 95 :: 0 :: 6 :: 250 :: 11 :: 95 :: 95 :: 112 :: 97 :: 99 :: 107 :: 97 :: 103 :: 101 :: 95 :: 95 :: 6 :: 249 :: 0 :: 6 :: 251 :: 10 :: 95 :: 95 :: 108 :: 111 :: 97 :: 100 :: 101 :: 114 :: 95 :: 95 :: 4 :: 0 :: 0 :: 14 :: 6 :: 252 :: 8 :: 95 :: 95 :: 115 :: 112 :: 101 :: 99 :: 95 :: 95 :: 4 :: 0 :: 0 :: 26 :: 6 :: 253 :: 7 :: 99 :: 111 :: 109 :: 112 :: 105 :: 108 :: 101 :: 9 :: 12 :: 95 :: 115 :: 114 :: 101 :: 46 :: 99 :: 111 :: 109 :: 112 :: 105 :: 108 :: 101 :: 6 :: 254 :: 8 :: 116 :: 101 :: 109 :: 112 :: 108 :: 97 :: 116 :: 101 :: 9 :: 13 :: 95 :: 115 :: 114 :: 101 :: 46 :: 116 :: 101 :: 109 :: 112 :: 108 :: 97 :: 116 :: 101 :: 6 :: 255 :: 11 :: 103 :: 101 :: 116 :: 99 :: 111 :: 100 :: 101 :: 115 :: 105 :: 122 :: 101 :: 9 :: 16 :: 95 :: 115 :: 114 :: 101 :: 46 :: 103 :: 101 :: 116 :: 99 :: 111 :: 100 :: 101 :: 115 :: 105 :: 122 :: 101 :: 6 :: 256 :: 13 :: 97 :: 115 :: 99 :: 105 :: 105 :: 95 :: 105 :: 115 :: 99 :: 97 :: 115 :: 101 :: 100 :: 9 :: 18 :: 95 :: 115 :: 114 :: 101 :: 46 :: 97 :: 115 :: 99 :: 105 :: 105 :: 95 :: 105 :: 115 :: 99 :: 97 :: 115 :: 101 :: 100 :: 6 :: 257 :: 15 :: 117 :: 110 :: 105 :: 99 :: 111 :: 100 :: 101 :: 95 :: 105 :: 115 :: 99 :: 97 :: 115 :: 101 :: 100 :: 9 :: 20 :: 95 :: 115 :: 114 :: 101 :: 46 :: 117 :: 110 :: 105 :: 99 :: 111 :: 100 :: 101 :: 95 :: 105 :: 115 :: 99 :: 97 :: 115 :: 101 :: 100 :: 6 :: 258 :: 13 :: 97 :: 115 :: 99 :: 105 :: 105 :: 95 :: 116 :: 111 :: 108 :: 111 :: 119 :: 101 :: 114 :: 9 :: 18 :: 95 :: 115 :: 114 :: 101 :: 46 :: 97 :: 115 :: 99 :: 105 :: 105 :: 95 :: 116 :: 111 :: 108 :: 111 :: 119 :: 101 :: 114 :: 6 :: 259 :: 15 :: 117 :: 110 :: 105 :: 99 :: 111 :: 100 :: 101 :: 95 :: 116 :: 111 :: 108 :: 111 :: 119 :: 101 :: 114 :: 9 :: 20 :: 95 :: 115 :: 114 :: 101 :: 46 :: 117 :: 110 :: 105 :: 99 :: 111 :: 100 :: 101 :: 95 :: 116 :: 111 :: 108 :: 111 :: 119 :: 101 :: 114 :: 6 :: 261 :: 5 :: 77 :: 65 :: 71 :: 73 :: 67 :: 4 :: 260 :: 0 :: 20230612 :: 6 :: 263 :: 8 :: 67 :: 79 :: 68 :: 69 :: 83 :: 73 :: 90 :: 69 :: 4 :: 262 :: 0 :: 4 :: 6 :: 265 :: 9 :: 77 :: 65 :: 88 :: 82 :: 69 :: 80 :: 69 :: 65 :: 84 :: 4 :: 264 :: 0 :: 4294967295 :: 6 :: 267 :: 9 :: 77 :: 65 :: 88 :: 71 :: 82 :: 79 :: 85 :: 80 :: 83 :: 4 :: 266 :: 0 :: 1073741823 :: 6 :: 269 :: 9 :: 99 :: 111 :: 112 :: 121 :: 114 :: 105 :: 103 :: 104 :: 116 :: 6 :: 268 :: 53 :: 32 :: 83 :: 82 :: 69 :: 32 :: 50 :: 46 :: 50 :: 46 :: 50 :: 32 :: 67 :: 111 :: 112 :: 121 :: 114 :: 105 :: 103 :: 104 :: 116 :: 32 :: 40 :: 99 :: 41 :: 32 :: 49 :: 57 :: 57 :: 55 :: 45 :: 50 :: 48 :: 48 :: 50 :: 32 :: 98 :: 121 :: 32 :: 83 :: 101 :: 99 :: 114 :: 101 :: 116 :: 32 :: 76 :: 97 :: 98 :: 115 :: 32 :: 65 :: 66 :: 32 :: []))) 0), (Value.bool Bool.true), (Value.bool Bool.false), (Value.str (Str.ofString "_sre") 271)] 0) #[]))
noncomputable def hd.o_52 : Params → Obj := (fun P => (Obj.mk (Value.type "dict") (Option.none) (Data.dict #[(en P "__name__" 247 (Value.str (Str.ofString "_sre") 246)), (en P "__doc__" 248 Value.none), (en P "__package__" 250 (Value.str (Str.ofString "") 249)), (en P "__loader__" 251 (Value.builtin "off-the-table:_sre.__loader__:shared#opaque")), (en P "__spec__" 252 (Value.builtin "off-the-table:_sre.__spec__:shared#opaque")), (en P "compile" 253 (Value.builtin "_sre.compile")), (en P "template" 254 (Value.builtin "off-the-table:_sre.template:shared#opaque")), (en P "getcodesize" 255 (Value.builtin "off-the-table:_sre.getcodesize:shared#opaque")), (en P "ascii_iscased" 256 (Value.builtin "off-the-table:_sre.ascii_iscased:shared#opaque")), (en P "unicode_iscased" 257 (Value.builtin "off-the-table:_sre.unicode_iscased:shared#opaque")), (en P "ascii_tolower" 258 (Value.builtin "off-the-table:_sre.ascii_tolower:shared#opaque")), (en P "unicode_tolower" 259 (Value.builtin "off-the-table:_sre.unicode_tolower:shared#opaque")), (en P "MAGIC" 261 (Value.int 20230612 260)), (en P "CODESIZE" 263 (Value.int 4 262)), (en P "MAXREPEAT" 265 (Value.int 4294967295 264)), (en P "MAXGROUPS" 267 (Value.int 1073741823 266)), (en P "copyright" 269 (Value.str (Str.ofString " SRE 2.2.2 Copyright (c) 1997-2002 by Secret Labs AB ") 268))] 17) #[]))
noncomputable def hd.o_69 : Params → Obj := (fun P => (Obj.mk (Value.type "tuple") (Option.none) (Data.seq #[] 0) #[]))
noncomputable def hd.o_70 : Params → Obj := (fun P => (Obj.mk Value.none (Option.none) (Data.fields #[]) #[]))
noncomputable def hd.o_71 : Params → Obj := (fun P => (Obj.mk (Value.type "code") (Option.none) (Data.fields #[(Value.str (Str.ofString "<module>") 277), (Value.str (Str.ofString "<module>") 278), (Value.str (Str.ofString "/claim/cut.py") 279), (Value.int 1 0), (Value.int 0 0), (Value.int 0 0), (Value.int 0 0), (Value.int 0 0), (Value.ref 28), (Value.bool Bool.false), (Value.int 276 0), (Value.ref 29), Value.none, Value.none, Value.none, Value.none, (Value.int 280 0), (Value.int 1 0), (Value.str (Str.ofString "/claim/cut.py") 281)]) #[]))
noncomputable def hd.o_72 : Params → Obj := (fun P => (Obj.mk (Value.type "frame") (Option.none) Data.plain #[(Option.some (Value.ref 30)), (Option.some (Value.ref 3)), (Option.some (Value.ref 3)), (Option.none), (Option.some (Value.str (Str.ofString "__main__") 164)), (Option.none), (Option.some (Value.ref 0))]))
noncomputable def hd.o_75 : Params → Obj := (fun P => (Obj.mk (Value.type "dict") (Option.none) (Data.dict (List.toArray ((en P "__name__" 165 (Value.str (Str.ofString "cpy313.token") 282)) :: (en P "__doc__" 166 Value.none) :: (en P "__package__" 167 Value.none) :: (en P "__loader__" 168 (Value.builtin "__main__.__loader__#opaque")) :: (en P "__spec__" 169 Value.none) :: (en P "__annotations__" 170 (Value.ref 6)) :: (en P "__builtins__" 171 (Value.ref 4)) :: (en P "__file__" 173 (Value.str (Str.ofString "/claim/cut.py") 172)) :: (en P "__cached__" 174 Value.none) :: (en P "_sre" 275 (Value.ref 12)) :: (en P "LPAR" 285 (Value.int 7 284)) :: (en P "RPAR" 287 (Value.int 8 286)) :: (en P "LSQB" 289 (Value.int 9 288)) :: (en P "RSQB" 291 (Value.int 10 290)) :: (en P "COLON" 293 (Value.int 11 292)) :: (en P "COMMA" 295 (Value.int 12 294)) :: (en P "SEMI" 297 (Value.int 13 296)) :: (en P "PLUS" 299 (Value.int 14 298)) :: (en P "MINUS" 301 (Value.int 15 300)) :: (en P "STAR" 303 (Value.int 16 302)) :: (en P "SLASH" 305 (Value.int 17 304)) :: (en P "VBAR" 307 (Value.int 18 306)) :: (en P "AMPER" 309 (Value.int 19 308)) :: (en P "LESS" 311 (Value.int 20 310)) :: (en P "GREATER" 313 (Value.int 21 312)) :: (en P "EQUAL" 315 (Value.int 22 314)) :: (en P "DOT" 317 (Value.int 23 316)) :: (en P "PERCENT" 319 (Value.int 24 318)) :: (en P "LBRACE" 321 (Value.int 25 320)) :: (en P "RBRACE" 323 (Value.int 26 322)) :: (en P "EQEQUAL" 325 (Value.int 27 324)) :: (en P "NOTEQUAL" 327 (Value.int 28 326)) :: (en P "LESSEQUAL" 329 (Value.int 29 328)) :: (en P "GREATEREQUAL" 331 (Value.int 30 330)) :: (en P "TILDE" 333 (Value.int 31 332)) :: (en P "CIRCUMFLEX" 335 (Value.int 32 334)) :: (en P "LEFTSHIFT" 337 (Value.int 33 336)) :: (en P "RIGHTSHIFT" 339 (Value.int 34 338)) :: (en P "DOUBLESTAR" 341 (Value.int 35 340)) :: (en P "PLUSEQUAL" 343 (Value.int 36 342)) :: (en P "MINEQUAL" 345 (Value.int 37 344)) :: (en P "STAREQUAL" 347 (Value.int 38 346)) :: (en P "SLASHEQUAL" 349 (Value.int 39 348)) :: (en P "PERCENTEQUAL" 351 (Value.int 40 350)) :: (en P "AMPEREQUAL" 353 (Value.int 41 352)) :: (en P "VBAREQUAL" 355 (Value.int 42 354)) :: (en P "CIRCUMFLEXEQUAL" 357 (Value.int 43 356)) :: (en P "LEFTSHIFTEQUAL" 359 (Value.int 44 358)) :: (en P "RIGHTSHIFTEQUAL" 361 (Value.int 45 360)) :: (en P "DOUBLESTAREQUAL" 363 (Value.int 46 362)) :: (en P "DOUBLESLASH" 365 (Value.int 47 364)) :: (en P "DOUBLESLASHEQUAL" 367 (Value.int 48 366)) :: (en P "AT" 369 (Value.int 49 368)) :: [])) 53) #[]))
noncomputable def hd.o_77 : Params → Obj := (fun P => (Obj.mk (Value.type "dict") (Option.none) (Data.dict (List.toArray ((en P "__name__" 165 (Value.str (Str.ofString "cpy313.token") 282)) :: (en P "__doc__" 166 Value.none) :: (en P "__package__" 167 Value.none) :: (en P "__loader__" 168 (Value.builtin "__main__.__loader__#opaque")) :: (en P "__spec__" 169 Value.none) :: (en P "__annotations__" 170 (Value.ref 6)) :: (en P "__builtins__" 171 (Value.ref 4)) :: (en P "__file__" 173 (Value.str (Str.ofString "/claim/cut.py") 172)) :: (en P "__cached__" 174 Value.none) :: (en P "_sre" 275 (Value.ref 12)) :: (en P "LPAR" 285 (Value.int 7 284)) :: (en P "RPAR" 287 (Value.int 8 286)) :: (en P "LSQB" 289 (Value.int 9 288)) :: (en P "RSQB" 291 (Value.int 10 290)) :: (en P "COLON" 293 (Value.int 11 292)) :: (en P "COMMA" 295 (Value.int 12 294)) :: (en P "SEMI" 297 (Value.int 13 296)) :: (en P "PLUS" 299 (Value.int 14 298)) :: (en P "MINUS" 301 (Value.int 15 300)) :: (en P "STAR" 303 (Value.int 16 302)) :: (en P "SLASH" 305 (Value.int 17 304)) :: (en P "VBAR" 307 (Value.int 18 306)) :: (en P "AMPER" 309 (Value.int 19 308)) :: (en P "LESS" 311 (Value.int 20 310)) :: (en P "GREATER" 313 (Value.int 21 312)) :: (en P "EQUAL" 315 (Value.int 22 314)) :: (en P "DOT" 317 (Value.int 23 316)) :: (en P "PERCENT" 319 (Value.int 24 318)) :: (en P "LBRACE" 321 (Value.int 25 320)) :: (en P "RBRACE" 323 (Value.int 26 322)) :: (en P "EQEQUAL" 325 (Value.int 27 324)) :: (en P "NOTEQUAL" 327 (Value.int 28 326)) :: (en P "LESSEQUAL" 329 (Value.int 29 328)) :: (en P "GREATEREQUAL" 331 (Value.int 30 330)) :: (en P "TILDE" 333 (Value.int 31 332)) :: (en P "CIRCUMFLEX" 335 (Value.int 32 334)) :: (en P "LEFTSHIFT" 337 (Value.int 33 336)) :: (en P "RIGHTSHIFT" 339 (Value.int 34 338)) :: (en P "DOUBLESTAR" 341 (Value.int 35 340)) :: (en P "PLUSEQUAL" 343 (Value.int 36 342)) :: (en P "MINEQUAL" 345 (Value.int 37 344)) :: (en P "STAREQUAL" 347 (Value.int 38 346)) :: (en P "SLASHEQUAL" 349 (Value.int 39 348)) :: (en P "PERCENTEQUAL" 351 (Value.int 40 350)) :: (en P "AMPEREQUAL" 353 (Value.int 41 352)) :: (en P "VBAREQUAL" 355 (Value.int 42 354)) :: (en P "CIRCUMFLEXEQUAL" 357 (Value.int 43 356)) :: (en P "LEFTSHIFTEQUAL" 359 (Value.int 44 358)) :: (en P "RIGHTSHIFTEQUAL" 361 (Value.int 45 360)) :: (en P "DOUBLESTAREQUAL" 363 (Value.int 46 362)) :: (en P "DOUBLESLASH" 365 (Value.int 47 364)) :: (en P "DOUBLESLASHEQUAL" 367 (Value.int 48 366)) :: (en P "AT" 369 (Value.int 49 368)) :: (en P "ATEQUAL" 371 (Value.int 50 370)) :: (en P "RARROW" 373 (Value.int 51 372)) :: (en P "ELLIPSIS" 375 (Value.int 52 374)) :: (en P "COLONEQUAL" 377 (Value.int 53 376)) :: (en P "EXCLAMATION" 379 (Value.int 54 378)) :: (en P "NT_OFFSET" 381 (Value.int 256 380)) :: [])) 59) #[]))
noncomputable def hd.o_79 : Params → Obj := (fun P => (Obj.mk (Value.type "dict") (Option.none) (Data.dict (List.toArray ((en P "__name__" 165 (Value.str (Str.ofString "cpy313.token") 282)) :: (en P "__doc__" 166 Value.none) :: (en P "__package__" 167 Value.none) :: (en P "__loader__" 168 (Value.builtin "__main__.__loader__#opaque")) :: (en P "__spec__" 169 Value.none) :: (en P "__annotations__" 170 (Value.ref 6)) :: (en P "__builtins__" 171 (Value.ref 4)) :: (en P "__file__" 173 (Value.str (Str.ofString "/claim/cut.py") 172)) :: (en P "__cached__" 174 Value.none) :: (en P "_sre" 275 (Value.ref 12)) :: (en P "LPAR" 285 (Value.int 7 284)) :: (en P "RPAR" 287 (Value.int 8 286)) :: (en P "LSQB" 289 (Value.int 9 288)) :: (en P "RSQB" 291 (Value.int 10 290)) :: (en P "COLON" 293 (Value.int 11 292)) :: (en P "COMMA" 295 (Value.int 12 294)) :: (en P "SEMI" 297 (Value.int 13 296)) :: (en P "PLUS" 299 (Value.int 14 298)) :: (en P "MINUS" 301 (Value.int 15 300)) :: (en P "STAR" 303 (Value.int 16 302)) :: (en P "SLASH" 305 (Value.int 17 304)) :: (en P "VBAR" 307 (Value.int 18 306)) :: (en P "AMPER" 309 (Value.int 19 308)) :: (en P "LESS" 311 (Value.int 20 310)) :: (en P "GREATER" 313 (Value.int 21 312)) :: (en P "EQUAL" 315 (Value.int 22 314)) :: (en P "DOT" 317 (Value.int 23 316)) :: (en P "PERCENT" 319 (Value.int 24 318)) :: (en P "LBRACE" 321 (Value.int 25 320)) :: (en P "RBRACE" 323 (Value.int 26 322)) :: (en P "EQEQUAL" 325 (Value.int 27 324)) :: (en P "NOTEQUAL" 327 (Value.int 28 326)) :: (en P "LESSEQUAL" 329 (Value.int 29 328)) :: (en P "GREATEREQUAL" 331 (Value.int 30 330)) :: (en P "TILDE" 333 (Value.int 31 332)) :: (en P "CIRCUMFLEX" 335 (Value.int 32 334)) :: (en P "LEFTSHIFT" 337 (Value.int 33 336)) :: (en P "RIGHTSHIFT" 339 (Value.int 34 338)) :: (en P "DOUBLESTAR" 341 (Value.int 35 340)) :: (en P "PLUSEQUAL" 343 (Value.int 36 342)) :: (en P "MINEQUAL" 345 (Value.int 37 344)) :: (en P "STAREQUAL" 347 (Value.int 38 346)) :: (en P "SLASHEQUAL" 349 (Value.int 39 348)) :: (en P "PERCENTEQUAL" 351 (Value.int 40 350)) :: (en P "AMPEREQUAL" 353 (Value.int 41 352)) :: (en P "VBAREQUAL" 355 (Value.int 42 354)) :: (en P "CIRCUMFLEXEQUAL" 357 (Value.int 43 356)) :: (en P "LEFTSHIFTEQUAL" 359 (Value.int 44 358)) :: (en P "RIGHTSHIFTEQUAL" 361 (Value.int 45 360)) :: (en P "DOUBLESTAREQUAL" 363 (Value.int 46 362)) :: (en P "DOUBLESLASH" 365 (Value.int 47 364)) :: (en P "DOUBLESLASHEQUAL" 367 (Value.int 48 366)) :: (en P "AT" 369 (Value.int 49 368)) :: (en P "ATEQUAL" 371 (Value.int 50 370)) :: (en P "RARROW" 373 (Value.int 51 372)) :: (en P "ELLIPSIS" 375 (Value.int 52 374)) :: (en P "COLONEQUAL" 377 (Value.int 53 376)) :: (en P "EXCLAMATION" 379 (Value.int 54 378)) :: (en P "NT_OFFSET" 381 (Value.int 256 380)) :: (en P "EXACT_TOKEN_TYPES" 478 (Value.ref 32)) :: [])) 60) #[]))
noncomputable def hd.o_81 : Params → Obj := (fun P => (Obj.mk (Value.type "dict") (Option.none) (Data.dict #[(en P "->" 416 (Value.int 51 372)), (en P "." 418 (Value.int 23 316)), (en P "..." 420 (Value.int 52 374)), (en P "/" 422 (Value.int 17 304)), (en P "//" 424 (Value.int 47 364)), (en P "//=" 426 (Value.int 48 366)), (en P "/=" 428 (Value.int 39 348)), (en P ":" 430 (Value.int 11 292)), (en P ":=" 432 (Value.int 53 376)), (en P ";" 434 (Value.int 13 296)), (en P "<" 436 (Value.int 20 310)), (en P "<<" 438 (Value.int 33 336)), (en P "<<=" 440 (Value.int 44 358)), (en P "<=" 442 (Value.int 29 328)), (en P "=" 444 (Value.int 22 314)), (en P "==" 446 (Value.int 27 324)), (en P ">" 448 (Value.int 21 312))] 17) #[]))
noncomputable def hd.o_80 : Params → Obj := (fun P => (Obj.mk (Value.type "dict") (Option.none) (Data.dict #[(en P "!" 382 (Value.int 54 378)), (en P "!=" 384 (Value.int 28 326)), (en P "%" 386 (Value.int 24 318)), (en P "%=" 388 (Value.int 40 350)), (en P "&" 390 (Value.int 19 308)), (en P "&=" 392 (Value.int 41 352)), (en P "(" 394 (Value.int 7 284)), (en P ")" 396 (Value.int 8 286)), (en P "*" 398 (Value.int 16 302)), (en P "**" 400 (Value.int 35 340)), (en P "**=" 402 (Value.int 46 362)), (en P "*=" 404 (Value.int 38 346)), (en P "+" 406 (Value.int 14 298)), (en P "+=" 408 (Value.int 36 342)), (en P "," 410 (Value.int 12 294)), (en P "-" 412 (Value.int 15 300)), (en P "-=" 414 (Value.int 37 344)), (en P "->" 416 (Value.int 51 372)), (en P "." 418 (Value.int 23 316)), (en P "..." 420 (Value.int 52 374)), (en P "/" 422 (Value.int 17 304)), (en P "//" 424 (Value.int 47 364)), (en P "//=" 426 (Value.int 48 366)), (en P "/=" 428 (Value.int 39 348)), (en P ":" 430 (Value.int 11 292)), (en P ":=" 432 (Value.int 53 376)), (en P ";" 434 (Value.int 13 296)), (en P "<" 436 (Value.int 20 310)), (en P "<<" 438 (Value.int 33 336)), (en P "<<=" 440 (Value.int 44 358)), (en P "<=" 442 (Value.int 29 328)), (en P "=" 444 (Value.int 22 314)), (en P "==" 446 (Value.int 27 324)), (en P ">" 448 (Value.int 21 312)), (en P ">=" 450 (Value.int 30 330)), (en P ">>" 451 (Value.int 34 338)), (en P ">>=" 452 (Value.int 45 360)), (en P "@" 453 (Value.int 49 368)), (en P "@=" 454 (Value.int 50 370)), (en P "[" 455 (Value.int 9 288)), (en P "]" 456 (Value.int 10 290)), (en P "^" 457 (Value.int 32 334)), (en P "^=" 458 (Value.int 43 356)), (en P "{" 459 (Value.int 25 320)), (en P "|" 460 (Value.int 18 306)), (en P "|=" 461 (Value.int 42 354)), (en P "}" 462 (Value.int 26 322)), (en P "~" 463 (Value.int 31 332))] 48) #[]))
noncomputable def hd.o_82 : Params → Obj := (fun P => (Obj.mk (Value.type "dict") (Option.none) (Data.dict #[(en P ">=" 450 (Value.int 30 330)), (en P ">>" 451 (Value.int 34 338)), (en P ">>=" 452 (Value.int 45 360)), (en P "@" 453 (Value.int 49 368)), (en P "@=" 454 (Value.int 50 370)), (en P "[" 455 (Value.int 9 288)), (en P "]" 456 (Value.int 10 290)), (en P "^" 457 (Value.int 32 334)), (en P "^=" 458 (Value.int 43 356)), (en P "{" 459 (Value.int 25 320)), (en P "|" 460 (Value.int 18 306)), (en P "|=" 461 (Value.int 42 354)), (en P "}" 462 (Value.int 26 322)), (en P "~" 463 (Value.int 31 332))] 14) #[]))
noncomputable def hd.o_87 : Params → Obj := (fun P => (Obj.mk (Value.type "dict") (Option.none) (Data.dict (List.toArray ((en P "__name__" 165 (Value.str (Str.ofString "cpy313.ftplib") 486)) :: (en P "__doc__" 166 Value.none) :: (en P "__package__" 167 Value.none) :: (en P "__loader__" 168 (Value.builtin "__main__.__loader__#opaque")) :: (en P "__spec__" 169 Value.none) :: (en P "__annotations__" 170 (Value.ref 6)) :: (en P "__builtins__" 171 (Value.ref 4)) :: (en P "__file__" 173 (Value.str (Str.ofString "/claim/cut.py") 172)) :: (en P "__cached__" 174 Value.none) :: (en P "_sre" 275 (Value.ref 12)) :: (en P "LPAR" 285 (Value.int 7 284)) :: (en P "RPAR" 287 (Value.int 8 286)) :: (en P "LSQB" 289 (Value.int 9 288)) :: (en P "RSQB" 291 (Value.int 10 290)) :: (en P "COLON" 293 (Value.int 11 292)) :: (en P "COMMA" 295 (Value.int 12 294)) :: (en P "SEMI" 297 (Value.int 13 296)) :: (en P "PLUS" 299 (Value.int 14 298)) :: (en P "MINUS" 301 (Value.int 15 300)) :: (en P "STAR" 303 (Value.int 16 302)) :: (en P "SLASH" 305 (Value.int 17 304)) :: (en P "VBAR" 307 (Value.int 18 306)) :: (en P "AMPER" 309 (Value.int 19 308)) :: (en P "LESS" 311 (Value.int 20 310)) :: (en P "GREATER" 313 (Value.int 21 312)) :: (en P "EQUAL" 315 (Value.int 22 314)) :: (en P "DOT" 317 (Value.int 23 316)) :: (en P "PERCENT" 319 (Value.int 24 318)) :: (en P "LBRACE" 321 (Value.int 25 320)) :: (en P "RBRACE" 323 (Value.int 26 322)) :: (en P "EQEQUAL" 325 (Value.int 27 324)) :: (en P "NOTEQUAL" 327 (Value.int 28 326)) :: (en P "LESSEQUAL" 329 (Value.int 29 328)) :: (en P "GREATEREQUAL" 331 (Value.int 30 330)) :: (en P "TILDE" 333 (Value.int 31 332)) :: (en P "CIRCUMFLEX" 335 (Value.int 32 334)) :: (en P "LEFTSHIFT" 337 (Value.int 33 336)) :: (en P "RIGHTSHIFT" 339 (Value.int 34 338)) :: (en P "DOUBLESTAR" 341 (Value.int 35 340)) :: (en P "PLUSEQUAL" 343 (Value.int 36 342)) :: (en P "MINEQUAL" 345 (Value.int 37 344)) :: (en P "STAREQUAL" 347 (Value.int 38 346)) :: (en P "SLASHEQUAL" 349 (Value.int 39 348)) :: (en P "PERCENTEQUAL" 351 (Value.int 40 350)) :: (en P "AMPEREQUAL" 353 (Value.int 41 352)) :: (en P "VBAREQUAL" 355 (Value.int 42 354)) :: (en P "CIRCUMFLEXEQUAL" 357 (Value.int 43 356)) :: (en P "LEFTSHIFTEQUAL" 359 (Value.int 44 358)) :: (en P "RIGHTSHIFTEQUAL" 361 (Value.int 45 360)) :: (en P "DOUBLESTAREQUAL" 363 (Value.int 46 362)) :: (en P "DOUBLESLASH" 365 (Value.int 47 364)) :: (en P "DOUBLESLASHEQUAL" 367 (Value.int 48 366)) :: (en P "AT" 369 (Value.int 49 368)) :: (en P "ATEQUAL" 371 (Value.int 50 370)) :: (en P "RARROW" 373 (Value.int 51 372)) :: (en P "ELLIPSIS" 375 (Value.int 52 374)) :: (en P "COLONEQUAL" 377 (Value.int 53 376)) :: (en P "EXCLAMATION" 379 (Value.int 54 378)) :: (en P "NT_OFFSET" 381 (Value.int 256 380)) :: (en P "EXACT_TOKEN_TYPES" 478 (Value.ref 32)) :: (en P "ISTERMINAL" 485 (Value.ref 41)) :: (en P "Error" 507 (Value.ref 51)) :: [])) 62) #[]))
noncomputable def hd.o_101 : Params → Obj := (fun P => (Obj.mk (Value.type "code") (Option.none) (Data.fields #[(Value.str (Str.ofString "Error") 490), (Value.str (Str.ofString "Error") 491), (Value.str (Str.ofString "/claim/cut.py") 492), (Value.int 56 0), (Value.int 0 0), (Value.int 0 0), (Value.int 0 0), (Value.int 0 0), (Value.ref 45), (Value.bool Bool.false), (Value.int 276 0), (Value.ref 46), Value.none, Value.none, Value.none, Value.none, (Value.int 493 0), (Value.int 56 0), (Value.str (Str.ofString "/claim/cut.py") 494)]) #[]))
noncomputable def hd.o_93 : Params → Obj := (fun P => (Obj.mk Value.none (Option.none) (Data.func (FuncData.mk (Str.ofString "ISTERMINAL") (Str.ofString "ISTERMINAL") hd.args_52 (FuncBody.stmts hd.body_52) hd.scope_52 0 [] Value.none Value.none Value.none Value.none (Option.none) Value.none Value.none 0)) #[]))
noncomputable def hd.o_89 : Params → Obj := (fun P => (Obj.mk (Value.type "tuple") (Option.none) (Data.seq #[] 0) #[]))
noncomputable def hd.o_105 : Params → Obj := (fun P => (Obj.mk (Value.type "type") (Option.none) (Data.cls (ClassData.mk (Str.ofString "Error") [(Value.type "Exception")] [(Value.ref 51), (Value.type "Exception"), (Value.type "BaseException"), (Value.type "object")] 50 (Str.ofString "Error") Bool.true [] [] Bool.false (Option.none) Bool.false)) #[(Option.some (Value.ref 42)), (Option.none), (Option.some (Value.str (Str.ofString "Error") 488)), (Option.some (Value.str (Str.ofString "Error") 496)), (Option.some (Value.builtin "Exception.__new__")), (Option.some (Value.bool Bool.true))]))
noncomputable def hd.o_97 : Params → Obj := (fun P => (Obj.mk (Value.type "builtin_function_or_method") (Option.none) (Data.fields #[(Value.builtin "type.__prepare__"), (Value.type "type")]) #[]))
noncomputable def hd.o_103 : Params → Obj := (fun P => (Obj.mk (Value.type "tuple") (Option.none) (Data.seq #[] 0) #[]))
noncomputable def hd.o_95 : Params → Obj := (fun P => (Obj.mk (Value.type "function") (Option.none) (Data.func (FuncData.mk (Str.ofString "ISTERMINAL") (Str.ofString "ISTERMINAL") hd.args_52 (FuncBody.stmts hd.body_52) hd.scope_52 3 [] Value.none Value.none Value.none (Value.str (Str.ofString "cpy313.token") 282) (Option.none) (Value.ref 40) Value.none 0)) #[]))
noncomputable def hd.o_91 : Params → Obj := (fun P => (Obj.mk (Value.type "tuple") (Option.none) (Data.seq #[(Value.str (Str.ofString "x") 482)] 0) #[]))
noncomputable def hd.o_107 : Params → Obj := (fun P => (Obj.mk (Value.type "super") (Option.none) (Data.fields #[(Value.ref 51), (Value.ref 51), (Value.ref 51)]) #[]))
noncomputable def hd.o_88 : Params → Obj := (fun P => (Obj.mk Value.none (Option.none) (Data.fields #[(Value.int 53 0), (Value.int 0 0), (Value.ref 40), (Value.int 56 0), (Value.int 0 0), (Value.ref 47)]) #[]))
noncomputable def hd.o_99 : Params → Obj := (fun P => (Obj.mk (Value.type "tuple") (Option.none) (Data.seq #[] 0) #[]))
noncomputable def hd.o_86 : Params → Obj := (fun P => (Obj.mk Value.none (Option.none) (Data.dict #[(en P "\x69mport.loaded._sre" 183 (Value.bool Bool.true)), (en P "class._frozen_importlib.BuiltinImporter" 185 (Value.ref 14)), (en P "watched.\x69mport" 206 (Value.ref 18)), (en P "class._frozen_importlib.ModuleSpec" 216 (Value.ref 22)), (en P "sys.modules.booked-epoch" 245 (Value.int 3 0)), (en P "\x69mport.later-laid._sre" 270 (Value.bool Bool.true)), (en P "watched.library" 272 (Value.ref 27)), (en P "watched.library-objects" 0 (Value.str (Str.ofString "\x0c") 0)), (en P "watched.library-deep._sre" 273 (Value.str (Str.ofString "\x04\x00\x00\x0b\x04\x00\x00\x0b\x04\x00\x00\x03\x04\x00\x00\x0b\x08\x04dict\x02") 0)), (en P "type.__subclasses__.Exception.0" 504 (Value.int 51 0)), (en P "type.__subclasses__.Exception.n" 505 (Value.int 1 0))] 11) #[]))
noncomputable def hd.o_102 : Params → Obj := (fun P => (Obj.mk (Value.type "frame") (Option.none) Data.plain #[(Option.some (Value.ref 47)), (Option.some (Value.ref 3)), (Option.some (Value.ref 44)), (Option.none), (Option.some (Value.str (Str.ofString "cpy313.ftplib") 486)), (Option.none), (Option.some (Value.ref 0))]))
noncomputable def hd.o_94 : Params → Obj := (fun P => (Obj.mk (Value.type "code") (Option.none) (Data.fields #[(Value.str (Str.ofString "ISTERMINAL") 479), (Value.str (Str.ofString "ISTERMINAL") 480), (Value.str (Str.ofString "/claim/cut.py") 481), (Value.int 53 0), (Value.int 1 0), (Value.int 0 0), (Value.int 0 0), (Value.int 3 0), (Value.ref 35), (Value.bool Bool.true), (Value.int 276 0), (Value.ref 36), Value.none, (Value.ref 37), (Value.ref 38), (Value.ref 39), (Value.int 483 0), (Value.int 53 0), (Value.str (Str.ofString "/claim/cut.py") 484)]) #[]))
noncomputable def hd.o_90 : Params → Obj := (fun P => (Obj.mk Value.none (Option.none) (Data.fields #[]) #[]))
noncomputable def hd.o_106 : Params → Obj := (fun P => (Obj.mk (Value.type "getset_descriptor") (Option.none) (Data.fields #[(Value.str (Str.ofString "__weakref__") 501), (Value.ref 51), (Value.builtin "ExceptionGroup.__weakref__"), Value.none]) #[]))
noncomputable def hd.o_98 : Params → Obj := (fun P => (Obj.mk (Value.type "dict") (Option.none) (Data.dict #[(en P "__module__" 495 (Value.str (Str.ofString "cpy313.ftplib") 486)), (en P "__qualname__" 497 (Value.str (Str.ofString "Error") 496)), (en P "__firstlineno__" 499 (Value.int 56 498)), (en P "__static_attributes__" 500 (Value.ref 49))] 4) #[]))
noncomputable def hd.o_104 : Params → Obj := (fun P => (Obj.mk (Value.type "dict") (Option.none) (Data.dict #[(en P "__module__" 495 (Value.str (Str.ofString "cpy313.ftplib") 486)), (en P "__firstlineno__" 499 (Value.int 56 498)), (en P "__static_attributes__" 500 (Value.ref 49)), (en P "__weakref__" 502 (Value.ref 52)), (en P "__doc__" 503 Value.none)] 3) #[]))
noncomputable def hd.o_96 : Params → Obj := (fun P => (Obj.mk (Value.type "tuple") (Option.none) (Data.seq #[(Value.type "Exception")] 0) #[]))
noncomputable def hd.o_92 : Params → Obj := (fun P => (Obj.mk (Value.type "tuple") (Option.none) (Data.seq #[] 0) #[]))
noncomputable def hd.o_108 : Params → Obj := (fun P => (Obj.mk (Value.type "builtin_function_or_method") (Option.none) (Data.fields #[(Value.builtin "object.__init_subclass__"), (Value.ref 51)]) #[]))
noncomputable def hd.o_100 : Params → Obj := (fun P => (Obj.mk Value.none (Option.none) (Data.fields #[]) #[]))
noncomputable def hd.o_109 : Params → Obj := (fun P => (Obj.mk (Value.type "dict") (Option.none) (Data.dict (List.toArray ((en P "__name__" 165 (Value.str (Str.ofString "cpy313.smtplib") 535)) :: (en P "__doc__" 166 Value.none) :: (en P "__package__" 167 Value.none) :: (en P "__loader__" 168 (Value.builtin "__main__.__loader__#opaque")) :: (en P "__spec__" 169 Value.none) :: (en P "__annotations__" 170 (Value.ref 6)) :: (en P "__builtins__" 171 (Value.ref 4)) :: (en P "__file__" 173 (Value.str (Str.ofString "/claim/cut.py") 172)) :: (en P "__cached__" 174 Value.none) :: (en P "_sre" 275 (Value.ref 12)) :: (en P "LPAR" 285 (Value.int 7 284)) :: (en P "RPAR" 287 (Value.int 8 286)) :: (en P "LSQB" 289 (Value.int 9 288)) :: (en P "RSQB" 291 (Value.int 10 290)) :: (en P "COLON" 293 (Value.int 11 292)) :: (en P "COMMA" 295 (Value.int 12 294)) :: (en P "SEMI" 297 (Value.int 13 296)) :: (en P "PLUS" 299 (Value.int 14 298)) :: (en P "MINUS" 301 (Value.int 15 300)) :: (en P "STAR" 303 (Value.int 16 302)) :: (en P "SLASH" 305 (Value.int 17 304)) :: (en P "VBAR" 307 (Value.int 18 306)) :: (en P "AMPER" 309 (Value.int 19 308)) :: (en P "LESS" 311 (Value.int 20 310)) :: (en P "GREATER" 313 (Value.int 21 312)) :: (en P "EQUAL" 315 (Value.int 22 314)) :: (en P "DOT" 317 (Value.int 23 316)) :: (en P "PERCENT" 319 (Value.int 24 318)) :: (en P "LBRACE" 321 (Value.int 25 320)) :: (en P "RBRACE" 323 (Value.int 26 322)) :: (en P "EQEQUAL" 325 (Value.int 27 324)) :: (en P "NOTEQUAL" 327 (Value.int 28 326)) :: (en P "LESSEQUAL" 329 (Value.int 29 328)) :: (en P "GREATEREQUAL" 331 (Value.int 30 330)) :: (en P "TILDE" 333 (Value.int 31 332)) :: (en P "CIRCUMFLEX" 335 (Value.int 32 334)) :: (en P "LEFTSHIFT" 337 (Value.int 33 336)) :: (en P "RIGHTSHIFT" 339 (Value.int 34 338)) :: (en P "DOUBLESTAR" 341 (Value.int 35 340)) :: (en P "PLUSEQUAL" 343 (Value.int 36 342)) :: (en P "MINEQUAL" 345 (Value.int 37 344)) :: (en P "STAREQUAL" 347 (Value.int 38 346)) :: (en P "SLASHEQUAL" 349 (Value.int 39 348)) :: (en P "PERCENTEQUAL" 351 (Value.int 40 350)) :: (en P "AMPEREQUAL" 353 (Value.int 41 352)) :: (en P "VBAREQUAL" 355 (Value.int 42 354)) :: (en P "CIRCUMFLEXEQUAL" 357 (Value.int 43 356)) :: (en P "LEFTSHIFTEQUAL" 359 (Value.int 44 358)) :: (en P "RIGHTSHIFTEQUAL" 361 (Value.int 45 360)) :: (en P "DOUBLESTAREQUAL" 363 (Value.int 46 362)) :: (en P "DOUBLESLASH" 365 (Value.int 47 364)) :: (en P "DOUBLESLASHEQUAL" 367 (Value.int 48 366)) :: (en P "AT" 369 (Value.int 49 368)) :: (en P "ATEQUAL" 371 (Value.int 50 370)) :: (en P "RARROW" 373 (Value.int 51 372)) :: (en P "ELLIPSIS" 375 (Value.int 52 374)) :: (en P "COLONEQUAL" 377 (Value.int 53 376)) :: (en P "EXCLAMATION" 379 (Value.int 54 378)) :: (en P "NT_OFFSET" 381 (Value.int 256 380)) :: (en P "EXACT_TOKEN_TYPES" 478 (Value.ref 32)) :: (en P "ISTERMINAL" 485 (Value.ref 41)) :: (en P "Error" 507 (Value.ref 51)) :: (en P "error_reply" 523 (Value.ref 64)) :: (en P "parse257" 534 (Value.ref 73)) :: (en P "_twin_re_1" 552 (Value.ref 78)) :: (en P "_twin_re_2" 594 (Value.ref 83)) :: [])) 66) #[]))
noncomputable def hd.o_120 : Params → Obj := (fun P => (Obj.mk (Value.type "dict") (Option.none) (Data.dict #[(en P "__module__" 515 (Value.str (Str.ofString "cpy313.ftplib") 486)), (en P "__firstlineno__" 519 (Value.int 58 518)), (en P "__static_attributes__" 520 (Value.ref 62)), (en P "__doc__" 521 Value.none)] 2) #[]))
noncomputable def hd.o_136 : Params → Obj := (fun P => (Obj.mk (Value.type "list") (Option.none) (Data.seq #[(Value.int 14 556), (Value.int 9 557), (Value.int 4 558), (Value.int 1 559), (Value.int 2 560), (Value.int 16 561), (Value.int 10 562), (Value.int 16 563), (Value.int 13 564), (Value.int 0 565), (Value.int 7 566), (Value.int 7 567), (Value.int 16 568), (Value.int 13 569), (Value.int 16 570), (Value.int 10 571), (Value.int 15 572), (Value.int 18 573), (Value.int 5 574), (Value.int 16 575), (Value.int 10 576), (Value.int 15 577), (Value.int 13 578), (Value.int 11 579), (Value.int 16 580), (Value.int 13 581), (Value.int 5 582), (Value.int 5 583), (Value.int 0 584), (Value.int 16 585), (Value.int 10 586), (Value.int 1 587), (Value.int 15 588), (Value.int 2 589), (Value.int 0 590), (Value.int 1 591)] 0) #[]))
noncomputable def hd.o_128 : Params → Obj := (fun P => (Obj.mk Value.none (Option.none) (Data.func (FuncData.mk (Str.ofString "parse257") (Str.ofString "parse257") hd.args_56 (FuncBody.stmts hd.body_56) hd.scope_56 0 [] Value.none Value.none Value.none Value.none (Option.none) Value.none Value.none 0)) #[]))
noncomputable def hd.o_112 : Params → Obj := (fun P => (Obj.mk (Value.type "tuple") (Option.none) (Data.seq #[(Value.ref 51)] 0) #[]))
noncomputable def hd.o_124 : Params → Obj := (fun P => (Obj.mk (Value.type "tuple") (Option.none) (Data.seq #[] 0) #[]))
noncomputable def hd.o_111 : Params → Obj := (fun P => (Obj.mk (Value.type "type") (Option.none) (Data.cls (ClassData.mk (Str.ofString "Error") [(Value.type "Exception")] [(Value.ref 51), (Value.type "Exception"), (Value.type "BaseException"), (Value.type "object")] 50 (Str.ofString "Error") Bool.true [] [(Value.ref 64)] Bool.false (Option.none) Bool.false)) #[(Option.some (Value.ref 42)), (Option.none), (Option.some (Value.str (Str.ofString "Error") 488)), (Option.some (Value.str (Str.ofString "Error") 496)), (Option.some (Value.builtin "Exception.__new__")), (Option.some (Value.bool Bool.true))]))
noncomputable def hd.o_140 : Params → Obj := (fun P => (Obj.mk (Value.type "re.Pattern") (Option.none) (Data.fields #[(Value.str (Str.ofString "(?:\\r\\n|\\n|\\r(?!\\n))") 554), (Value.int 32 593), (Value.int 0 0), Value.none, Value.none, (Value.ref 82), (Value.int 0 0)]) #[]))
noncomputable def hd.o_132 : Params → Obj := (fun P => (Obj.mk (Value.type "dict") (Option.none) (Data.dict #[] 0) #[]))
noncomputable def hd.o_116 : Params → Obj := (fun P => (Obj.mk Value.none (Option.none) (Data.fields #[]) #[]))
noncomputable def hd.o_122 : Params → Obj := (fun P => (Obj.mk (Value.type "super") (Option.none) (Data.fields #[(Value.ref 64), (Value.ref 64), (Value.ref 64)]) #[]))
noncomputable def hd.o_138 : Params → Obj := (fun P => (Obj.mk (Value.type "tuple") (Option.none) (Data.seq #[Value.none] 0) #[]))
noncomputable def hd.o_130 : Params → Obj := (fun P => (Obj.mk (Value.type "function") (Option.none) (Data.func (FuncData.mk (Str.ofString "parse257") (Str.ofString "parse257") hd.args_56 (FuncBody.stmts hd.body_56) hd.scope_56 3 [] Value.none Value.none Value.none (Value.str (Str.ofString "cpy313.ftplib") 486) (Option.none) (Value.ref 72) Value.none 0)) #[]))
noncomputable def hd.o_114 : Params → Obj := (fun P => (Obj.mk (Value.type "dict") (Option.none) (Data.dict #[(en P "__module__" 515 (Value.str (Str.ofString "cpy313.ftplib") 486)), (en P "__qualname__" 517 (Value.str (Str.ofString "error_reply") 516)), (en P "__firstlineno__" 519 (Value.int 58 518)), (en P "__static_attributes__" 520 (Value.ref 62))] 4) #[]))
noncomputable def hd.o_126 : Params → Obj := (fun P => (Obj.mk (Value.type "tuple") (Option.none) (Data.seq #[(Value.str (Str.ofString "resp") 527), (Value.str (Str.ofString "dirname") 528), (Value.str (Str.ofString "i") 529), (Value.str (Str.ofString "n") 530), (Value.str (Str.ofString "c") 531)] 0) #[]))
noncomputable def hd.o_110 : Params → Obj := (fun P => (Obj.mk Value.none (Option.none) (Data.fields #[(Value.int 53 0), (Value.int 0 0), (Value.ref 40), (Value.int 56 0), (Value.int 0 0), (Value.ref 47), (Value.int 58 0), (Value.int 0 0), (Value.ref 60), (Value.int 60 0), (Value.int 0 0), (Value.ref 72)]) #[]))
noncomputable def hd.o_134 : Params → Obj := (fun P => (Obj.mk (Value.type "tuple") (Option.none) (Data.seq #[(Value.int 14 0), (Value.int 4 0), (Value.int 0 0), (Value.int 1 0), (Value.int 1 0), (Value.int 6 0), (Value.int 1 0), (Value.int 16 0), (Value.int 46 0), (Value.int 1 0)] 0) #[]))
noncomputable def hd.o_118 : Params → Obj := (fun P => (Obj.mk (Value.type "frame") (Option.none) Data.plain #[(Option.some (Value.ref 60)), (Option.some (Value.ref 3)), (Option.some (Value.ref 57)), (Option.none), (Option.some (Value.str (Str.ofString "cpy313.ftplib") 486)), (Option.none), (Option.some (Value.ref 0))]))
noncomputable def hd.o_121 : Params → Obj := (fun P => (Obj.mk (Value.type "type") (Option.none) (Data.cls (ClassData.mk (Str.ofString "error_reply") [(Value.ref 51)] [(Value.ref 64), (Value.ref 51), (Value.type "Exception"), (Value.type "BaseException"), (Value.type "object")] 63 (Str.ofString "error_reply") Bool.true [] [] Bool.false (Option.none) Bool.false)) #[(Option.some (Value.ref 55)), (Option.none), (Option.some (Value.str (Str.ofString "error_reply") 508)), (Option.some (Value.str (Str.ofString "error_reply") 516)), (Option.some (Value.builtin "Exception.__new__")), (Option.some (Value.bool Bool.true))]))
noncomputable def hd.o_137 : Params → Obj := (fun P => (Obj.mk (Value.type "dict") (Option.none) (Data.dict #[] 0) #[]))
noncomputable def hd.o_129 : Params → Obj := (fun P => (Obj.mk (Value.type "code") (Option.none) (Data.fields #[(Value.str (Str.ofString "parse257") 524), (Value.str (Str.ofString "parse257") 525), (Value.str (Str.ofString "/claim/cut.py") 526), (Value.int 60 0), (Value.int 1 0), (Value.int 0 0), (Value.int 0 0), (Value.int 3 0), (Value.ref 67), (Value.bool Bool.true), (Value.int 276 0), (Value.ref 68), Value.none, (Value.ref 69), (Value.ref 70), (Value.ref 71), (Value.int 532 0), (Value.int 60 0), (Value.str (Str.ofString "/claim/cut.py") 533)]) #[]))
noncomputable def hd.o_113 : Params → Obj := (fun P => (Obj.mk (Value.type "builtin_function_or_method") (Option.none) (Data.fields #[(Value.builtin "type.__prepare__"), (Value.type "type")]) #[]))
noncomputable def hd.o_125 : Params → Obj := (fun P => (Obj.mk Value.none (Option.none) (Data.fields #[]) #[]))
noncomputable def hd.o_133 : Params → Obj := (fun P => (Obj.mk (Value.type "tuple") (Option.none) (Data.seq #[Value.none] 0) #[]))
noncomputable def hd.o_117 : Params → Obj := (fun P => (Obj.mk (Value.type "code") (Option.none) (Data.fields #[(Value.str (Str.ofString "error_reply") 510), (Value.str (Str.ofString "error_reply") 511), (Value.str (Str.ofString "/claim/cut.py") 512), (Value.int 58 0), (Value.int 0 0), (Value.int 0 0), (Value.int 0 0), (Value.int 0 0), (Value.ref 58), (Value.bool Bool.false), (Value.int 276 0), (Value.ref 59), Value.none, Value.none, Value.none, Value.none, (Value.int 513 0), (Value.int 58 0), (Value.str (Str.ofString "/claim/cut.py") 514)]) #[]))
noncomputable def hd.o_123 : Params → Obj := (fun P => (Obj.mk (Value.type "builtin_function_or_method") (Option.none) (Data.fields #[(Value.builtin "object.__init_subclass__"), (Value.ref 64)]) #[]))
noncomputable def hd.o_139 : Params → Obj := (fun P => (Obj.mk (Value.type "tuple") (Option.none) (Data.seq #[(Value.int 14 0), (Value.int 9 0), (Value.int 4 0), (Value.int 1 0), (Value.int 2 0), (Value.int 16 0), (Value.int 10 0), (Value.int 16 0), (Value.int 13 0), (Value.int 0 0), (Value.int 7 0), (Value.int 7 0), (Value.int 16 0), (Value.int 13 0), (Value.int 16 0), (Value.int 10 0), (Value.int 15 0), (Value.int 18 0), (Value.int 5 0), (Value.int 16 0), (Value.int 10 0), (Value.int 15 0), (Value.int 13 0), (Value.int 11 0), (Value.int 16 0), (Value.int 13 0), (Value.int 5 0), (Value.int 5 0), (Value.int 0 0), (Value.int 16 0), (Value.int 10 0), (Value.int 1 0), (Value.int 15 0), (Value.int 2 0), (Value.int 0 0), (Value.int 1 0)] 0) #[]))
noncomputable def hd.o_131 : Params → Obj := (fun P => (Obj.mk (Value.type "list") (Option.none) (Data.seq #[(Value.int 14 540), (Value.int 4 541), (Value.int 0 542), (Value.int 1 543), (Value.int 1 544), (Value.int 6 545), (Value.int 1 546), (Value.int 16 547), (Value.int 46 548), (Value.int 1 549)] 0) #[]))
noncomputable def hd.o_115 : Params → Obj := (fun P => (Obj.mk (Value.type "tuple") (Option.none) (Data.seq #[] 0) #[]))
noncomputable def hd.o_127 : Params → Obj := (fun P => (Obj.mk (Value.type "tuple") (Option.none) (Data.seq #[] 0) #[]))
noncomputable def hd.o_135 : Params → Obj := (fun P => (Obj.mk (Value.type "re.Pattern") (Option.none) (Data.fields #[(Value.str (Str.ofString "(?m)^\\.") 538), (Value.int 40 551), (Value.int 0 0), Value.none, Value.none, (Value.ref 77), (Value.int 0 0)]) #[]))
noncomputable def hd.o_119 : Params → Obj := (fun P => (Obj.mk (Value.type "tuple") (Option.none) (Data.seq #[] 0) #[]))
noncomputable def hd.o_141 : Params → Obj := (fun P => (Obj.mk (Value.type "dict") (Option.none) (Data.dict (List.toArray ((en P "__name__" 165 (Value.str (Str.ofString "law_tp0012_01") 604)) :: (en P "__doc__" 166 Value.none) :: (en P "__package__" 167 Value.none) :: (en P "__loader__" 168 (Value.builtin "__main__.__loader__#opaque")) :: (en P "__spec__" 169 Value.none) :: (en P "__annotations__" 170 (Value.ref 6)) :: (en P "__builtins__" 171 (Value.ref 4)) :: (en P "__file__" 173 (Value.str (Str.ofString "/claim/cut.py") 172)) :: (en P "__cached__" 174 Value.none) :: (en P "_sre" 275 (Value.ref 12)) :: (en P "LPAR" 285 (Value.int 7 284)) :: (en P "RPAR" 287 (Value.int 8 286)) :: (en P "LSQB" 289 (Value.int 9 288)) :: (en P "RSQB" 291 (Value.int 10 290)) :: (en P "COLON" 293 (Value.int 11 292)) :: (en P "COMMA" 295 (Value.int 12 294)) :: (en P "SEMI" 297 (Value.int 13 296)) :: (en P "PLUS" 299 (Value.int 14 298)) :: (en P "MINUS" 301 (Value.int 15 300)) :: (en P "STAR" 303 (Value.int 16 302)) :: (en P "SLASH" 305 (Value.int 17 304)) :: (en P "VBAR" 307 (Value.int 18 306)) :: (en P "AMPER" 309 (Value.int 19 308)) :: (en P "LESS" 311 (Value.int 20 310)) :: (en P "GREATER" 313 (Value.int 21 312)) :: (en P "EQUAL" 315 (Value.int 22 314)) :: (en P "DOT" 317 (Value.int 23 316)) :: (en P "PERCENT" 319 (Value.int 24 318)) :: (en P "LBRACE" 321 (Value.int 25 320)) :: (en P "RBRACE" 323 (Value.int 26 322)) :: (en P "EQEQUAL" 325 (Value.int 27 324)) :: (en P "NOTEQUAL" 327 (Value.int 28 326)) :: (en P "LESSEQUAL" 329 (Value.int 29 328)) :: (en P "GREATEREQUAL" 331 (Value.int 30 330)) :: (en P "TILDE" 333 (Value.int 31 332)) :: (en P "CIRCUMFLEX" 335 (Value.int 32 334)) :: (en P "LEFTSHIFT" 337 (Value.int 33 336)) :: (en P "RIGHTSHIFT" 339 (Value.int 34 338)) :: (en P "DOUBLESTAR" 341 (Value.int 35 340)) :: (en P "PLUSEQUAL" 343 (Value.int 36 342)) :: (en P "MINEQUAL" 345 (Value.int 37 344)) :: (en P "STAREQUAL" 347 (Value.int 38 346)) :: (en P "SLASHEQUAL" 349 (Value.int 39 348)) :: (en P "PERCENTEQUAL" 351 (Value.int 40 350)) :: (en P "AMPEREQUAL" 353 (Value.int 41 352)) :: (en P "VBAREQUAL" 355 (Value.int 42 354)) :: (en P "CIRCUMFLEXEQUAL" 357 (Value.int 43 356)) :: (en P "LEFTSHIFTEQUAL" 359 (Value.int 44 358)) :: (en P "RIGHTSHIFTEQUAL" 361 (Value.int 45 360)) :: (en P "DOUBLESTAREQUAL" 363 (Value.int 46 362)) :: (en P "DOUBLESLASH" 365 (Value.int 47 364)) :: (en P "DOUBLESLASHEQUAL" 367 (Value.int 48 366)) :: (en P "AT" 369 (Value.int 49 368)) :: (en P "ATEQUAL" 371 (Value.int 50 370)) :: (en P "RARROW" 373 (Value.int 51 372)) :: (en P "ELLIPSIS" 375 (Value.int 52 374)) :: (en P "COLONEQUAL" 377 (Value.int 53 376)) :: (en P "EXCLAMATION" 379 (Value.int 54 378)) :: (en P "NT_OFFSET" 381 (Value.int 256 380)) :: (en P "EXACT_TOKEN_TYPES" 478 (Value.ref 32)) :: (en P "ISTERMINAL" 485 (Value.ref 41)) :: (en P "Error" 507 (Value.ref 51)) :: (en P "error_reply" 523 (Value.ref 64)) :: (en P "parse257" 534 (Value.ref 73)) :: (en P "_twin_re_1" 552 (Value.ref 78)) :: (en P "_twin_re_2" 594 (Value.ref 83)) :: (en P "CRLF" 596 (Value.str (Str.ofString "\x0d\n") 595)) :: (en P "quotedata" 603 (Value.ref 90)) :: (en P "_law_numbers" 611 (Value.ref 95)) :: (en P "_law_sign" 619 (Value.ref 102)) :: (en P "_law_sent" 625 (Value.ref 107)) :: (en P "_law_read" 633 (Value.ref 114)) :: (en P "_law_cut" 639 (Value.ref 119)) :: (en P "_law_small" 650 (Value.ref 126)) :: (en P "_law_ties" 656 (Value.ref 131)) :: (en P "_law_tied" 669 (Value.ref 138)) :: (en P "_law_due" 683 (Value.ref 145)) :: (en P "_law_stacked" 689 (Value.ref 150)) :: (en P "law" 695 (Value.ref 155)) :: [])) 79) #[]))
noncomputable def hd.o_186 : Params → Obj := (fun P => (Obj.mk (Value.type "tuple") (Option.none) (Data.seq #[] 0) #[]))
noncomputable def hd.o_154 : Params → Obj := (fun P => (Obj.mk (Value.type "function") (Option.none) (Data.func (FuncData.mk (Str.ofString "_law_numbers") (Str.ofString "_law_numbers") hd.args_63 (FuncBody.stmts hd.body_63) hd.scope_63 3 [] Value.none Value.none Value.none (Value.str (Str.ofString "law_tp0012_01") 604) (Option.none) (Value.ref 94) Value.none 0)) #[]))
noncomputable def hd.o_202 : Params → Obj := (fun P => (Obj.mk Value.none (Option.none) (Data.func (FuncData.mk (Str.ofString "_law_due") (Str.ofString "_law_due") hd.args_71 (FuncBody.stmts hd.body_71) hd.scope_71 0 [] Value.none Value.none Value.none Value.none (Option.none) Value.none Value.none 0)) #[]))
noncomputable def hd.o_170 : Params → Obj := (fun P => (Obj.mk (Value.type "tuple") (Option.none) (Data.seq #[] 0) #[]))
noncomputable def hd.o_194 : Params → Obj := (fun P => (Obj.mk (Value.type "tuple") (Option.none) (Data.seq #[] 0) #[]))
noncomputable def hd.o_162 : Params → Obj := (fun P => (Obj.mk (Value.type "tuple") (Option.none) (Data.seq #[] 0) #[]))
noncomputable def hd.o_146 : Params → Obj := (fun P => (Obj.mk (Value.type "tuple") (Option.none) (Data.seq #[] 0) #[]))
noncomputable def hd.o_210 : Params → Obj := (fun P => (Obj.mk (Value.type "tuple") (Option.none) (Data.seq #[] 0) #[]))
noncomputable def hd.o_178 : Params → Obj := (fun P => (Obj.mk (Value.type "function") (Option.none) (Data.func (FuncData.mk (Str.ofString "_law_cut") (Str.ofString "_law_cut") hd.args_67 (FuncBody.stmts hd.body_67) hd.scope_67 3 [] Value.none Value.none Value.none (Value.str (Str.ofString "law_tp0012_01") 604) (Option.none) (Value.ref 118) Value.none 0)) #[]))
noncomputable def hd.o_190 : Params → Obj := (fun P => (Obj.mk (Value.type "function") (Option.none) (Data.func (FuncData.mk (Str.ofString "_law_ties") (Str.ofString "_law_ties") hd.args_69 (FuncBody.stmts hd.body_69) hd.scope_69 3 [] Value.none Value.none Value.none (Value.str (Str.ofString "law_tp0012_01") 604) (Option.none) (Value.ref 130) Value.none 0)) #[]))
noncomputable def hd.o_158 : Params → Obj := (fun P => (Obj.mk (Value.type "tuple") (Option.none) (Data.seq #[] 0) #[]))
noncomputable def hd.o_206 : Params → Obj := (fun P => (Obj.mk Value.none (Option.none) (Data.fields #[]) #[]))
noncomputable def hd.o_174 : Params → Obj := (fun P => (Obj.mk (Value.type "tuple") (Option.none) (Data.seq #[] 0) #[]))
noncomputable def hd.o_198 : Params → Obj := (fun P => (Obj.mk (Value.type "tuple") (Option.none) (Data.seq #[] 0) #[]))
noncomputable def hd.o_166 : Params → Obj := (fun P => (Obj.mk (Value.type "function") (Option.none) (Data.func (FuncData.mk (Str.ofString "_law_sent") (Str.ofString "_law_sent") hd.args_65 (FuncBody.stmts hd.body_65) hd.scope_65 3 [] Value.none Value.none Value.none (Value.str (Str.ofString "law_tp0012_01") 604) (Option.none) (Value.ref 106) Value.none 0)) #[]))
noncomputable def hd.o_150 : Params → Obj := (fun P => (Obj.mk (Value.type "tuple") (Option.none) (Data.seq #[] 0) #[]))
noncomputable def hd.o_214 : Params → Obj := (fun P => (Obj.mk (Value.type "function") (Option.none) (Data.func (FuncData.mk (Str.ofString "law") (Str.ofString "law") hd.args_73 (FuncBody.stmts hd.body_73) hd.scope_73 3 [] Value.none Value.none Value.none (Value.str (Str.ofString "law_tp0012_01") 604) (Option.none) (Value.ref 154) Value.none 0)) #[]))
noncomputable def hd.o_182 : Params → Obj := (fun P => (Obj.mk (Value.type "tuple") (Option.none) (Data.seq #[] 0) #[]))
noncomputable def hd.o_188 : Params → Obj := (fun P => (Obj.mk Value.none (Option.none) (Data.func (FuncData.mk (Str.ofString "_law_ties") (Str.ofString "_law_ties") hd.args_69 (FuncBody.stmts hd.body_69) hd.scope_69 0 [] Value.none Value.none Value.none Value.none (Option.none) Value.none Value.none 0)) #[]))
noncomputable def hd.o_156 : Params → Obj := (fun P => (Obj.mk Value.none (Option.none) (Data.fields #[]) #[]))
noncomputable def hd.o_204 : Params → Obj := (fun P => (Obj.mk (Value.type "function") (Option.none) (Data.func (FuncData.mk (Str.ofString "_law_due") (Str.ofString "_law_due") hd.args_71 (FuncBody.stmts hd.body_71) hd.scope_71 3 [] Value.none Value.none Value.none (Value.str (Str.ofString "law_tp0012_01") 604) (Option.none) (Value.ref 144) Value.none 0)) #[]))
noncomputable def hd.o_172 : Params → Obj := (fun P => (Obj.mk (Value.type "code") (Option.none) (Data.fields #[(Value.str (Str.ofString "_law_read") 626), (Value.str (Str.ofString "_law_read") 627), (Value.str (Str.ofString "/claim/cut.py") 628), (Value.int 96 0), (Value.int 2 0), (Value.int 0 0), (Value.int 0 0), (Value.int 3 0), (Value.ref 108), (Value.bool Bool.true), (Value.int 276 0), (Value.ref 109), Value.none, (Value.ref 110), (Value.ref 111), (Value.ref 112), (Value.int 631 0), (Value.int 96 0), (Value.str (Str.ofString "/claim/cut.py") 632)]) #[]))
noncomputable def hd.o_196 : Params → Obj := (fun P => (Obj.mk (Value.type "code") (Option.none) (Data.fields #[(Value.str (Str.ofString "_law_tied") 657), (Value.str (Str.ofString "_law_tied") 658), (Value.str (Str.ofString "/claim/cut.py") 659), (Value.int 118 0), (Value.int 2 0), (Value.int 0 0), (Value.int 0 0), (Value.int 3 0), (Value.ref 132), (Value.bool Bool.true), (Value.int 276 0), (Value.ref 133), Value.none, (Value.ref 134), (Value.ref 135), (Value.ref 136), (Value.int 667 0), (Value.int 118 0), (Value.str (Str.ofString "/claim/cut.py") 668)]) #[]))
noncomputable def hd.o_164 : Params → Obj := (fun P => (Obj.mk Value.none (Option.none) (Data.func (FuncData.mk (Str.ofString "_law_sent") (Str.ofString "_law_sent") hd.args_65 (FuncBody.stmts hd.body_65) hd.scope_65 0 [] Value.none Value.none Value.none Value.none (Option.none) Value.none Value.none 0)) #[]))
noncomputable def hd.o_148 : Params → Obj := (fun P => (Obj.mk (Value.type "code") (Option.none) (Data.fields #[(Value.str (Str.ofString "quotedata") 597), (Value.str (Str.ofString "quotedata") 598), (Value.str (Str.ofString "/claim/cut.py") 599), (Value.int 81 0), (Value.int 1 0), (Value.int 0 0), (Value.int 0 0), (Value.int 3 0), (Value.ref 84), (Value.bool Bool.true), (Value.int 276 0), (Value.ref 85), Value.none, (Value.ref 86), (Value.ref 87), (Value.ref 88), (Value.int 601 0), (Value.int 81 0), (Value.str (Str.ofString "/claim/cut.py") 602)]) #[]))
noncomputable def hd.o_212 : Params → Obj := (fun P => (Obj.mk Value.none (Option.none) (Data.func (FuncData.mk (Str.ofString "law") (Str.ofString "law") hd.args_73 (FuncBody.stmts hd.body_73) hd.scope_73 0 [] Value.none Value.none Value.none Value.none (Option.none) Value.none Value.none 0)) #[]))
noncomputable def hd.o_180 : Params → Obj := (fun P => (Obj.mk Value.none (Option.none) (Data.fields #[]) #[]))
noncomputable def hd.o_192 : Params → Obj := (fun P => (Obj.mk Value.none (Option.none) (Data.fields #[]) #[]))
noncomputable def hd.o_160 : Params → Obj := (fun P => (Obj.mk (Value.type "code") (Option.none) (Data.fields #[(Value.str (Str.ofString "_law_sign") 612), (Value.str (Str.ofString "_law_sign") 613), (Value.str (Str.ofString "/claim/cut.py") 614), (Value.int 87 0), (Value.int 1 0), (Value.int 0 0), (Value.int 0 0), (Value.int 3 0), (Value.ref 96), (Value.bool Bool.true), (Value.int 276 0), (Value.ref 97), Value.none, (Value.ref 98), (Value.ref 99), (Value.ref 100), (Value.int 617 0), (Value.int 87 0), (Value.str (Str.ofString "/claim/cut.py") 618)]) #[]))
noncomputable def hd.o_144 : Params → Obj := (fun P => (Obj.mk Value.none (Option.none) (Data.fields #[]) #[]))
noncomputable def hd.o_208 : Params → Obj := (fun P => (Obj.mk (Value.type "code") (Option.none) (Data.fields #[(Value.str (Str.ofString "_law_stacked") 684), (Value.str (Str.ofString "_law_stacked") 685), (Value.str (Str.ofString "/claim/cut.py") 686), (Value.int 138 0), (Value.int 3 0), (Value.int 0 0), (Value.int 0 0), (Value.int 3 0), (Value.ref 146), (Value.bool Bool.true), (Value.int 276 0), (Value.ref 147), Value.none, Value.none, Value.none, (Value.ref 148), (Value.int 687 0), (Value.int 138 0), (Value.str (Str.ofString "/claim/cut.py") 688)]) #[]))
noncomputable def hd.o_176 : Params → Obj := (fun P => (Obj.mk Value.none (Option.none) (Data.func (FuncData.mk (Str.ofString "_law_cut") (Str.ofString "_law_cut") hd.args_67 (FuncBody.stmts hd.body_67) hd.scope_67 0 [] Value.none Value.none Value.none Value.none (Option.none) Value.none Value.none 0)) #[]))
noncomputable def hd.o_142 : Params → Obj := (fun P => (Obj.mk Value.none (Option.none) (Data.fields #[(Value.int 53 0), (Value.int 0 0), (Value.ref 40), (Value.int 56 0), (Value.int 0 0), (Value.ref 47), (Value.int 58 0), (Value.int 0 0), (Value.ref 60), (Value.int 60 0), (Value.int 0 0), (Value.ref 72), (Value.int 81 0), (Value.int 0 0), (Value.ref 89), (Value.int 84 0), (Value.int 0 0), (Value.ref 94), (Value.int 87 0), (Value.int 0 0), (Value.ref 101), (Value.int 90 0), (Value.int 0 0), (Value.ref 106), (Value.int 96 0), (Value.int 0 0), (Value.ref 113), (Value.int 98 0), (Value.int 0 0), (Value.ref 118), (Value.int 107 0), (Value.int 0 0), (Value.ref 125), (Value.int 116 0), (Value.int 0 0), (Value.ref 130), (Value.int 118 0), (Value.int 0 0), (Value.ref 137), (Value.int 128 0), (Value.int 0 0), (Value.ref 144), (Value.int 138 0), (Value.int 0 0), (Value.ref 149), (Value.int 146 0), (Value.int 0 0), (Value.ref 154)]) #[]))
noncomputable def hd.o_200 : Params → Obj := (fun P => (Obj.mk (Value.type "tuple") (Option.none) (Data.seq #[(Value.str (Str.ofString "counts") 673), (Value.str (Str.ofString "ties") 674), (Value.str (Str.ofString "lines") 675), (Value.str (Str.ofString "changes") 676), (Value.str (Str.ofString "low") 677), (Value.str (Str.ofString "high") 678), (Value.str (Str.ofString "lesser") 679), (Value.str (Str.ofString "greater") 680)] 0) #[]))
noncomputable def hd.o_168 : Params → Obj := (fun P => (Obj.mk Value.none (Option.none) (Data.fields #[]) #[]))
noncomputable def hd.o_152 : Params → Obj := (fun P => (Obj.mk Value.none (Option.none) (Data.func (FuncData.mk (Str.ofString "_law_numbers") (Str.ofString "_law_numbers") hd.args_63 (FuncBody.stmts hd.body_63) hd.scope_63 0 [] Value.none Value.none Value.none Value.none (Option.none) Value.none Value.none 0)) #[]))
noncomputable def hd.o_184 : Params → Obj := (fun P => (Obj.mk (Value.type "code") (Option.none) (Data.fields #[(Value.str (Str.ofString "_law_small") 640), (Value.str (Str.ofString "_law_small") 641), (Value.str (Str.ofString "/claim/cut.py") 642), (Value.int 107 0), (Value.int 2 0), (Value.int 0 0), (Value.int 0 0), (Value.int 3 0), (Value.ref 120), (Value.bool Bool.true), (Value.int 276 0), (Value.ref 121), Value.none, (Value.ref 122), (Value.ref 123), (Value.ref 124), (Value.int 648 0), (Value.int 107 0), (Value.str (Str.ofString "/claim/cut.py") 649)]) #[]))
noncomputable def hd.o_187 : Params → Obj := (fun P => (Obj.mk Value.none (Option.none) (Data.fields #[]) #[]))
noncomputable def hd.o_155 : Params → Obj := (fun P => (Obj.mk (Value.type "tuple") (Option.none) (Data.seq #[] 0) #[]))
noncomputable def hd.o_203 : Params → Obj := (fun P => (Obj.mk (Value.type "code") (Option.none) (Data.fields #[(Value.str (Str.ofString "_law_due") 670), (Value.str (Str.ofString "_law_due") 671), (Value.str (Str.ofString "/claim/cut.py") 672), (Value.int 128 0), (Value.int 2 0), (Value.int 0 0), (Value.int 0 0), (Value.int 3 0), (Value.ref 139), (Value.bool Bool.true), (Value.int 276 0), (Value.ref 140), Value.none, (Value.ref 141), (Value.ref 142), (Value.ref 143), (Value.int 681 0), (Value.int 128 0), (Value.str (Str.ofString "/claim/cut.py") 682)]) #[]))
noncomputable def hd.o_171 : Params → Obj := (fun P => (Obj.mk Value.none (Option.none) (Data.func (FuncData.mk (Str.ofString "_law_read") (Str.ofString "_law_read") hd.args_66 (FuncBody.stmts hd.body_66) hd.scope_66 0 [] Value.none Value.none Value.none Value.none (Option.none) Value.none Value.none 0)) #[]))
noncomputable def hd.o_195 : Params → Obj := (fun P => (Obj.mk Value.none (Option.none) (Data.func (FuncData.mk (Str.ofString "_law_tied") (Str.ofString "_law_tied") hd.args_70 (FuncBody.stmts hd.body_70) hd.scope_70 0 [] Value.none Value.none Value.none Value.none (Option.none) Value.none Value.none 0)) #[]))
noncomputable def hd.o_163 : Params → Obj := (fun P => (Obj.mk Value.none (Option.none) (Data.fields #[]) #[]))
noncomputable def hd.o_147 : Params → Obj := (fun P => (Obj.mk Value.none (Option.none) (Data.func (FuncData.mk (Str.ofString "quotedata") (Str.ofString "quotedata") hd.args_61 (FuncBody.stmts hd.body_61) hd.scope_61 0 [] Value.none Value.none Value.none Value.none (Option.none) Value.none Value.none 0)) #[]))
noncomputable def hd.o_211 : Params → Obj := (fun P => (Obj.mk Value.none (Option.none) (Data.fields #[]) #[]))
noncomputable def hd.o_179 : Params → Obj := (fun P => (Obj.mk (Value.type "tuple") (Option.none) (Data.seq #[] 0) #[]))
noncomputable def hd.o_191 : Params → Obj := (fun P => (Obj.mk (Value.type "tuple") (Option.none) (Data.seq #[] 0) #[]))
noncomputable def hd.o_159 : Params → Obj := (fun P => (Obj.mk Value.none (Option.none) (Data.func (FuncData.mk (Str.ofString "_law_sign") (Str.ofString "_law_sign") hd.args_64 (FuncBody.stmts hd.body_64) hd.scope_64 0 [] Value.none Value.none Value.none Value.none (Option.none) Value.none Value.none 0)) #[]))
noncomputable def hd.o_143 : Params → Obj := (fun P => (Obj.mk (Value.type "tuple") (Option.none) (Data.seq #[] 0) #[]))
noncomputable def hd.o_207 : Params → Obj := (fun P => (Obj.mk Value.none (Option.none) (Data.func (FuncData.mk (Str.ofString "_law_stacked") (Str.ofString "_law_stacked") hd.args_72 (FuncBody.stmts hd.body_72) hd.scope_72 0 [] Value.none Value.none Value.none Value.none (Option.none) Value.none Value.none 0)) #[]))
noncomputable def hd.o_175 : Params → Obj := (fun P => (Obj.mk Value.none (Option.none) (Data.fields #[]) #[]))
noncomputable def hd.o_199 : Params → Obj := (fun P => (Obj.mk Value.none (Option.none) (Data.fields #[]) #[]))
noncomputable def hd.o_167 : Params → Obj := (fun P => (Obj.mk (Value.type "tuple") (Option.none) (Data.seq #[] 0) #[]))
noncomputable def hd.o_151 : Params → Obj := (fun P => (Obj.mk Value.none (Option.none) (Data.fields #[]) #[]))
noncomputable def hd.o_183 : Params → Obj := (fun P => (Obj.mk Value.none (Option.none) (Data.func (FuncData.mk (Str.ofString "_law_small") (Str.ofString "_law_small") hd.args_68 (FuncBody.stmts hd.body_68) hd.scope_68 0 [] Value.none Value.none Value.none Value.none (Option.none) Value.none Value.none 0)) #[]))
noncomputable def hd.o_189 : Params → Obj := (fun P => (Obj.mk (Value.type "code") (Option.none) (Data.fields #[(Value.str (Str.ofString "_law_ties") 651), (Value.str (Str.ofString "_law_ties") 652), (Value.str (Str.ofString "/claim/cut.py") 653), (Value.int 116 0), (Value.int 1 0), (Value.int 0 0), (Value.int 0 0), (Value.int 3 0), (Value.ref 127), (Value.bool Bool.true), (Value.int 276 0), (Value.ref 128), Value.none, Value.none, Value.none, (Value.ref 129), (Value.int 654 0), (Value.int 116 0), (Value.str (Str.ofString "/claim/cut.py") 655)]) #[]))
noncomputable def hd.o_157 : Params → Obj := (fun P => (Obj.mk (Value.type "tuple") (Option.none) (Data.seq #[(Value.str (Str.ofString "number") 615), (Value.str (Str.ofString "sign") 616)] 0) #[]))
noncomputable def hd.o_205 : Params → Obj := (fun P => (Obj.mk (Value.type "tuple") (Option.none) (Data.seq #[] 0) #[]))
noncomputable def hd.o_173 : Params → Obj := (fun P => (Obj.mk (Value.type "function") (Option.none) (Data.func (FuncData.mk (Str.ofString "_law_read") (Str.ofString "_law_read") hd.args_66 (FuncBody.stmts hd.body_66) hd.scope_66 3 [] Value.none Value.none Value.none (Value.str (Str.ofString "law_tp0012_01") 604) (Option.none) (Value.ref 113) Value.none 0)) #[]))
noncomputable def hd.o_197 : Params → Obj := (fun P => (Obj.mk (Value.type "function") (Option.none) (Data.func (FuncData.mk (Str.ofString "_law_tied") (Str.ofString "_law_tied") hd.args_70 (FuncBody.stmts hd.body_70) hd.scope_70 3 [] Value.none Value.none Value.none (Value.str (Str.ofString "law_tp0012_01") 604) (Option.none) (Value.ref 137) Value.none 0)) #[]))
noncomputable def hd.o_165 : Params → Obj := (fun P => (Obj.mk (Value.type "code") (Option.none) (Data.fields #[(Value.str (Str.ofString "_law_sent") 620), (Value.str (Str.ofString "_law_sent") 621), (Value.str (Str.ofString "/claim/cut.py") 622), (Value.int 90 0), (Value.int 2 0), (Value.int 0 0), (Value.int 0 0), (Value.int 3 0), (Value.ref 103), (Value.bool Bool.true), (Value.int 276 0), (Value.ref 104), Value.none, Value.none, Value.none, (Value.ref 105), (Value.int 623 0), (Value.int 90 0), (Value.str (Str.ofString "/claim/cut.py") 624)]) #[]))
noncomputable def hd.o_149 : Params → Obj := (fun P => (Obj.mk (Value.type "function") (Option.none) (Data.func (FuncData.mk (Str.ofString "quotedata") (Str.ofString "quotedata") hd.args_61 (FuncBody.stmts hd.body_61) hd.scope_61 3 [] Value.none Value.none Value.none (Value.str (Str.ofString "cpy313.smtplib") 535) (Option.none) (Value.ref 89) Value.none 0)) #[]))
noncomputable def hd.o_213 : Params → Obj := (fun P => (Obj.mk (Value.type "code") (Option.none) (Data.fields #[(Value.str (Str.ofString "law") 690), (Value.str (Str.ofString "law") 691), (Value.str (Str.ofString "/claim/cut.py") 692), (Value.int 146 0), (Value.int 1 0), (Value.int 0 0), (Value.int 0 0), (Value.int 3 0), (Value.ref 151), (Value.bool Bool.true), (Value.int 276 0), (Value.ref 152), Value.none, Value.none, Value.none, (Value.ref 153), (Value.int 693 0), (Value.int 146 0), (Value.str (Str.ofString "/claim/cut.py") 694)]) #[]))
noncomputable def hd.o_181 : Params → Obj := (fun P => (Obj.mk (Value.type "tuple") (Option.none) (Data.seq #[(Value.str (Str.ofString "counts") 643), (Value.str (Str.ofString "numbers") 644), (Value.str (Str.ofString "small") 645), (Value.str (Str.ofString "place") 646), (Value.str (Str.ofString "sign") 647)] 0) #[]))
noncomputable def hd.o_193 : Params → Obj := (fun P => (Obj.mk (Value.type "tuple") (Option.none) (Data.seq #[(Value.str (Str.ofString "counts") 660), (Value.str (Str.ofString "ties") 661), (Value.str (Str.ofString "lines") 662), (Value.str (Str.ofString "changes") 663), (Value.str (Str.ofString "low") 664), (Value.str (Str.ofString "high") 665), (Value.str (Str.ofString "kept") 666)] 0) #[]))
noncomputable def hd.o_161 : Params → Obj := (fun P => (Obj.mk (Value.type "function") (Option.none) (Data.func (FuncData.mk (Str.ofString "_law_sign") (Str.ofString "_law_sign") hd.args_64 (FuncBody.stmts hd.body_64) hd.scope_64 3 [] Value.none Value.none Value.none (Value.str (Str.ofString "law_tp0012_01") 604) (Option.none) (Value.ref 101) Value.none 0)) #[]))
noncomputable def hd.o_145 : Params → Obj := (fun P => (Obj.mk (Value.type "tuple") (Option.none) (Data.seq #[(Value.str (Str.ofString "data") 600)] 0) #[]))
noncomputable def hd.o_209 : Params → Obj := (fun P => (Obj.mk (Value.type "function") (Option.none) (Data.func (FuncData.mk (Str.ofString "_law_stacked") (Str.ofString "_law_stacked") hd.args_72 (FuncBody.stmts hd.body_72) hd.scope_72 3 [] Value.none Value.none Value.none (Value.str (Str.ofString "law_tp0012_01") 604) (Option.none) (Value.ref 149) Value.none 0)) #[]))
noncomputable def hd.o_177 : Params → Obj := (fun P => (Obj.mk (Value.type "code") (Option.none) (Data.fields #[(Value.str (Str.ofString "_law_cut") 634), (Value.str (Str.ofString "_law_cut") 635), (Value.str (Str.ofString "/claim/cut.py") 636), (Value.int 98 0), (Value.int 1 0), (Value.int 0 0), (Value.int 0 0), (Value.int 3 0), (Value.ref 115), (Value.bool Bool.true), (Value.int 276 0), (Value.ref 116), Value.none, Value.none, Value.none, (Value.ref 117), (Value.int 637 0), (Value.int 98 0), (Value.str (Str.ofString "/claim/cut.py") 638)]) #[]))
noncomputable def hd.o_201 : Params → Obj := (fun P => (Obj.mk (Value.type "tuple") (Option.none) (Data.seq #[] 0) #[]))
noncomputable def hd.o_169 : Params → Obj := (fun P => (Obj.mk (Value.type "tuple") (Option.none) (Data.seq #[(Value.str (Str.ofString "count") 629), (Value.str (Str.ofString "sign") 630)] 0) #[]))
noncomputable def hd.o_153 : Params → Obj := (fun P => (Obj.mk (Value.type "code") (Option.none) (Data.fields #[(Value.str (Str.ofString "_law_numbers") 606), (Value.str (Str.ofString "_law_numbers") 607), (Value.str (Str.ofString "/claim/cut.py") 608), (Value.int 84 0), (Value.int 1 0), (Value.int 0 0), (Value.int 0 0), (Value.int 3 0), (Value.ref 91), (Value.bool Bool.true), (Value.int 276 0), (Value.ref 92), Value.none, Value.none, Value.none, (Value.ref 93), (Value.int 609 0), (Value.int 84 0), (Value.str (Str.ofString "/claim/cut.py") 610)]) #[]))
noncomputable def hd.o_185 : Params → Obj := (fun P => (Obj.mk (Value.type "function") (Option.none) (Data.func (FuncData.mk (Str.ofString "_law_small") (Str.ofString "_law_small") hd.args_68 (FuncBody.stmts hd.body_68) hd.scope_68 3 [] Value.none Value.none Value.none (Value.str (Str.ofString "law_tp0012_01") 604) (Option.none) (Value.ref 125) Value.none 0)) #[]))
noncomputable def hd.heap_e : Params → Heap := (fun P => (Heap.mk (Array.mk [(hd.o_41 P), (hd.o_42 P), (hd.o_43 P), (hd.o_44 P), (hd.o_45 P), (hd.o_46 P), (hd.o_47 P), (hd.o_48 P), (hd.o_49 P), (hd.o_50 P), (hd.o_51 P), (hd.o_277 P), (hd.o_53 P), (hd.o_54 P), (hd.o_55 P), (hd.o_56 P), (hd.o_57 P), (hd.o_58 P), (hd.o_59 P), (hd.o_60 P), (hd.o_61 P), (hd.o_62 P), (hd.o_63 P), (hd.o_64 P), (hd.o_65 P), (hd.o_66 P), (hd.o_67 P), (hd.o_68 P)]) hd.life))
noncomputable def hd.heap_68 : Params → Heap := (fun P => (Heap.mk (Array.mk [(hd.o_41 P), (hd.o_42 P), (hd.o_43 P), (hd.o_44 P), (hd.o_45 P), (hd.o_46 P), (hd.o_47 P), (hd.o_48 P), (hd.o_49 P), (hd.o_50 P), (hd.o_51 P), (hd.o_52 P), (hd.o_53 P), (hd.o_54 P), (hd.o_55 P), (hd.o_56 P), (hd.o_57 P), (hd.o_58 P), (hd.o_59 P), (hd.o_60 P), (hd.o_61 P), (hd.o_62 P), (hd.o_63 P), (hd.o_64 P), (hd.o_65 P), (hd.o_66 P), (hd.o_67 P), (hd.o_68 P)]) hd.life))
noncomputable def hd.heap_72 : Params → Heap := (fun P => (Heap.mk (Array.mk [(hd.o_41 P), (hd.o_42 P), (hd.o_43 P), (hd.o_44 P), (hd.o_45 P), (hd.o_46 P), (hd.o_47 P), (hd.o_48 P), (hd.o_49 P), (hd.o_50 P), (hd.o_51 P), (hd.o_52 P), (hd.o_53 P), (hd.o_54 P), (hd.o_55 P), (hd.o_56 P), (hd.o_57 P), (hd.o_58 P), (hd.o_59 P), (hd.o_60 P), (hd.o_61 P), (hd.o_62 P), (hd.o_63 P), (hd.o_64 P), (hd.o_65 P), (hd.o_66 P), (hd.o_67 P), (hd.o_68 P), (hd.o_69 P), (hd.o_70 P), (hd.o_71 P), (hd.o_72 P)]) hd.life))
noncomputable def hd.tree_73 : Params → BT := (fun P => (BT.node (hd.o_41 P) (BT.node (hd.o_42 P) (BT.node (hd.o_44 P) (BT.node (hd.o_48 P) (BT.node (hd.o_56 P) (BT.node (hd.o_72 P) BT.nil BT.nil) BT.nil) (BT.node (hd.o_64 P) BT.nil BT.nil)) (BT.node (hd.o_52 P) (BT.node (hd.o_60 P) BT.nil BT.nil) (BT.node (hd.o_68 P) BT.nil BT.nil))) (BT.node (hd.o_46 P) (BT.node (hd.o_50 P) (BT.node (hd.o_58 P) BT.nil BT.nil) (BT.node (hd.o_66 P) BT.nil BT.nil)) (BT.node (hd.o_54 P) (BT.node (hd.o_62 P) BT.nil BT.nil) (BT.node (hd.o_70 P) BT.nil BT.nil)))) (BT.node (hd.o_43 P) (BT.node (hd.o_45 P) (BT.node (hd.o_49 P) (BT.node (hd.o_57 P) BT.nil BT.nil) (BT.node (hd.o_65 P) BT.nil BT.nil)) (BT.node (hd.o_53 P) (BT.node (hd.o_61 P) BT.nil BT.nil) (BT.node (hd.o_69 P) BT.nil BT.nil))) (BT.node (hd.o_47 P) (BT.node (hd.o_51 P) (BT.node (hd.o_59 P) BT.nil BT.nil) (BT.node (hd.o_67 P) BT.nil BT.nil)) (BT.node (hd.o_55 P) (BT.node (hd.o_63 P) BT.nil BT.nil) (BT.node (hd.o_71 P) BT.nil BT.nil))))))
noncomputable def hd.tree_75 : Params → BT := (fun P => (BT.node (hd.o_41 P) (BT.node (hd.o_42 P) (BT.node (hd.o_75 P) (BT.node (hd.o_48 P) (BT.node (hd.o_56 P) (BT.node (hd.o_72 P) BT.nil BT.nil) BT.nil) (BT.node (hd.o_64 P) BT.nil BT.nil)) (BT.node (hd.o_52 P) (BT.node (hd.o_60 P) BT.nil BT.nil) (BT.node (hd.o_68 P) BT.nil BT.nil))) (BT.node (hd.o_46 P) (BT.node (hd.o_50 P) (BT.node (hd.o_58 P) BT.nil BT.nil) (BT.node (hd.o_66 P) BT.nil BT.nil)) (BT.node (hd.o_54 P) (BT.node (hd.o_62 P) BT.nil BT.nil) (BT.node (hd.o_70 P) BT.nil BT.nil)))) (BT.node (hd.o_43 P) (BT.node (hd.o_45 P) (BT.node (hd.o_49 P) (BT.node (hd.o_57 P) BT.nil BT.nil) (BT.node (hd.o_65 P) BT.nil BT.nil)) (BT.node (hd.o_53 P) (BT.node (hd.o_61 P) BT.nil BT.nil) (BT.node (hd.o_69 P) BT.nil BT.nil))) (BT.node (hd.o_47 P) (BT.node (hd.o_51 P) (BT.node (hd.o_59 P) BT.nil BT.nil) (BT.node (hd.o_67 P) BT.nil BT.nil)) (BT.node (hd.o_55 P) (BT.node (hd.o_63 P) BT.nil BT.nil) (BT.node (hd.o_71 P) BT.nil BT.nil))))))
noncomputable def hd.tree_77 : Params → BT := (fun P => (BT.node (hd.o_41 P) (BT.node (hd.o_42 P) (BT.node (hd.o_77 P) (BT.node (hd.o_48 P) (BT.node (hd.o_56 P) (BT.node (hd.o_72 P) BT.nil BT.nil) BT.nil) (BT.node (hd.o_64 P) BT.nil BT.nil)) (BT.node (hd.o_52 P) (BT.node (hd.o_60 P) BT.nil BT.nil) (BT.node (hd.o_68 P) BT.nil BT.nil))) (BT.node (hd.o_46 P) (BT.node (hd.o_50 P) (BT.node (hd.o_58 P) BT.nil BT.nil) (BT.node (hd.o_66 P) BT.nil BT.nil)) (BT.node (hd.o_54 P) (BT.node (hd.o_62 P) BT.nil BT.nil) (BT.node (hd.o_70 P) BT.nil BT.nil)))) (BT.node (hd.o_43 P) (BT.node (hd.o_45 P) (BT.node (hd.o_49 P) (BT.node (hd.o_57 P) BT.nil BT.nil) (BT.node (hd.o_65 P) BT.nil BT.nil)) (BT.node (hd.o_53 P) (BT.node (hd.o_61 P) BT.nil BT.nil) (BT.node (hd.o_69 P) BT.nil BT.nil))) (BT.node (hd.o_47 P) (BT.node (hd.o_51 P) (BT.node (hd.o_59 P) BT.nil BT.nil) (BT.node (hd.o_67 P) BT.nil BT.nil)) (BT.node (hd.o_55 P) (BT.node (hd.o_63 P) BT.nil BT.nil) (BT.node (hd.o_71 P) BT.nil BT.nil))))))
noncomputable def hd.tree_82 : Params → BT := (fun P => (BT.node (hd.o_41 P) (BT.node (hd.o_42 P) (BT.node (hd.o_79 P) (BT.node (hd.o_48 P) (BT.node (hd.o_56 P) (BT.node (hd.o_72 P) BT.nil BT.nil) BT.nil) (BT.node (hd.o_64 P) BT.nil BT.nil)) (BT.node (hd.o_52 P) (BT.node (hd.o_60 P) BT.nil BT.nil) (BT.node (hd.o_68 P) BT.nil BT.nil))) (BT.node (hd.o_46 P) (BT.node (hd.o_50 P) (BT.node (hd.o_58 P) (BT.node (hd.o_81 P) BT.nil BT.nil) BT.nil) (BT.node (hd.o_66 P) BT.nil BT.nil)) (BT.node (hd.o_54 P) (BT.node (hd.o_62 P) BT.nil BT.nil) (BT.node (hd.o_70 P) BT.nil BT.nil)))) (BT.node (hd.o_43 P) (BT.node (hd.o_45 P) (BT.node (hd.o_49 P) (BT.node (hd.o_57 P) (BT.node (hd.o_80 P) BT.nil BT.nil) BT.nil) (BT.node (hd.o_65 P) BT.nil BT.nil)) (BT.node (hd.o_53 P) (BT.node (hd.o_61 P) BT.nil BT.nil) (BT.node (hd.o_69 P) BT.nil BT.nil))) (BT.node (hd.o_47 P) (BT.node (hd.o_51 P) (BT.node (hd.o_59 P) (BT.node (hd.o_82 P) BT.nil BT.nil) BT.nil) (BT.node (hd.o_67 P) BT.nil BT.nil)) (BT.node (hd.o_55 P) (BT.node (hd.o_63 P) BT.nil BT.nil) (BT.node (hd.o_71 P) BT.nil BT.nil))))))
noncomputable def hd.tree_108 : Params → BT := (fun P => (BT.node (hd.o_41 P) (BT.node (hd.o_42 P) (BT.node (hd.o_87 P) (BT.node (hd.o_48 P) (BT.node (hd.o_56 P) (BT.node (hd.o_72 P) BT.nil BT.nil) (BT.node (hd.o_101 P) BT.nil BT.nil)) (BT.node (hd.o_64 P) (BT.node (hd.o_93 P) BT.nil BT.nil) BT.nil)) (BT.node (hd.o_52 P) (BT.node (hd.o_60 P) (BT.node (hd.o_89 P) BT.nil BT.nil) (BT.node (hd.o_105 P) BT.nil BT.nil)) (BT.node (hd.o_68 P) (BT.node (hd.o_97 P) BT.nil BT.nil) BT.nil))) (BT.node (hd.o_46 P) (BT.node (hd.o_50 P) (BT.node (hd.o_58 P) (BT.node (hd.o_81 P) BT.nil BT.nil) (BT.node (hd.o_103 P) BT.nil BT.nil)) (BT.node (hd.o_66 P) (BT.node (hd.o_95 P) BT.nil BT.nil) BT.nil)) (BT.node (hd.o_54 P) (BT.node (hd.o_62 P) (BT.node (hd.o_91 P) BT.nil BT.nil) (BT.node (hd.o_107 P) BT.nil BT.nil)) (BT.node (hd.o_88 P) (BT.node (hd.o_99 P) BT.nil BT.nil) BT.nil)))) (BT.node (hd.o_86 P) (BT.node (hd.o_45 P) (BT.node (hd.o_49 P) (BT.node (hd.o_57 P) (BT.node (hd.o_80 P) BT.nil BT.nil) (BT.node (hd.o_102 P) BT.nil BT.nil)) (BT.node (hd.o_65 P) (BT.node (hd.o_94 P) BT.nil BT.nil) BT.nil)) (BT.node (hd.o_53 P) (BT.node (hd.o_61 P) (BT.node (hd.o_90 P) BT.nil BT.nil) (BT.node (hd.o_106 P) BT.nil BT.nil)) (BT.node (hd.o_69 P) (BT.node (hd.o_98 P) BT.nil BT.nil) BT.nil))) (BT.node (hd.o_47 P) (BT.node (hd.o_51 P) (BT.node (hd.o_59 P) (BT.node (hd.o_82 P) BT.nil BT.nil) (BT.node (hd.o_104 P) BT.nil BT.nil)) (BT.node (hd.o_67 P) (BT.node (hd.o_96 P) BT.nil BT.nil) BT.nil)) (BT.node (hd.o_55 P) (BT.node (hd.o_63 P) (BT.node (hd.o_92 P) BT.nil BT.nil) (BT.node (hd.o_108 P) BT.nil BT.nil)) (BT.node (hd.o_71 P) (BT.node (hd.o_100 P) BT.nil BT.nil) BT.nil))))))
noncomputable def hd.tree_140 : Params → BT := (fun P => (BT.node (hd.o_41 P) (BT.node (hd.o_42 P) (BT.node (hd.o_109 P) (BT.node (hd.o_48 P) (BT.node (hd.o_56 P) (BT.node (hd.o_72 P) (BT.node (hd.o_120 P) BT.nil BT.nil) BT.nil) (BT.node (hd.o_101 P) (BT.node (hd.o_136 P) BT.nil BT.nil) BT.nil)) (BT.node (hd.o_64 P) (BT.node (hd.o_93 P) (BT.node (hd.o_128 P) BT.nil BT.nil) BT.nil) (BT.node (hd.o_112 P) BT.nil BT.nil))) (BT.node (hd.o_52 P) (BT.node (hd.o_60 P) (BT.node (hd.o_89 P) (BT.node (hd.o_124 P) BT.nil BT.nil) BT.nil) (BT.node (hd.o_111 P) (BT.node (hd.o_140 P) BT.nil BT.nil) BT.nil)) (BT.node (hd.o_68 P) (BT.node (hd.o_97 P) (BT.node (hd.o_132 P) BT.nil BT.nil) BT.nil) (BT.node (hd.o_116 P) BT.nil BT.nil)))) (BT.node (hd.o_46 P) (BT.node (hd.o_50 P) (BT.node (hd.o_58 P) (BT.node (hd.o_81 P) (BT.node (hd.o_122 P) BT.nil BT.nil) BT.nil) (BT.node (hd.o_103 P) (BT.node (hd.o_138 P) BT.nil BT.nil) BT.nil)) (BT.node (hd.o_66 P) (BT.node (hd.o_95 P) (BT.node (hd.o_130 P) BT.nil BT.nil) BT.nil) (BT.node (hd.o_114 P) BT.nil BT.nil))) (BT.node (hd.o_54 P) (BT.node (hd.o_62 P) (BT.node (hd.o_91 P) (BT.node (hd.o_126 P) BT.nil BT.nil) BT.nil) (BT.node (hd.o_107 P) BT.nil BT.nil)) (BT.node (hd.o_110 P) (BT.node (hd.o_99 P) (BT.node (hd.o_134 P) BT.nil BT.nil) BT.nil) (BT.node (hd.o_118 P) BT.nil BT.nil))))) (BT.node (hd.o_86 P) (BT.node (hd.o_45 P) (BT.node (hd.o_49 P) (BT.node (hd.o_57 P) (BT.node (hd.o_80 P) (BT.node (hd.o_121 P) BT.nil BT.nil) BT.nil) (BT.node (hd.o_102 P) (BT.node (hd.o_137 P) BT.nil BT.nil) BT.nil)) (BT.node (hd.o_65 P) (BT.node (hd.o_94 P) (BT.node (hd.o_129 P) BT.nil BT.nil) BT.nil) (BT.node (hd.o_113 P) BT.nil BT.nil))) (BT.node (hd.o_53 P) (BT.node (hd.o_61 P) (BT.node (hd.o_90 P) (BT.node (hd.o_125 P) BT.nil BT.nil) BT.nil) (BT.node (hd.o_106 P) BT.nil BT.nil)) (BT.node (hd.o_69 P) (BT.node (hd.o_98 P) (BT.node (hd.o_133 P) BT.nil BT.nil) BT.nil) (BT.node (hd.o_117 P) BT.nil BT.nil)))) (BT.node (hd.o_47 P) (BT.node (hd.o_51 P) (BT.node (hd.o_59 P) (BT.node (hd.o_82 P) (BT.node (hd.o_123 P) BT.nil BT.nil) BT.nil) (BT.node (hd.o_104 P) (BT.node (hd.o_139 P) BT.nil BT.nil) BT.nil)) (BT.node (hd.o_67 P) (BT.node (hd.o_96 P) (BT.node (hd.o_131 P) BT.nil BT.nil) BT.nil) (BT.node (hd.o_115 P) BT.nil BT.nil))) (BT.node (hd.o_55 P) (BT.node (hd.o_63 P) (BT.node (hd.o_92 P) (BT.node (hd.o_127 P) BT.nil BT.nil) BT.nil) (BT.node (hd.o_108 P) BT.nil BT.nil)) (BT.node (hd.o_71 P) (BT.node (hd.o_100 P) (BT.node (hd.o_135 P) BT.nil BT.nil) BT.nil) (BT.node (hd.o_119 P) BT.nil BT.nil)))))))
noncomputable def hd.tree_214 : Params → BT := (fun P => (BT.node (hd.o_41 P) (BT.node (hd.o_42 P) (BT.node (hd.o_141 P) (BT.node (hd.o_48 P) (BT.node (hd.o_56 P) (BT.node (hd.o_72 P) (BT.node (hd.o_120 P) (BT.node (hd.o_186 P) BT.nil BT.nil) BT.nil) (BT.node (hd.o_154 P) BT.nil BT.nil)) (BT.node (hd.o_101 P) (BT.node (hd.o_136 P) (BT.node (hd.o_202 P) BT.nil BT.nil) BT.nil) (BT.node (hd.o_170 P) BT.nil BT.nil))) (BT.node (hd.o_64 P) (BT.node (hd.o_93 P) (BT.node (hd.o_128 P) (BT.node (hd.o_194 P) BT.nil BT.nil) BT.nil) (BT.node (hd.o_162 P) BT.nil BT.nil)) (BT.node (hd.o_112 P) (BT.node (hd.o_146 P) (BT.node (hd.o_210 P) BT.nil BT.nil) BT.nil) (BT.node (hd.o_178 P) BT.nil BT.nil)))) (BT.node (hd.o_52 P) (BT.node (hd.o_60 P) (BT.node (hd.o_89 P) (BT.node (hd.o_124 P) (BT.node (hd.o_190 P) BT.nil BT.nil) BT.nil) (BT.node (hd.o_158 P) BT.nil BT.nil)) (BT.node (hd.o_111 P) (BT.node (hd.o_140 P) (BT.node (hd.o_206 P) BT.nil BT.nil) BT.nil) (BT.node (hd.o_174 P) BT.nil BT.nil))) (BT.node (hd.o_68 P) (BT.node (hd.o_97 P) (BT.node (hd.o_132 P) (BT.node (hd.o_198 P) BT.nil BT.nil) BT.nil) (BT.node (hd.o_166 P) BT.nil BT.nil)) (BT.node (hd.o_116 P) (BT.node (hd.o_150 P) (BT.node (hd.o_214 P) BT.nil BT.nil) BT.nil) (BT.node (hd.o_182 P) BT.nil BT.nil))))) (BT.node (hd.o_46 P) (BT.node (hd.o_50 P) (BT.node (hd.o_58 P) (BT.node (hd.o_81 P) (BT.node (hd.o_122 P) (BT.node (hd.o_188 P) BT.nil BT.nil) BT.nil) (BT.node (hd.o_156 P) BT.nil BT.nil)) (BT.node (hd.o_103 P) (BT.node (hd.o_138 P) (BT.node (hd.o_204 P) BT.nil BT.nil) BT.nil) (BT.node (hd.o_172 P) BT.nil BT.nil))) (BT.node (hd.o_66 P) (BT.node (hd.o_95 P) (BT.node (hd.o_130 P) (BT.node (hd.o_196 P) BT.nil BT.nil) BT.nil) (BT.node (hd.o_164 P) BT.nil BT.nil)) (BT.node (hd.o_114 P) (BT.node (hd.o_148 P) (BT.node (hd.o_212 P) BT.nil BT.nil) BT.nil) (BT.node (hd.o_180 P) BT.nil BT.nil)))) (BT.node (hd.o_54 P) (BT.node (hd.o_62 P) (BT.node (hd.o_91 P) (BT.node (hd.o_126 P) (BT.node (hd.o_192 P) BT.nil BT.nil) BT.nil) (BT.node (hd.o_160 P) BT.nil BT.nil)) (BT.node (hd.o_107 P) (BT.node (hd.o_144 P) (BT.node (hd.o_208 P) BT.nil BT.nil) BT.nil) (BT.node (hd.o_176 P) BT.nil BT.nil))) (BT.node (hd.o_142 P) (BT.node (hd.o_99 P) (BT.node (hd.o_134 P) (BT.node (hd.o_200 P) BT.nil BT.nil) BT.nil) (BT.node (hd.o_168 P) BT.nil BT.nil)) (BT.node (hd.o_118 P) (BT.node (hd.o_152 P) BT.nil BT.nil) (BT.node (hd.o_184 P) BT.nil BT.nil)))))) (BT.node (hd.o_86 P) (BT.node (hd.o_45 P) (BT.node (hd.o_49 P) (BT.node (hd.o_57 P) (BT.node (hd.o_80 P) (BT.node (hd.o_121 P) (BT.node (hd.o_187 P) BT.nil BT.nil) BT.nil) (BT.node (hd.o_155 P) BT.nil BT.nil)) (BT.node (hd.o_102 P) (BT.node (hd.o_137 P) (BT.node (hd.o_203 P) BT.nil BT.nil) BT.nil) (BT.node (hd.o_171 P) BT.nil BT.nil))) (BT.node (hd.o_65 P) (BT.node (hd.o_94 P) (BT.node (hd.o_129 P) (BT.node (hd.o_195 P) BT.nil BT.nil) BT.nil) (BT.node (hd.o_163 P) BT.nil BT.nil)) (BT.node (hd.o_113 P) (BT.node (hd.o_147 P) (BT.node (hd.o_211 P) BT.nil BT.nil) BT.nil) (BT.node (hd.o_179 P) BT.nil BT.nil)))) (BT.node (hd.o_53 P) (BT.node (hd.o_61 P) (BT.node (hd.o_90 P) (BT.node (hd.o_125 P) (BT.node (hd.o_191 P) BT.nil BT.nil) BT.nil) (BT.node (hd.o_159 P) BT.nil BT.nil)) (BT.node (hd.o_106 P) (BT.node (hd.o_143 P) (BT.node (hd.o_207 P) BT.nil BT.nil) BT.nil) (BT.node (hd.o_175 P) BT.nil BT.nil))) (BT.node (hd.o_69 P) (BT.node (hd.o_98 P) (BT.node (hd.o_133 P) (BT.node (hd.o_199 P) BT.nil BT.nil) BT.nil) (BT.node (hd.o_167 P) BT.nil BT.nil)) (BT.node (hd.o_117 P) (BT.node (hd.o_151 P) BT.nil BT.nil) (BT.node (hd.o_183 P) BT.nil BT.nil))))) (BT.node (hd.o_47 P) (BT.node (hd.o_51 P) (BT.node (hd.o_59 P) (BT.node (hd.o_82 P) (BT.node (hd.o_123 P) (BT.node (hd.o_189 P) BT.nil BT.nil) BT.nil) (BT.node (hd.o_157 P) BT.nil BT.nil)) (BT.node (hd.o_104 P) (BT.node (hd.o_139 P) (BT.node (hd.o_205 P) BT.nil BT.nil) BT.nil) (BT.node (hd.o_173 P) BT.nil BT.nil))) (BT.node (hd.o_67 P) (BT.node (hd.o_96 P) (BT.node (hd.o_131 P) (BT.node (hd.o_197 P) BT.nil BT.nil) BT.nil) (BT.node (hd.o_165 P) BT.nil BT.nil)) (BT.node (hd.o_115 P) (BT.node (hd.o_149 P) (BT.node (hd.o_213 P) BT.nil BT.nil) BT.nil) (BT.node (hd.o_181 P) BT.nil BT.nil)))) (BT.node (hd.o_55 P) (BT.node (hd.o_63 P) (BT.node (hd.o_92 P) (BT.node (hd.o_127 P) (BT.node (hd.o_193 P) BT.nil BT.nil) BT.nil) (BT.node (hd.o_161 P) BT.nil BT.nil)) (BT.node (hd.o_108 P) (BT.node (hd.o_145 P) (BT.node (hd.o_209 P) BT.nil BT.nil) BT.nil) (BT.node (hd.o_177 P) BT.nil BT.nil))) (BT.node (hd.o_71 P) (BT.node (hd.o_100 P) (BT.node (hd.o_135 P) (BT.node (hd.o_201 P) BT.nil BT.nil) BT.nil) (BT.node (hd.o_169 P) BT.nil BT.nil)) (BT.node (hd.o_119 P) (BT.node (hd.o_153 P) BT.nil BT.nil) (BT.node (hd.o_185 P) BT.nil BT.nil))))))))
noncomputable def hd.heap_215 : Params → Heap := (fun P => (Heap.mk (Array.mk ((hd.o_41 P) :: (hd.o_42 P) :: (hd.o_86 P) :: (hd.o_141 P) :: (hd.o_45 P) :: (hd.o_46 P) :: (hd.o_47 P) :: (hd.o_48 P) :: (hd.o_49 P) :: (hd.o_50 P) :: (hd.o_51 P) :: (hd.o_52 P) :: (hd.o_53 P) :: (hd.o_54 P) :: (hd.o_55 P) :: (hd.o_56 P) :: (hd.o_57 P) :: (hd.o_58 P) :: (hd.o_59 P) :: (hd.o_60 P) :: (hd.o_61 P) :: (hd.o_62 P) :: (hd.o_63 P) :: (hd.o_64 P) :: (hd.o_65 P) :: (hd.o_66 P) :: (hd.o_67 P) :: (hd.o_68 P) :: (hd.o_69 P) :: (hd.o_142 P) :: (hd.o_71 P) :: (hd.o_72 P) :: (hd.o_80 P) :: (hd.o_81 P) :: (hd.o_82 P) :: (hd.o_89 P) :: (hd.o_90 P) :: (hd.o_91 P) :: (hd.o_92 P) :: (hd.o_93 P) :: (hd.o_94 P) :: (hd.o_95 P) :: (hd.o_96 P) :: (hd.o_97 P) :: (hd.o_98 P) :: (hd.o_99 P) :: (hd.o_100 P) :: (hd.o_101 P) :: (hd.o_102 P) :: (hd.o_103 P) :: (hd.o_104 P) :: (hd.o_111 P) :: (hd.o_106 P) :: (hd.o_107 P) :: (hd.o_108 P) :: (hd.o_112 P) :: (hd.o_113 P) :: (hd.o_114 P) :: (hd.o_115 P) :: (hd.o_116 P) :: (hd.o_117 P) :: (hd.o_118 P) :: (hd.o_119 P) :: (hd.o_120 P) :: (hd.o_121 P) :: (hd.o_122 P) :: (hd.o_123 P) :: (hd.o_124 P) :: (hd.o_125 P) :: (hd.o_126 P) :: (hd.o_127 P) :: (hd.o_128 P) :: (hd.o_129 P) :: (hd.o_130 P) :: (hd.o_131 P) :: (hd.o_132 P) :: (hd.o_133 P) :: (hd.o_134 P) :: (hd.o_135 P) :: (hd.o_136 P) :: (hd.o_137 P) :: (hd.o_138 P) :: (hd.o_139 P) :: (hd.o_140 P) :: (hd.o_143 P) :: (hd.o_144 P) :: (hd.o_145 P) :: (hd.o_146 P) :: (hd.o_147 P) :: (hd.o_148 P) :: (hd.o_149 P) :: (hd.o_150 P) :: (hd.o_151 P) :: (hd.o_152 P) :: (hd.o_153 P) :: (hd.o_154 P) :: (hd.o_155 P) :: (hd.o_156 P) :: (hd.o_157 P) :: (hd.o_158 P) :: (hd.o_159 P) :: (hd.o_160 P) :: (hd.o_161 P) :: (hd.o_162 P) :: (hd.o_163 P) :: (hd.o_164 P) :: (hd.o_165 P) :: (hd.o_166 P) :: (hd.o_167 P) :: (hd.o_168 P) :: (hd.o_169 P) :: (hd.o_170 P) :: (hd.o_171 P) :: (hd.o_172 P) :: (hd.o_173 P) :: (hd.o_174 P) :: (hd.o_175 P) :: (hd.o_176 P) :: (hd.o_177 P) :: (hd.o_178 P) :: (hd.o_179 P) :: (hd.o_180 P) :: (hd.o_181 P) :: (hd.o_182 P) :: (hd.o_183 P) :: (hd.o_184 P) :: (hd.o_185 P) :: (hd.o_186 P) :: (hd.o_187 P) :: (hd.o_188 P) :: (hd.o_189 P) :: (hd.o_190 P) :: (hd.o_191 P) :: (hd.o_192 P) :: (hd.o_193 P) :: (hd.o_194 P) :: (hd.o_195 P) :: (hd.o_196 P) :: (hd.o_197 P) :: (hd.o_198 P) :: (hd.o_199 P) :: (hd.o_200 P) :: (hd.o_201 P) :: (hd.o_202 P) :: (hd.o_203 P) :: (hd.o_204 P) :: (hd.o_205 P) :: (hd.o_206 P) :: (hd.o_207 P) :: (hd.o_208 P) :: (hd.o_209 P) :: (hd.o_210 P) :: (hd.o_211 P) :: (hd.o_212 P) :: (hd.o_213 P) :: (hd.o_214 P) :: [])) hd.life))
noncomputable def hd.heap_39 : Params → Frag := by
  apply (?f : (x : Params → Frag) → (h : x = (fun P => (((nat_lit 2), (Obj.mk Value.none (Option.none) (Data.dict #[(DictEntry.mk (PyData.keyHash P (Str.ofString "\x69mport.loaded._sre")) (Value.str (Str.ofString "\x69mport.loaded._sre") 183) (Value.bool Bool.true)), (DictEntry.mk (PyData.keyHash P (Str.ofString "class._frozen_importlib.BuiltinImporter")) (Value.str (Str.ofString "class._frozen_importlib.BuiltinImporter") 185) (Value.ref 14)), (DictEntry.mk (PyData.keyHash P (Str.ofString "watched.\x69mport")) (Value.str (Str.ofString "watched.\x69mport") 206) (Value.ref 18)), (DictEntry.mk (PyData.keyHash P (Str.ofString "class._frozen_importlib.ModuleSpec")) (Value.str (Str.ofString "class._frozen_importlib.ModuleSpec") 216) (Value.ref 22)), (DictEntry.mk (PyData.keyHash P (Str.ofString "sys.modules.booked-epoch")) (Value.str (Str.ofString "sys.modules.booked-epoch") 245) (Value.int 3 0)), (DictEntry.mk (PyData.keyHash P (Str.ofString "\x69mport.later-laid._sre")) (Value.str (Str.ofString "\x69mport.later-laid._sre") 270) (Value.bool Bool.true)), (DictEntry.mk (PyData.keyHash P (Str.ofString "watched.library")) (Value.str (Str.ofString "watched.library") 272) (Value.ref 27)), (DictEntry.mk (PyData.keyHash P (Str.ofString "watched.library-objects")) (Value.str (Str.ofString "watched.library-objects") 0) (Value.str (Str.ofString "\x0c") 0)), (DictEntry.mk (PyData.keyHash P (Str.ofString "watched.library-deep._sre")) (Value.str (Str.ofString "watched.library-deep._sre") 273) (Value.str (Str.ofString "\x04\x00\x00\x0b\x04\x00\x00\x0b\x04\x00\x00\x03\x04\x00\x00\x0b\x08\x04dict\x02") 0)), (DictEntry.mk (PyData.keyHash P (Str.ofString "type.__subclasses__.Exception.0")) (Value.str (Str.ofString "type.__subclasses__.Exception.0") 504) (Value.int 51 0)), (DictEntry.mk (PyData.keyHash P (Str.ofString "type.__subclasses__.Exception.n")) (Value.str (Str.ofString "type.__subclasses__.Exception.n") 505) (Value.int 1 0))] 11) #[])) :: ((nat_lit 3), (Obj.mk (Value.type "dict") (Option.none) (Data.dict (List.toArray ((DictEntry.mk (PyData.keyHash P (Str.ofString "__name__")) (Value.str (Str.ofString "__name__") 165) (Value.str (Str.ofString "law_tp0012_01") 604)) :: (DictEntry.mk (PyData.keyHash P (Str.ofString "__doc__")) (Value.str (Str.ofString "__doc__") 166) Value.none) :: (DictEntry.mk (PyData.keyHash P (Str.ofString "__package__")) (Value.str (Str.ofString "__package__") 167) Value.none) :: (DictEntry.mk (PyData.keyHash P (Str.ofString "__loader__")) (Value.str (Str.ofString "__loader__") 168) (Value.builtin "__main__.__loader__#opaque")) :: (DictEntry.mk (PyData.keyHash P (Str.ofString "__spec__")) (Value.str (Str.ofString "__spec__") 169) Value.none) :: (DictEntry.mk (PyData.keyHash P (Str.ofString "__annotations__")) (Value.str (Str.ofString "__annotations__") 170) (Value.ref 6)) :: (DictEntry.mk (PyData.keyHash P (Str.ofString "__builtins__")) (Value.str (Str.ofString "__builtins__") 171) (Value.ref 4)) :: (DictEntry.mk (PyData.keyHash P (Str.ofString "__file__")) (Value.str (Str.ofString "__file__") 173) (Value.str (Str.ofString "/claim/cut.py") 172)) :: (DictEntry.mk (PyData.keyHash P (Str.ofString "__cached__")) (Value.str (Str.ofString "__cached__") 174) Value.none) :: (DictEntry.mk (PyData.keyHash P (Str.ofString "_sre")) (Value.str (Str.ofString "_sre") 275) (Value.ref 12)) :: (DictEntry.mk (PyData.keyHash P (Str.ofString "LPAR")) (Value.str (Str.ofString "LPAR") 285) (Value.int 7 284)) :: (DictEntry.mk (PyData.keyHash P (Str.ofString "RPAR")) (Value.str (Str.ofString "RPAR") 287) (Value.int 8 286)) :: (DictEntry.mk (PyData.keyHash P (Str.ofString "LSQB")) (Value.str (Str.ofString "LSQB") 289) (Value.int 9 288)) :: (DictEntry.mk (PyData.keyHash P (Str.ofString "RSQB")) (Value.str (Str.ofString "RSQB") 291) (Value.int 10 290)) :: (DictEntry.mk (PyData.keyHash P (Str.ofString "COLON")) (Value.str (Str.ofString "COLON") 293) (Value.int 11 292)) :: (DictEntry.mk (PyData.keyHash P (Str.ofString "COMMA")) (Value.str (Str.ofString "COMMA") 295) (Value.int 12 294)) :: (DictEntry.mk (PyData.keyHash P (Str.ofString "SEMI")) (Value.str (Str.ofString "SEMI") 297) (Value.int 13 296)) :: (DictEntry.mk (PyData.keyHash P (Str.ofString "PLUS")) (Value.str (Str.ofString "PLUS") 299) (Value.int 14 298)) :: (DictEntry.mk (PyData.keyHash P (Str.ofString "MINUS")) (Value.str (Str.ofString "MINUS") 301) (Value.int 15 300)) :: (DictEntry.mk (PyData.keyHash P (Str.ofString "STAR")) (Value.str (Str.ofString "STAR") 303) (Value.int 16 302)) :: (DictEntry.mk (PyData.keyHash P (Str.ofString "SLASH")) (Value.str (Str.ofString "SLASH") 305) (Value.int 17 304)) :: (DictEntry.mk (PyData.keyHash P (Str.ofString "VBAR")) (Value.str (Str.ofString "VBAR") 307) (Value.int 18 306)) :: (DictEntry.mk (PyData.keyHash P (Str.ofString "AMPER")) (Value.str (Str.ofString "AMPER") 309) (Value.int 19 308)) :: (DictEntry.mk (PyData.keyHash P (Str.ofString "LESS")) (Value.str (Str.ofString "LESS") 311) (Value.int 20 310)) :: (DictEntry.mk (PyData.keyHash P (Str.ofString "GREATER")) (Value.str (Str.ofString "GREATER") 313) (Value.int 21 312)) :: (DictEntry.mk (PyData.keyHash P (Str.ofString "EQUAL")) (Value.str (Str.ofString "EQUAL") 315) (Value.int 22 314)) :: (DictEntry.mk (PyData.keyHash P (Str.ofString "DOT")) (Value.str (Str.ofString "DOT") 317) (Value.int 23 316)) :: (DictEntry.mk (PyData.keyHash P (Str.ofString "PERCENT")) (Value.str (Str.ofString "PERCENT") 319) (Value.int 24 318)) :: (DictEntry.mk (PyData.keyHash P (Str.ofString "LBRACE")) (Value.str (Str.ofString "LBRACE") 321) (Value.int 25 320)) :: (DictEntry.mk (PyData.keyHash P (Str.ofString "RBRACE")) (Value.str (Str.ofString "RBRACE") 323) (Value.int 26 322)) :: (DictEntry.mk (PyData.keyHash P (Str.ofString "EQEQUAL")) (Value.str (Str.ofString "EQEQUAL") 325) (Value.int 27 324)) :: (DictEntry.mk (PyData.keyHash P (Str.ofString "NOTEQUAL")) (Value.str (Str.ofString "NOTEQUAL") 327) (Value.int 28 326)) :: (DictEntry.mk (PyData.keyHash P (Str.ofString "LESSEQUAL")) (Value.str (Str.ofString "LESSEQUAL") 329) (Value.int 29 328)) :: (DictEntry.mk (PyData.keyHash P (Str.ofString "GREATEREQUAL")) (Value.str (Str.ofString "GREATEREQUAL") 331) (Value.int 30 330)) :: (DictEntry.mk (PyData.keyHash P (Str.ofString "TILDE")) (Value.str (Str.ofString "TILDE") 333) (Value.int 31 332)) :: (DictEntry.mk (PyData.keyHash P (Str.ofString "CIRCUMFLEX")) (Value.str (Str.ofString "CIRCUMFLEX") 335) (Value.int 32 334)) :: (DictEntry.mk (PyData.keyHash P (Str.ofString "LEFTSHIFT")) (Value.str (Str.ofString "LEFTSHIFT") 337) (Value.int 33 336)) :: (DictEntry.mk (PyData.keyHash P (Str.ofString "RIGHTSHIFT")) (Value.str (Str.ofString "RIGHTSHIFT") 339) (Value.int 34 338)) :: (DictEntry.mk (PyData.keyHash P (Str.ofString "DOUBLESTAR")) (Value.str (Str.ofString "DOUBLESTAR") 341) (Value.int 35 340)) :: (DictEntry.mk (PyData.keyHash P (Str.ofString "PLUSEQUAL")) (Value.str (Str.ofString "PLUSEQUAL") 343) (Value.int 36 342)) :: (DictEntry.mk (PyData.keyHash P (Str.ofString "MINEQUAL")) (Value.str (Str.ofString "MINEQUAL") 345) (Value.int 37 344)) :: (DictEntry.mk (PyData.keyHash P (Str.ofString "STAREQUAL")) (Value.str (Str.ofString "STAREQUAL") 347) (Value.int 38 346)) :: (DictEntry.mk (PyData.keyHash P (Str.ofString "SLASHEQUAL")) (Value.str (Str.ofString "SLASHEQUAL") 349) (Value.int 39 348)) :: (DictEntry.mk (PyData.keyHash P (Str.ofString "PERCENTEQUAL")) (Value.str (Str.ofString "PERCENTEQUAL") 351) (Value.int 40 350)) :: (DictEntry.mk (PyData.keyHash P (Str.ofString "AMPEREQUAL")) (Value.str (Str.ofString "AMPEREQUAL") 353) (Value.int 41 352)) :: (DictEntry.mk (PyData.keyHash P (Str.ofString "VBAREQUAL")) (Value.str (Str.ofString "VBAREQUAL") 355) (Value.int 42 354)) :: (DictEntry.mk (PyData.keyHash P (Str.ofString "CIRCUMFLEXEQUAL")) (Value.str (Str.ofString "CIRCUMFLEXEQUAL") 357) (Value.int 43 356)) :: (DictEntry.mk (PyData.keyHash P (Str.ofString "LEFTSHIFTEQUAL")) (Value.str (Str.ofString "LEFTSHIFTEQUAL") 359) (Value.int 44 358)) :: (DictEntry.mk (PyData.keyHash P (Str.ofString "RIGHTSHIFTEQUAL")) (Value.str (Str.ofString "RIGHTSHIFTEQUAL") 361) (Value.int 45 360)) :: (DictEntry.mk (PyData.keyHash P (Str.ofString "DOUBLESTAREQUAL")) (Value.str (Str.ofString "DOUBLESTAREQUAL") 363) (Value.int 46 362)) :: (DictEntry.mk (PyData.keyHash P (Str.ofString "DOUBLESLASH")) (Value.str (Str.ofString "DOUBLESLASH") 365) (Value.int 47 364)) :: (DictEntry.mk (PyData.keyHash P (Str.ofString "DOUBLESLASHEQUAL")) (Value.str (Str.ofString "DOUBLESLASHEQUAL") 367) (Value.int 48 366)) :: (DictEntry.mk (PyData.keyHash P (Str.ofString "AT")) (Value.str (Str.ofString "AT") 369) (Value.int 49 368)) :: (DictEntry.mk (PyData.keyHash P (Str.ofString "ATEQUAL")) (Value.str (Str.ofString "ATEQUAL") 371) (Value.int 50 370)) :: (DictEntry.mk (PyData.keyHash P (Str.ofString "RARROW")) (Value.str (Str.ofString "RARROW") 373) (Value.int 51 372)) :: (DictEntry.mk (PyData.keyHash P (Str.ofString "ELLIPSIS")) (Value.str (Str.ofString "ELLIPSIS") 375) (Value.int 52 374)) :: (DictEntry.mk (PyData.keyHash P (Str.ofString "COLONEQUAL")) (Value.str (Str.ofString "COLONEQUAL") 377) (Value.int 53 376)) :: (DictEntry.mk (PyData.keyHash P (Str.ofString "EXCLAMATION")) (Value.str (Str.ofString "EXCLAMATION") 379) (Value.int 54 378)) :: (DictEntry.mk (PyData.keyHash P (Str.ofString "NT_OFFSET")) (Value.str (Str.ofString "NT_OFFSET") 381) (Value.int 256 380)) :: (DictEntry.mk (PyData.keyHash P (Str.ofString "EXACT_TOKEN_TYPES")) (Value.str (Str.ofString "EXACT_TOKEN_TYPES") 478) (Value.ref 32)) :: (DictEntry.mk (PyData.keyHash P (Str.ofString "ISTERMINAL")) (Value.str (Str.ofString "ISTERMINAL") 485) (Value.ref 41)) :: (DictEntry.mk (PyData.keyHash P (Str.ofString "Error")) (Value.str (Str.ofString "Error") 507) (Value.ref 51)) :: (DictEntry.mk (PyData.keyHash P (Str.ofString "error_reply")) (Value.str (Str.ofString "error_reply") 523) (Value.ref 64)) :: (DictEntry.mk (PyData.keyHash P (Str.ofString "parse257")) (Value.str (Str.ofString "parse257") 534) (Value.ref 73)) :: (DictEntry.mk (PyData.keyHash P (Str.ofString "_twin_re_1")) (Value.str (Str.ofString "_twin_re_1") 552) (Value.ref 78)) :: (DictEntry.mk (PyData.keyHash P (Str.ofString "_twin_re_2")) (Value.str (Str.ofString "_twin_re_2") 594) (Value.ref 83)) :: (DictEntry.mk (PyData.keyHash P (Str.ofString "CRLF")) (Value.str (Str.ofString "CRLF") 596) (Value.str (Str.ofString "\x0d\n") 595)) :: (DictEntry.mk (PyData.keyHash P (Str.ofString "quotedata")) (Value.str (Str.ofString "quotedata") 603) (Value.ref 90)) :: (DictEntry.mk (PyData.keyHash P (Str.ofString "_law_numbers")) (Value.str (Str.ofString "_law_numbers") 611) (Value.ref 95)) :: (DictEntry.mk (PyData.keyHash P (Str.ofString "_law_sign")) (Value.str (Str.ofString "_law_sign") 619) (Value.ref 102)) :: (DictEntry.mk (PyData.keyHash P (Str.ofString "_law_sent")) (Value.str (Str.ofString "_law_sent") 625) (Value.ref 107)) :: (DictEntry.mk (PyData.keyHash P (Str.ofString "_law_read")) (Value.str (Str.ofString "_law_read") 633) (Value.ref 114)) :: (DictEntry.mk (PyData.keyHash P (Str.ofString "_law_cut")) (Value.str (Str.ofString "_law_cut") 639) (Value.ref 119)) :: (DictEntry.mk (PyData.keyHash P (Str.ofString "_law_small")) (Value.str (Str.ofString "_law_small") 650) (Value.ref 126)) :: (DictEntry.mk (PyData.keyHash P (Str.ofString "_law_ties")) (Value.str (Str.ofString "_law_ties") 656) (Value.ref 131)) :: (DictEntry.mk (PyData.keyHash P (Str.ofString "_law_tied")) (Value.str (Str.ofString "_law_tied") 669) (Value.ref 138)) :: (DictEntry.mk (PyData.keyHash P (Str.ofString "_law_due")) (Value.str (Str.ofString "_law_due") 683) (Value.ref 145)) :: (DictEntry.mk (PyData.keyHash P (Str.ofString "_law_stacked")) (Value.str (Str.ofString "_law_stacked") 689) (Value.ref 150)) :: (DictEntry.mk (PyData.keyHash P (Str.ofString "law")) (Value.str (Str.ofString "law") 695) (Value.ref 155)) :: [])) 79) #[])) :: ((nat_lit 6), (Obj.mk (Value.type "dict") (Option.none) (Data.dict #[] 0) #[])) :: ((nat_lit 11), (Obj.mk (Value.type "dict") (Option.none) (Data.dict #[(DictEntry.mk (PyData.keyHash P (Str.ofString "__name__")) (Value.str (Str.ofString "__name__") 247) (Value.str (Str.ofString "_sre") 246)), (DictEntry.mk (PyData.keyHash P (Str.ofString "__doc__")) (Value.str (Str.ofString "__doc__") 248) Value.none), (DictEntry.mk (PyData.keyHash P (Str.ofString "__package__")) (Value.str (Str.ofString "__package__") 250) (Value.str (Str.ofString "") 249)), (DictEntry.mk (PyData.keyHash P (Str.ofString "__loader__")) (Value.str (Str.ofString "__loader__") 251) (Value.builtin "off-the-table:_sre.__loader__:shared#opaque")), (DictEntry.mk (PyData.keyHash P (Str.ofString "__spec__")) (Value.str (Str.ofString "__spec__") 252) (Value.builtin "off-the-table:_sre.__spec__:shared#opaque")), (DictEntry.mk (PyData.keyHash P (Str.ofString "compile")) (Value.str (Str.ofString "compile") 253) (Value.builtin "_sre.compile")), (DictEntry.mk (PyData.keyHash P (Str.ofString "template")) (Value.str (Str.ofString "template") 254) (Value.builtin "off-the-table:_sre.template:shared#opaque")), (DictEntry.mk (PyData.keyHash P (Str.ofString "getcodesize")) (Value.str (Str.ofString "getcodesize") 255) (Value.builtin "off-the-table:_sre.getcodesize:shared#opaque")), (DictEntry.mk (PyData.keyHash P (Str.ofString "ascii_iscased")) (Value.str (Str.ofString "ascii_iscased") 256) (Value.builtin "off-the-table:_sre.ascii_iscased:shared#opaque")), (DictEntry.mk (PyData.keyHash P (Str.ofString "unicode_iscased")) (Value.str (Str.ofString "unicode_iscased") 257) (Value.builtin "off-the-table:_sre.unicode_iscased:shared#opaque")), (DictEntry.mk (PyData.keyHash P (Str.ofString "ascii_tolower")) (Value.str (Str.ofString "ascii_tolower") 258) (Value.builtin "off-the-table:_sre.ascii_tolower:shared#opaque")), (DictEntry.mk (PyData.keyHash P (Str.ofString "unicode_tolower")) (Value.str (Str.ofString "unicode_tolower") 259) (Value.builtin "off-the-table:_sre.unicode_tolower:shared#opaque")), (DictEntry.mk (PyData.keyHash P (Str.ofString "MAGIC")) (Value.str (Str.ofString "MAGIC") 261) (Value.int 20230612 260)), (DictEntry.mk (PyData.keyHash P (Str.ofString "CODESIZE")) (Value.str (Str.ofString "CODESIZE") 263) (Value.int 4 262)), (DictEntry.mk (PyData.keyHash P (Str.ofString "MAXREPEAT")) (Value.str (Str.ofString "MAXREPEAT") 265) (Value.int 4294967295 264)), (DictEntry.mk (PyData.keyHash P (Str.ofString "MAXGROUPS")) (Value.str (Str.ofString "MAXGROUPS") 267) (Value.int 1073741823 266)), (DictEntry.mk (PyData.keyHash P (Str.ofString "copyright")) (Value.str (Str.ofString "copyright") 269) (Value.str (Str.ofString " SRE 2.2.2 Copyright (c) 1997-2002 by Secret Labs AB ") 268))] 17) #[])) :: ((nat_lit 12), (Obj.mk (Value.type "module") (Option.some 11) Data.plain #[])) :: ((nat_lit 32), (Obj.mk (Value.type "dict") (Option.none) (Data.dict #[(DictEntry.mk (PyData.keyHash P (Str.ofString "!")) (Value.str (Str.ofString "!") 382) (Value.int 54 378)), (DictEntry.mk (PyData.keyHash P (Str.ofString "!=")) (Value.str (Str.ofString "!=") 384) (Value.int 28 326)), (DictEntry.mk (PyData.keyHash P (Str.ofString "%")) (Value.str (Str.ofString "%") 386) (Value.int 24 318)), (DictEntry.mk (PyData.keyHash P (Str.ofString "%=")) (Value.str (Str.ofString "%=") 388) (Value.int 40 350)), (DictEntry.mk (PyData.keyHash P (Str.ofString "&")) (Value.str (Str.ofString "&") 390) (Value.int 19 308)), (DictEntry.mk (PyData.keyHash P (Str.ofString "&=")) (Value.str (Str.ofString "&=") 392) (Value.int 41 352)), (DictEntry.mk (PyData.keyHash P (Str.ofString "(")) (Value.str (Str.ofString "(") 394) (Value.int 7 284)), (DictEntry.mk (PyData.keyHash P (Str.ofString ")")) (Value.str (Str.ofString ")") 396) (Value.int 8 286)), (DictEntry.mk (PyData.keyHash P (Str.ofString "*")) (Value.str (Str.ofString "*") 398) (Value.int 16 302)), (DictEntry.mk (PyData.keyHash P (Str.ofString "**")) (Value.str (Str.ofString "**") 400) (Value.int 35 340)), (DictEntry.mk (PyData.keyHash P (Str.ofString "**=")) (Value.str (Str.ofString "**=") 402) (Value.int 46 362)), (DictEntry.mk (PyData.keyHash P (Str.ofString "*=")) (Value.str (Str.ofString "*=") 404) (Value.int 38 346)), (DictEntry.mk (PyData.keyHash P (Str.ofString "+")) (Value.str (Str.ofString "+") 406) (Value.int 14 298)), (DictEntry.mk (PyData.keyHash P (Str.ofString "+=")) (Value.str (Str.ofString "+=") 408) (Value.int 36 342)), (DictEntry.mk (PyData.keyHash P (Str.ofString ",")) (Value.str (Str.ofString ",") 410) (Value.int 12 294)), (DictEntry.mk (PyData.keyHash P (Str.ofString "-")) (Value.str (Str.ofString "-") 412) (Value.int 15 300)), (DictEntry.mk (PyData.keyHash P (Str.ofString "-=")) (Value.str (Str.ofString "-=") 414) (Value.int 37 344)), (DictEntry.mk (PyData.keyHash P (Str.ofString "->")) (Value.str (Str.ofString "->") 416) (Value.int 51 372)), (DictEntry.mk (PyData.keyHash P (Str.ofString ".")) (Value.str (Str.ofString ".") 418) (Value.int 23 316)), (DictEntry.mk (PyData.keyHash P (Str.ofString "...")) (Value.str (Str.ofString "...") 420) (Value.int 52 374)), (DictEntry.mk (PyData.keyHash P (Str.ofString "/")) (Value.str (Str.ofString "/") 422) (Value.int 17 304)), (DictEntry.mk (PyData.keyHash P (Str.ofString "//")) (Value.str (Str.ofString "//") 424) (Value.int 47 364)), (DictEntry.mk (PyData.keyHash P (Str.ofString "//=")) (Value.str (Str.ofString "//=") 426) (Value.int 48 366)), (DictEntry.mk (PyData.keyHash P (Str.ofString "/=")) (Value.str (Str.ofString "/=") 428) (Value.int 39 348)), (DictEntry.mk (PyData.keyHash P (Str.ofString ":")) (Value.str (Str.ofString ":") 430) (Value.int 11 292)), (DictEntry.mk (PyData.keyHash P (Str.ofString ":=")) (Value.str (Str.ofString ":=") 432) (Value.int 53 376)), (DictEntry.mk (PyData.keyHash P (Str.ofString ";")) (Value.str (Str.ofString ";") 434) (Value.int 13 296)), (DictEntry.mk (PyData.keyHash P (Str.ofString "<")) (Value.str (Str.ofString "<") 436) (Value.int 20 310)), (DictEntry.mk (PyData.keyHash P (Str.ofString "<<")) (Value.str (Str.ofString "<<") 438) (Value.int 33 336)), (DictEntry.mk (PyData.keyHash P (Str.ofString "<<=")) (Value.str (Str.ofString "<<=") 440) (Value.int 44 358)), (DictEntry.mk (PyData.keyHash P (Str.ofString "<=")) (Value.str (Str.ofString "<=") 442) (Value.int 29 328)), (DictEntry.mk (PyData.keyHash P (Str.ofString "=")) (Value.str (Str.ofString "=") 444) (Value.int 22 314)), (DictEntry.mk (PyData.keyHash P (Str.ofString "==")) (Value.str (Str.ofString "==") 446) (Value.int 27 324)), (DictEntry.mk (PyData.keyHash P (Str.ofString ">")) (Value.str (Str.ofString ">") 448) (Value.int 21 312)), (DictEntry.mk (PyData.keyHash P (Str.ofString ">=")) (Value.str (Str.ofString ">=") 450) (Value.int 30 330)), (DictEntry.mk (PyData.keyHash P (Str.ofString ">>")) (Value.str (Str.ofString ">>") 451) (Value.int 34 338)), (DictEntry.mk (PyData.keyHash P (Str.ofString ">>=")) (Value.str (Str.ofString ">>=") 452) (Value.int 45 360)), (DictEntry.mk (PyData.keyHash P (Str.ofString "@")) (Value.str (Str.ofString "@") 453) (Value.int 49 368)), (DictEntry.mk (PyData.keyHash P (Str.ofString "@=")) (Value.str (Str.ofString "@=") 454) (Value.int 50 370)), (DictEntry.mk (PyData.keyHash P (Str.ofString "[")) (Value.str (Str.ofString "[") 455) (Value.int 9 288)), (DictEntry.mk (PyData.keyHash P (Str.ofString "]")) (Value.str (Str.ofString "]") 456) (Value.int 10 290)), (DictEntry.mk (PyData.keyHash P (Str.ofString "^")) (Value.str (Str.ofString "^") 457) (Value.int 32 334)), (DictEntry.mk (PyData.keyHash P (Str.ofString "^=")) (Value.str (Str.ofString "^=") 458) (Value.int 43 356)), (DictEntry.mk (PyData.keyHash P (Str.ofString "{")) (Value.str (Str.ofString "{") 459) (Value.int 25 320)), (DictEntry.mk (PyData.keyHash P (Str.ofString "|")) (Value.str (Str.ofString "|") 460) (Value.int 18 306)), (DictEntry.mk (PyData.keyHash P (Str.ofString "|=")) (Value.str (Str.ofString "|=") 461) (Value.int 42 354)), (DictEntry.mk (PyData.keyHash P (Str.ofString "}")) (Value.str (Str.ofString "}") 462) (Value.int 26 322)), (DictEntry.mk (PyData.keyHash P (Str.ofString "~")) (Value.str (Str.ofString "~") 463) (Value.int 31 332))] 48) #[])) :: ((nat_lit 35), (Obj.mk (Value.type "tuple") (Option.none) (Data.seq #[] 0) #[])) :: ((nat_lit 37), (Obj.mk (Value.type "tuple") (Option.none) (Data.seq #[(Value.str (Str.ofString "x") 482)] 0) #[])) :: ((nat_lit 38), (Obj.mk (Value.type "tuple") (Option.none) (Data.seq #[] 0) #[])) :: ((nat_lit 40), (Obj.mk (Value.type "code") (Option.none) (Data.fields #[(Value.str (Str.ofString "ISTERMINAL") 479), (Value.str (Str.ofString "ISTERMINAL") 480), (Value.str (Str.ofString "/claim/cut.py") 481), (Value.int 53 0), (Value.int 1 0), (Value.int 0 0), (Value.int 0 0), (Value.int 3 0), (Value.ref 35), (Value.bool Bool.true), (Value.int 276 0), (Value.ref 36), Value.none, (Value.ref 37), (Value.ref 38), (Value.ref 39), (Value.int 483 0), (Value.int 53 0), (Value.str (Str.ofString "/claim/cut.py") 484)]) #[])) :: ((nat_lit 41), (Obj.mk (Value.type "function") (Option.none) (Data.func (FuncData.mk (Str.ofString "ISTERMINAL") (Str.ofString "ISTERMINAL") hd.args_52 (FuncBody.stmts hd.body_52) hd.scope_52 3 [] Value.none Value.none Value.none (Value.str (Str.ofString "cpy313.token") 282) (Option.none) (Value.ref 40) Value.none 0)) #[])) :: ((nat_lit 42), (Obj.mk (Value.type "tuple") (Option.none) (Data.seq #[(Value.type "Exception")] 0) #[])) :: ((nat_lit 49), (Obj.mk (Value.type "tuple") (Option.none) (Data.seq #[] 0) #[])) :: ((nat_lit 50), (Obj.mk (Value.type "dict") (Option.none) (Data.dict #[(DictEntry.mk (PyData.keyHash P (Str.ofString "__module__")) (Value.str (Str.ofString "__module__") 495) (Value.str (Str.ofString "cpy313.ftplib") 486)), (DictEntry.mk (PyData.keyHash P (Str.ofString "__firstlineno__")) (Value.str (Str.ofString "__firstlineno__") 499) (Value.int 56 498)), (DictEntry.mk (PyData.keyHash P (Str.ofString "__static_attributes__")) (Value.str (Str.ofString "__static_attributes__") 500) (Value.ref 49)), (DictEntry.mk (PyData.keyHash P (Str.ofString "__weakref__")) (Value.str (Str.ofString "__weakref__") 502) (Value.ref 52)), (DictEntry.mk (PyData.keyHash P (Str.ofString "__doc__")) (Value.str (Str.ofString "__doc__") 503) Value.none)] 3) #[])) :: ((nat_lit 51), (Obj.mk (Value.type "type") (Option.none) (Data.cls (ClassData.mk (Str.ofString "Error") [(Value.type "Exception")] [(Value.ref 51), (Value.type "Exception"), (Value.type "BaseException"), (Value.type "object")] 50 (Str.ofString "Error") Bool.true [] [(Value.ref 64)] Bool.false (Option.none) Bool.false)) #[(Option.some (Value.ref 42)), (Option.none), (Option.some (Value.str (Str.ofString "Error") 488)), (Option.some (Value.str (Str.ofString "Error") 496)), (Option.some (Value.builtin "Exception.__new__")), (Option.some (Value.bool Bool.true))])) :: ((nat_lit 52), (Obj.mk (Value.type "getset_descriptor") (Option.none) (Data.fields #[(Value.str (Str.ofString "__weakref__") 501), (Value.ref 51), (Value.builtin "ExceptionGroup.__weakref__"), Value.none]) #[])) :: ((nat_lit 55), (Obj.mk (Value.type "tuple") (Option.none) (Data.seq #[(Value.ref 51)] 0) #[])) :: ((nat_lit 62), (Obj.mk (Value.type "tuple") (Option.none) (Data.seq #[] 0) #[])) :: ((nat_lit 63), (Obj.mk (Value.type "dict") (Option.none) (Data.dict #[(DictEntry.mk (PyData.keyHash P (Str.ofString "__module__")) (Value.str (Str.ofString "__module__") 515) (Value.str (Str.ofString "cpy313.ftplib") 486)), (DictEntry.mk (PyData.keyHash P (Str.ofString "__firstlineno__")) (Value.str (Str.ofString "__firstlineno__") 519) (Value.int 58 518)), (DictEntry.mk (PyData.keyHash P (Str.ofString "__static_attributes__")) (Value.str (Str.ofString "__static_attributes__") 520) (Value.ref 62)), (DictEntry.mk (PyData.keyHash P (Str.ofString "__doc__")) (Value.str (Str.ofString "__doc__") 521) Value.none)] 2) #[])) :: ((nat_lit 64), (Obj.mk (Value.type "type") (Option.none) (Data.cls (ClassData.mk (Str.ofString "error_reply") [(Value.ref 51)] [(Value.ref 64), (Value.ref 51), (Value.type "Exception"), (Value.type "BaseException"), (Value.type "object")] 63 (Str.ofString "error_reply") Bool.true [] [] Bool.false (Option.none) Bool.false)) #[(Option.some (Value.ref 55)), (Option.none), (Option.some (Value.str (Str.ofString "error_reply") 508)), (Option.some (Value.str (Str.ofString "error_reply") 516)), (Option.some (Value.builtin "Exception.__new__")), (Option.some (Value.bool Bool.true))])) :: ((nat_lit 67), (Obj.mk (Value.type "tuple") (Option.none) (Data.seq #[] 0) #[])) :: ((nat_lit 69), (Obj.mk (Value.type "tuple") (Option.none) (Data.seq #[(Value.str (Str.ofString "resp") 527), (Value.str (Str.ofString "dirname") 528), (Value.str (Str.ofString "i") 529), (Value.str (Str.ofString "n") 530), (Value.str (Str.ofString "c") 531)] 0) #[])) :: ((nat_lit 70), (Obj.mk (Value.type "tuple") (Option.none) (Data.seq #[] 0) #[])) :: ((nat_lit 72), (Obj.mk (Value.type "code") (Option.none) (Data.fields #[(Value.str (Str.ofString "parse257") 524), (Value.str (Str.ofString "parse257") 525), (Value.str (Str.ofString "/claim/cut.py") 526), (Value.int 60 0), (Value.int 1 0), (Value.int 0 0), (Value.int 0 0), (Value.int 3 0), (Value.ref 67), (Value.bool Bool.true), (Value.int 276 0), (Value.ref 68), Value.none, (Value.ref 69), (Value.ref 70), (Value.ref 71), (Value.int 532 0), (Value.int 60 0), (Value.str (Str.ofString "/claim/cut.py") 533)]) #[])) :: ((nat_lit 73), (Obj.mk (Value.type "function") (Option.none) (Data.func (FuncData.mk (Str.ofString "parse257") (Str.ofString "parse257") hd.args_56 (FuncBody.stmts hd.body_56) hd.scope_56 3 [] Value.none Value.none Value.none (Value.str (Str.ofString "cpy313.ftplib") 486) (Option.none) (Value.ref 72) Value.none 0)) #[])) :: ((nat_lit 77), (Obj.mk (Value.type "tuple") (Option.none) (Data.seq #[(Value.int 14 0), (Value.int 4 0), (Value.int 0 0), (Value.int 1 0), (Value.int 1 0), (Value.int 6 0), (Value.int 1 0), (Value.int 16 0), (Value.int 46 0), (Value.int 1 0)] 0) #[])) :: ((nat_lit 78), (Obj.mk (Value.type "re.Pattern") (Option.none) (Data.fields #[(Value.str (Str.ofString "(?m)^\\.") 538), (Value.int 40 551), (Value.int 0 0), Value.none, Value.none, (Value.ref 77), (Value.int 0 0)]) #[])) :: ((nat_lit 82), (Obj.mk (Value.type "tuple") (Option.none) (Data.seq #[(Value.int 14 0), (Value.int 9 0), (Value.int 4 0), (Value.int 1 0), (Value.int 2 0), (Value.int 16 0), (Value.int 10 0), (Value.int 16 0), (Value.int 13 0), (Value.int 0 0), (Value.int 7 0), (Value.int 7 0), (Value.int 16 0), (Value.int 13 0), (Value.int 16 0), (Value.int 10 0), (Value.int 15 0), (Value.int 18 0), (Value.int 5 0), (Value.int 16 0), (Value.int 10 0), (Value.int 15 0), (Value.int 13 0), (Value.int 11 0), (Value.int 16 0), (Value.int 13 0), (Value.int 5 0), (Value.int 5 0), (Value.int 0 0), (Value.int 16 0), (Value.int 10 0), (Value.int 1 0), (Value.int 15 0), (Value.int 2 0), (Value.int 0 0), (Value.int 1 0)] 0) #[])) :: ((nat_lit 83), (Obj.mk (Value.type "re.Pattern") (Option.none) (Data.fields #[(Value.str (Str.ofString "(?:\\r\\n|\\n|\\r(?!\\n))") 554), (Value.int 32 593), (Value.int 0 0), Value.none, Value.none, (Value.ref 82), (Value.int 0 0)]) #[])) :: ((nat_lit 84), (Obj.mk (Value.type "tuple") (Option.none) (Data.seq #[] 0) #[])) :: ((nat_lit 86), (Obj.mk (Value.type "tuple") (Option.none) (Data.seq #[(Value.str (Str.ofString "data") 600)] 0) #[])) :: ((nat_lit 87), (Obj.mk (Value.type "tuple") (Option.none) (Data.seq #[] 0) #[])) :: ((nat_lit 89), (Obj.mk (Value.type "code") (Option.none) (Data.fields #[(Value.str (Str.ofString "quotedata") 597), (Value.str (Str.ofString "quotedata") 598), (Value.str (Str.ofString "/claim/cut.py") 599), (Value.int 81 0), (Value.int 1 0), (Value.int 0 0), (Value.int 0 0), (Value.int 3 0), (Value.ref 84), (Value.bool Bool.true), (Value.int 276 0), (Value.ref 85), Value.none, (Value.ref 86), (Value.ref 87), (Value.ref 88), (Value.int 601 0), (Value.int 81 0), (Value.str (Str.ofString "/claim/cut.py") 602)]) #[])) :: ((nat_lit 90), (Obj.mk (Value.type "function") (Option.none) (Data.func (FuncData.mk (Str.ofString "quotedata") (Str.ofString "quotedata") hd.args_61 (FuncBody.stmts hd.body_61) hd.scope_61 3 [] Value.none Value.none Value.none (Value.str (Str.ofString "cpy313.smtplib") 535) (Option.none) (Value.ref 89) Value.none 0)) #[])) :: ((nat_lit 91), (Obj.mk (Value.type "tuple") (Option.none) (Data.seq #[] 0) #[])) :: ((nat_lit 94), (Obj.mk (Value.type "code") (Option.none) (Data.fields #[(Value.str (Str.ofString "_law_numbers") 606), (Value.str (Str.ofString "_law_numbers") 607), (Value.str (Str.ofString "/claim/cut.py") 608), (Value.int 84 0), (Value.int 1 0), (Value.int 0 0), (Value.int 0 0), (Value.int 3 0), (Value.ref 91), (Value.bool Bool.true), (Value.int 276 0), (Value.ref 92), Value.none, Value.none, Value.none, (Value.ref 93), (Value.int 609 0), (Value.int 84 0), (Value.str (Str.ofString "/claim/cut.py") 610)]) #[])) :: ((nat_lit 95), (Obj.mk (Value.type "function") (Option.none) (Data.func (FuncData.mk (Str.ofString "_law_numbers") (Str.ofString "_law_numbers") hd.args_63 (FuncBody.stmts hd.body_63) hd.scope_63 3 [] Value.none Value.none Value.none (Value.str (Str.ofString "law_tp0012_01") 604) (Option.none) (Value.ref 94) Value.none 0)) #[])) :: ((nat_lit 96), (Obj.mk (Value.type "tuple") (Option.none) (Data.seq #[] 0) #[])) :: ((nat_lit 98), (Obj.mk (Value.type "tuple") (Option.none) (Data.seq #[(Value.str (Str.ofString "number") 615), (Value.str (Str.ofString "sign") 616)] 0) #[])) :: ((nat_lit 99), (Obj.mk (Value.type "tuple") (Option.none) (Data.seq #[] 0) #[])) :: ((nat_lit 101), (Obj.mk (Value.type "code") (Option.none) (Data.fields #[(Value.str (Str.ofString "_law_sign") 612), (Value.str (Str.ofString "_law_sign") 613), (Value.str (Str.ofString "/claim/cut.py") 614), (Value.int 87 0), (Value.int 1 0), (Value.int 0 0), (Value.int 0 0), (Value.int 3 0), (Value.ref 96), (Value.bool Bool.true), (Value.int 276 0), (Value.ref 97), Value.none, (Value.ref 98), (Value.ref 99), (Value.ref 100), (Value.int 617 0), (Value.int 87 0), (Value.str (Str.ofString "/claim/cut.py") 618)]) #[])) :: ((nat_lit 102), (Obj.mk (Value.type "function") (Option.none) (Data.func (FuncData.mk (Str.ofString "_law_sign") (Str.ofString "_law_sign") hd.args_64 (FuncBody.stmts hd.body_64) hd.scope_64 3 [] Value.none Value.none Value.none (Value.str (Str.ofString "law_tp0012_01") 604) (Option.none) (Value.ref 101) Value.none 0)) #[])) :: ((nat_lit 103), (Obj.mk (Value.type "tuple") (Option.none) (Data.seq #[] 0) #[])) :: ((nat_lit 106), (Obj.mk (Value.type "code") (Option.none) (Data.fields #[(Value.str (Str.ofString "_law_sent") 620), (Value.str (Str.ofString "_law_sent") 621), (Value.str (Str.ofString "/claim/cut.py") 622), (Value.int 90 0), (Value.int 2 0), (Value.int 0 0), (Value.int 0 0), (Value.int 3 0), (Value.ref 103), (Value.bool Bool.true), (Value.int 276 0), (Value.ref 104), Value.none, Value.none, Value.none, (Value.ref 105), (Value.int 623 0), (Value.int 90 0), (Value.str (Str.ofString "/claim/cut.py") 624)]) #[])) :: ((nat_lit 107), (Obj.mk (Value.type "function") (Option.none) (Data.func (FuncData.mk (Str.ofString "_law_sent") (Str.ofString "_law_sent") hd.args_65 (FuncBody.stmts hd.body_65) hd.scope_65 3 [] Value.none Value.none Value.none (Value.str (Str.ofString "law_tp0012_01") 604) (Option.none) (Value.ref 106) Value.none 0)) #[])) :: ((nat_lit 108), (Obj.mk (Value.type "tuple") (Option.none) (Data.seq #[] 0) #[])) :: ((nat_lit 110), (Obj.mk (Value.type "tuple") (Option.none) (Data.seq #[(Value.str (Str.ofString "count") 629), (Value.str (Str.ofString "sign") 630)] 0) #[])) :: ((nat_lit 111), (Obj.mk (Value.type "tuple") (Option.none) (Data.seq #[] 0) #[])) :: ((nat_lit 113), (Obj.mk (Value.type "code") (Option.none) (Data.fields #[(Value.str (Str.ofString "_law_read") 626), (Value.str (Str.ofString "_law_read") 627), (Value.str (Str.ofString "/claim/cut.py") 628), (Value.int 96 0), (Value.int 2 0), (Value.int 0 0), (Value.int 0 0), (Value.int 3 0), (Value.ref 108), (Value.bool Bool.true), (Value.int 276 0), (Value.ref 109), Value.none, (Value.ref 110), (Value.ref 111), (Value.ref 112), (Value.int 631 0), (Value.int 96 0), (Value.str (Str.ofString "/claim/cut.py") 632)]) #[])) :: ((nat_lit 114), (Obj.mk (Value.type "function") (Option.none) (Data.func (FuncData.mk (Str.ofString "_law_read") (Str.ofString "_law_read") hd.args_66 (FuncBody.stmts hd.body_66) hd.scope_66 3 [] Value.none Value.none Value.none (Value.str (Str.ofString "law_tp0012_01") 604) (Option.none) (Value.ref 113) Value.none 0)) #[])) :: ((nat_lit 115), (Obj.mk (Value.type "tuple") (Option.none) (Data.seq #[] 0) #[])) :: ((nat_lit 118), (Obj.mk (Value.type "code") (Option.none) (Data.fields #[(Value.str (Str.ofString "_law_cut") 634), (Value.str (Str.ofString "_law_cut") 635), (Value.str (Str.ofString "/claim/cut.py") 636), (Value.int 98 0), (Value.int 1 0), (Value.int 0 0), (Value.int 0 0), (Value.int 3 0), (Value.ref 115), (Value.bool Bool.true), (Value.int 276 0), (Value.ref 116), Value.none, Value.none, Value.none, (Value.ref 117), (Value.int 637 0), (Value.int 98 0), (Value.str (Str.ofString "/claim/cut.py") 638)]) #[])) :: ((nat_lit 119), (Obj.mk (Value.type "function") (Option.none) (Data.func (FuncData.mk (Str.ofString "_law_cut") (Str.ofString "_law_cut") hd.args_67 (FuncBody.stmts hd.body_67) hd.scope_67 3 [] Value.none Value.none Value.none (Value.str (Str.ofString "law_tp0012_01") 604) (Option.none) (Value.ref 118) Value.none 0)) #[])) :: ((nat_lit 120), (Obj.mk (Value.type "tuple") (Option.none) (Data.seq #[] 0) #[])) :: ((nat_lit 122), (Obj.mk (Value.type "tuple") (Option.none) (Data.seq #[(Value.str (Str.ofString "counts") 643), (Value.str (Str.ofString "numbers") 644), (Value.str (Str.ofString "small") 645), (Value.str (Str.ofString "place") 646), (Value.str (Str.ofString "sign") 647)] 0) #[])) :: ((nat_lit 123), (Obj.mk (Value.type "tuple") (Option.none) (Data.seq #[] 0) #[])) :: ((nat_lit 125), (Obj.mk (Value.type "code") (Option.none) (Data.fields #[(Value.str (Str.ofString "_law_small") 640), (Value.str (Str.ofString "_law_small") 641), (Value.str (Str.ofString "/claim/cut.py") 642), (Value.int 107 0), (Value.int 2 0), (Value.int 0 0), (Value.int 0 0), (Value.int 3 0), (Value.ref 120), (Value.bool Bool.true), (Value.int 276 0), (Value.ref 121), Value.none, (Value.ref 122), (Value.ref 123), (Value.ref 124), (Value.int 648 0), (Value.int 107 0), (Value.str (Str.ofString "/claim/cut.py") 649)]) #[])) :: ((nat_lit 126), (Obj.mk (Value.type "function") (Option.none) (Data.func (FuncData.mk (Str.ofString "_law_small") (Str.ofString "_law_small") hd.args_68 (FuncBody.stmts hd.body_68) hd.scope_68 3 [] Value.none Value.none Value.none (Value.str (Str.ofString "law_tp0012_01") 604) (Option.none) (Value.ref 125) Value.none 0)) #[])) :: ((nat_lit 127), (Obj.mk (Value.type "tuple") (Option.none) (Data.seq #[] 0) #[])) :: ((nat_lit 130), (Obj.mk (Value.type "code") (Option.none) (Data.fields #[(Value.str (Str.ofString "_law_ties") 651), (Value.str (Str.ofString "_law_ties") 652), (Value.str (Str.ofString "/claim/cut.py") 653), (Value.int 116 0), (Value.int 1 0), (Value.int 0 0), (Value.int 0 0), (Value.int 3 0), (Value.ref 127), (Value.bool Bool.true), (Value.int 276 0), (Value.ref 128), Value.none, Value.none, Value.none, (Value.ref 129), (Value.int 654 0), (Value.int 116 0), (Value.str (Str.ofString "/claim/cut.py") 655)]) #[])) :: ((nat_lit 131), (Obj.mk (Value.type "function") (Option.none) (Data.func (FuncData.mk (Str.ofString "_law_ties") (Str.ofString "_law_ties") hd.args_69 (FuncBody.stmts hd.body_69) hd.scope_69 3 [] Value.none Value.none Value.none (Value.str (Str.ofString "law_tp0012_01") 604) (Option.none) (Value.ref 130) Value.none 0)) #[])) :: ((nat_lit 132), (Obj.mk (Value.type "tuple") (Option.none) (Data.seq #[] 0) #[])) :: ((nat_lit 134), (Obj.mk (Value.type "tuple") (Option.none) (Data.seq #[(Value.str (Str.ofString "counts") 660), (Value.str (Str.ofString "ties") 661), (Value.str (Str.ofString "lines") 662), (Value.str (Str.ofString "changes") 663), (Value.str (Str.ofString "low") 664), (Value.str (Str.ofString "high") 665), (Value.str (Str.ofString "kept") 666)] 0) #[])) :: ((nat_lit 135), (Obj.mk (Value.type "tuple") (Option.none) (Data.seq #[] 0) #[])) :: ((nat_lit 137), (Obj.mk (Value.type "code") (Option.none) (Data.fields #[(Value.str (Str.ofString "_law_tied") 657), (Value.str (Str.ofString "_law_tied") 658), (Value.str (Str.ofString "/claim/cut.py") 659), (Value.int 118 0), (Value.int 2 0), (Value.int 0 0), (Value.int 0 0), (Value.int 3 0), (Value.ref 132), (Value.bool Bool.true), (Value.int 276 0), (Value.ref 133), Value.none, (Value.ref 134), (Value.ref 135), (Value.ref 136), (Value.int 667 0), (Value.int 118 0), (Value.str (Str.ofString "/claim/cut.py") 668)]) #[])) :: ((nat_lit 138), (Obj.mk (Value.type "function") (Option.none) (Data.func (FuncData.mk (Str.ofString "_law_tied") (Str.ofString "_law_tied") hd.args_70 (FuncBody.stmts hd.body_70) hd.scope_70 3 [] Value.none Value.none Value.none (Value.str (Str.ofString "law_tp0012_01") 604) (Option.none) (Value.ref 137) Value.none 0)) #[])) :: ((nat_lit 139), (Obj.mk (Value.type "tuple") (Option.none) (Data.seq #[] 0) #[])) :: ((nat_lit 141), (Obj.mk (Value.type "tuple") (Option.none) (Data.seq #[(Value.str (Str.ofString "counts") 673), (Value.str (Str.ofString "ties") 674), (Value.str (Str.ofString "lines") 675), (Value.str (Str.ofString "changes") 676), (Value.str (Str.ofString "low") 677), (Value.str (Str.ofString "high") 678), (Value.str (Str.ofString "lesser") 679), (Value.str (Str.ofString "greater") 680)] 0) #[])) :: ((nat_lit 142), (Obj.mk (Value.type "tuple") (Option.none) (Data.seq #[] 0) #[])) :: ((nat_lit 144), (Obj.mk (Value.type "code") (Option.none) (Data.fields #[(Value.str (Str.ofString "_law_due") 670), (Value.str (Str.ofString "_law_due") 671), (Value.str (Str.ofString "/claim/cut.py") 672), (Value.int 128 0), (Value.int 2 0), (Value.int 0 0), (Value.int 0 0), (Value.int 3 0), (Value.ref 139), (Value.bool Bool.true), (Value.int 276 0), (Value.ref 140), Value.none, (Value.ref 141), (Value.ref 142), (Value.ref 143), (Value.int 681 0), (Value.int 128 0), (Value.str (Str.ofString "/claim/cut.py") 682)]) #[])) :: ((nat_lit 145), (Obj.mk (Value.type "function") (Option.none) (Data.func (FuncData.mk (Str.ofString "_law_due") (Str.ofString "_law_due") hd.args_71 (FuncBody.stmts hd.body_71) hd.scope_71 3 [] Value.none Value.none Value.none (Value.str (Str.ofString "law_tp0012_01") 604) (Option.none) (Value.ref 144) Value.none 0)) #[])) :: ((nat_lit 146), (Obj.mk (Value.type "tuple") (Option.none) (Data.seq #[] 0) #[])) :: ((nat_lit 149), (Obj.mk (Value.type "code") (Option.none) (Data.fields #[(Value.str (Str.ofString "_law_stacked") 684), (Value.str (Str.ofString "_law_stacked") 685), (Value.str (Str.ofString "/claim/cut.py") 686), (Value.int 138 0), (Value.int 3 0), (Value.int 0 0), (Value.int 0 0), (Value.int 3 0), (Value.ref 146), (Value.bool Bool.true), (Value.int 276 0), (Value.ref 147), Value.none, Value.none, Value.none, (Value.ref 148), (Value.int 687 0), (Value.int 138 0), (Value.str (Str.ofString "/claim/cut.py") 688)]) #[])) :: ((nat_lit 150), (Obj.mk (Value.type "function") (Option.none) (Data.func (FuncData.mk (Str.ofString "_law_stacked") (Str.ofString "_law_stacked") hd.args_72 (FuncBody.stmts hd.body_72) hd.scope_72 3 [] Value.none Value.none Value.none (Value.str (Str.ofString "law_tp0012_01") 604) (Option.none) (Value.ref 149) Value.none 0)) #[])) :: ((nat_lit 151), (Obj.mk (Value.type "tuple") (Option.none) (Data.seq #[] 0) #[])) :: ((nat_lit 154), (Obj.mk (Value.type "code") (Option.none) (Data.fields #[(Value.str (Str.ofString "law") 690), (Value.str (Str.ofString "law") 691), (Value.str (Str.ofString "/claim/cut.py") 692), (Value.int 146 0), (Value.int 1 0), (Value.int 0 0), (Value.int 0 0), (Value.int 3 0), (Value.ref 151), (Value.bool Bool.true), (Value.int 276 0), (Value.ref 152), Value.none, Value.none, Value.none, (Value.ref 153), (Value.int 693 0), (Value.int 146 0), (Value.str (Str.ofString "/claim/cut.py") 694)]) #[])) :: ((nat_lit 155), (Obj.mk (Value.type "function") (Option.none) (Data.func (FuncData.mk (Str.ofString "law") (Str.ofString "law") hd.args_73 (FuncBody.stmts hd.body_73) hd.scope_73 3 [] Value.none Value.none Value.none (Value.str (Str.ofString "law_tp0012_01") 604) (Option.none) (Value.ref 154) Value.none 0)) #[])) :: []))) → Params → Frag)
  case h => conv => rhs; delta hd.args_52 hd.body_52 hd.scope_52 hd.args_56 hd.body_56 hd.scope_56 hd.args_61 hd.body_61 hd.scope_61 hd.args_63 hd.body_63 hd.scope_63 hd.args_64 hd.body_64 hd.scope_64 hd.args_65 hd.body_65 hd.scope_65 hd.args_66 hd.body_66 hd.scope_66 hd.args_67 hd.body_67 hd.scope_67 hd.args_68 hd.body_68 hd.scope_68 hd.args_69 hd.body_69 hd.scope_69 hd.args_70 hd.body_70 hd.scope_70 hd.args_71 hd.body_71 hd.scope_71 hd.args_72 hd.body_72 hd.scope_72 hd.args_73 hd.body_73 hd.scope_73
  case f => exact fun x _ => x
noncomputable def hd.env_41 : Env := (Env.mk (Module.scope (Program.main PySem.Challenge.pw_tp0012_01)) mainNs mainNs [] Str.empty (Option.none) (Value.ref 30) (Option.some 31) 0)
noncomputable abbrev hd.code : Code := .body (behindTheImports PySem.Challenge.pw_tp0012_01) hd.env_41
noncomputable def hd.view_39 : Program := { PySem.Challenge.pw_tp0012_01 with main := { PySem.Challenge.pw_tp0012_01.main with body := (PySem.Challenge.pw_tp0012_01.main.body.take 1 ++ ((PySem.Challenge.pw_tp0012_01.main.body.drop 2).take 51 ++ ((PySem.Challenge.pw_tp0012_01.main.body.drop 54).take 3 ++ ((PySem.Challenge.pw_tp0012_01.main.body.drop 58).take 4 ++ PySem.Challenge.pw_tp0012_01.main.body.drop 63)))) } }
noncomputable abbrev hd.sts_75 : List Stmt := ((behindTheImports PySem.Challenge.pw_tp0012_01).drop 0).take 44
noncomputable abbrev hd.sts_77 : List Stmt := ((behindTheImports PySem.Challenge.pw_tp0012_01).drop 44).take 6
noncomputable abbrev hd.sts_79 : List Stmt := ((behindTheImports PySem.Challenge.pw_tp0012_01).drop 50).take 1
noncomputable abbrev hd.sts_86 : List Stmt := ((behindTheImports PySem.Challenge.pw_tp0012_01).drop 51).take 3
noncomputable abbrev hd.sts_109 : List Stmt := ((behindTheImports PySem.Challenge.pw_tp0012_01).drop 54).take 5
noncomputable abbrev hd.sts_141 : List Stmt := ((behindTheImports PySem.Challenge.pw_tp0012_01).drop 59).take 14
theorem hd.q_open : ∀ w : World, importEnds treeTable (opening PySem.Challenge.pw_tp0012_01) w 799 (start (opening PySem.Challenge.pw_tp0012_01)).1 (start (opening PySem.Challenge.pw_tp0012_01)).2 = some (Shared.mk (hd.heap_e w.params) (Array.mk []) (Drawn.mk 0 0 0 0) 276 (start (opening PySem.Challenge.pw_tp0012_01)).1.os) := by
  intro w; rewrite [PySem.W.Fast.te10274390034422433532, PySem.W.Fast.te14364793385576792824, PySem.W.Fast.te1435165496053646825]; kernel_rfl
theorem hd.q_fence : ∀ w : World, (fun os => Option.map (fun s => (s.heap, s.gens, s.drawn, s.toks)) (fenceModules? PySem.Challenge.pw_tp0012_01 (Shared.mk (hd.heap_e w.params) (Array.mk []) (Drawn.mk 0 0 0 0) 276 os))) = fun _ => some (hd.heap_68 w.params, Array.mk [], Drawn.mk 0 0 0 0, 276) := by
  intro w; rewrite [PySem.W.Fast.te14289696077712309145]; kernel_rfl
theorem hd.q_size : ∀ w : World, ((hd.heap_68 w.params).isNs mainGlobals && (Array.mk ([] : List GenState)).size == 0, (hd.heap_68 w.params).objs.size, (hd.heap_68 w.params).nsMap mainGlobals (Str.ofString "__annotations__")) = (true, 28, some (Value.ref 6)) := by
  intro w; rewrite [PySem.W.Fast.te8920871248978507458]; kernel_rfl
theorem hd.q_pre : ∀ w : World, (fun os => topGo treeTable PySem.Challenge.pw_tp0012_01 w 28 (some (Value.ref 6)) 12 (Shared.mk (hd.heap_68 w.params) (Array.mk []) (Drawn.mk 0 0 0 0) 276 os) (topStub PySem.Challenge.pw_tp0012_01)) = fun os => some ((Shared.mk (hd.heap_72 w.params) (Array.mk []) (Drawn.mk 0 0 0 0) 282 os), Thread.mk (denote treeTable hd.code) hd.code (Pos.mk 0 0 0 0) [topFrame (Pos.mk 0 0 0 0)]) := by
  intro w; rewrite [PySem.W.Fast.te15667345088766844465, PySem.W.Fast.te14364793385576792824, PySem.W.Fast.te11892475500146522536]; kernel_rfl
theorem hd.q_block : ∀ w : World, (fun os => segRun treeTable PySem.Challenge.pw_tp0012_01 w 28 (some (Value.ref 6)) 1 1 (Shared.mk (hd.heap_72 w.params) (Array.mk []) (Drawn.mk 0 0 0 0) 282 os) (blockOf (behindTheImports PySem.Challenge.pw_tp0012_01) hd.env_41 hd.code (Pos.mk 0 0 0 0) [topFrame (Pos.mk 0 0 0 0)])) = fun os => some (Flow.next, (SharedT.mk (hd.tree_73 w.params) 32 hd.life (Array.mk []) (Drawn.mk 0 0 0 0) 282 os).abs, hd.code, (Pos.mk 0 0 0 0)) := by
  intro w; rewrite [PySem.W.Fast.te14374325043358763698, PySem.W.Fast.te14364793385576792824]; kernel_rfl
theorem hd.q_75 : ∀ w : World, (fun os => segRunT treeTable PySem.Challenge.pw_tp0012_01 w 28 (some (Value.ref 6)) 1 397 (SharedT.mk (hd.tree_73 w.params) 32 hd.life (Array.mk []) (Drawn.mk 0 0 0 0) 282 os) (piecesOf hd.sts_75 hd.env_41 hd.code (Pos.mk 0 0 0 0) [topFrame (Pos.mk 0 0 0 0)])) = fun os => some (Flow.next, (SharedT.mk (hd.tree_75 w.params) 32 hd.life (Array.mk []) (Drawn.mk 0 0 0 0) 370 os), hd.code, Pos.mk 45 0 45 2) := by
  intro w; rewrite [PySem.W.Fast.te10110043849684766642, PySem.W.Fast.te14364793385576792824]; kernel_rfl
theorem hd.q_77 : ∀ w : World, (fun os => segRunT treeTable PySem.Challenge.pw_tp0012_01 w 28 (some (Value.ref 6)) 1 55 (SharedT.mk (hd.tree_75 w.params) 32 hd.life (Array.mk []) (Drawn.mk 0 0 0 0) 370 os) (piecesOf hd.sts_77 hd.env_41 hd.code (Pos.mk 45 0 45 2) [topFrame (Pos.mk 0 0 0 0)])) = fun os => some (Flow.next, (SharedT.mk (hd.tree_77 w.params) 32 hd.life (Array.mk []) (Drawn.mk 0 0 0 0) 382 os), hd.code, Pos.mk 51 0 51 9) := by
  intro w; rewrite [PySem.W.Fast.te10110043849684766642, PySem.W.Fast.te14364793385576792824]; kernel_rfl
theorem hd.q_79 : ∀ w : World, (fun os => segRunT treeTable PySem.Challenge.pw_tp0012_01 w 28 (some (Value.ref 6)) 1 979 (SharedT.mk (hd.tree_77 w.params) 32 hd.life (Array.mk []) (Drawn.mk 0 0 0 0) 382 os) (piecesOf hd.sts_79 hd.env_41 hd.code (Pos.mk 51 0 51 9) [topFrame (Pos.mk 0 0 0 0)])) = fun os => some (Flow.next, (SharedT.mk (hd.tree_82 w.params) 35 hd.life (Array.mk []) (Drawn.mk 0 0 0 0) 479 os), hd.code, Pos.mk 52 0 52 17) := by
  refine byRow2 "special-get-raises" (fun w => ?_) (fun w => ?_) <;> (rewrite [PySem.W.Fast.te10110043849684766642, PySem.W.Fast.te14364793385576792824]; kernel_rfl)
theorem hd.q_86 : ∀ w : World, (fun os => segRunT treeTable PySem.Challenge.pw_tp0012_01 w 28 (some (Value.ref 6)) 1 235 (SharedT.mk (hd.tree_82 w.params) 35 hd.life (Array.mk []) (Drawn.mk 0 0 0 0) 479 os) (piecesOf hd.sts_86 hd.env_41 hd.code (Pos.mk 52 0 52 17) [topFrame (Pos.mk 0 0 0 0)])) = fun os => some (Flow.next, (SharedT.mk (hd.tree_108 w.params) 55 hd.life (Array.mk []) (Drawn.mk 0 0 0 0) 508 os), hd.code, Pos.mk 56 0 57 8) := by
  intro w; rewrite [PySem.W.Fast.te10110043849684766642, PySem.W.Fast.te14364793385576792824]; kernel_rfl
theorem hd.q_109 : ∀ w : World, (fun os => segRunT treeTable PySem.Challenge.pw_tp0012_01 w 28 (some (Value.ref 6)) 1 400 (SharedT.mk (hd.tree_108 w.params) 55 hd.life (Array.mk []) (Drawn.mk 0 0 0 0) 508 os) (piecesOf hd.sts_109 hd.env_41 hd.code (Pos.mk 56 0 57 8) [topFrame (Pos.mk 0 0 0 0)])) = fun os => some (Flow.next, (SharedT.mk (hd.tree_140 w.params) 84 hd.life (Array.mk []) (Drawn.mk 0 0 0 0) 595 os), hd.code, Pos.mk 79 0 79 10) := by
  intro w; rewrite [PySem.W.Fast.te10110043849684766642, PySem.W.Fast.te14364793385576792824]; kernel_rfl
theorem hd.q_141 : ∀ w : World, (fun os => segRunT treeTable PySem.Challenge.pw_tp0012_01 w 28 (some (Value.ref 6)) 1 368 (SharedT.mk (hd.tree_140 w.params) 84 hd.life (Array.mk []) (Drawn.mk 0 0 0 0) 595 os) (piecesOf hd.sts_141 hd.env_41 hd.code (Pos.mk 79 0 79 10) [topFrame (Pos.mk 0 0 0 0)])) = fun os => some (Flow.next, (SharedT.mk (hd.tree_214 w.params) 156 hd.life (Array.mk []) (Drawn.mk 0 0 0 0) 696 os), hd.code, Pos.mk 146 0 150 72) := by
  intro w; rewrite [PySem.W.Fast.te10110043849684766642, PySem.W.Fast.te14364793385576792824]; kernel_rfl
theorem hd.q_fin : ∀ w : World, (fun os => topRun treeTable PySem.Challenge.pw_tp0012_01 w 28 (some (Value.ref 6)) 2 (SharedT.mk (hd.tree_214 w.params) 156 hd.life (Array.mk []) (Drawn.mk 0 0 0 0) 696 os).abs (Thread.mk (doneF Flow.next) hd.code (Pos.mk 146 0 150 72) [topFrame (Pos.mk 0 0 0 0)])) = fun os => some (Shared.mk (hd.heap_215 w.params) (Array.mk []) (Drawn.mk 0 0 0 0) 696 os) := by
  intro w; rewrite [PySem.W.Fast.te14082659384304107361, PySem.W.Fast.te14364793385576792824]; kernel_rfl
theorem hd.cells : (behindTheImports PySem.Challenge.pw_tp0012_01) = hd.sts_75 ++ (hd.sts_77 ++ (hd.sts_79 ++ (hd.sts_86 ++ (hd.sts_109 ++ (hd.sts_141 ++ []))))) := by kernel_rfl
theorem hd.q_rest (w : World) (os : OsState) : ∀ l, l = hd.sts_75 ++ (hd.sts_77 ++ (hd.sts_79 ++ (hd.sts_86 ++ (hd.sts_109 ++ (hd.sts_141 ++ []))))) → topRun treeTable PySem.Challenge.pw_tp0012_01 w 28 (some (Value.ref 6)) (Nat.add 397 (Nat.add 55 (Nat.add 979 (Nat.add 235 (Nat.add 400 (Nat.add 368 2)))))) (SharedT.mk (hd.tree_73 w.params) 32 hd.life (Array.mk []) (Drawn.mk 0 0 0 0) 282 os).abs (restOf l hd.env_41 hd.code (Pos.mk 0 0 0 0) [topFrame (Pos.mk 0 0 0 0)]) = some (Shared.mk (hd.heap_215 w.params) (Array.mk []) (Drawn.mk 0 0 0 0) 696 os) := by
  intro l e
  rw [e]
  exact piece_app (segRun_of (congrFun (hd.q_75 w) os)) (piece_app (segRun_of (congrFun (hd.q_77 w) os)) (piece_app (segRun_of (congrFun (hd.q_79 w) os)) (piece_app (segRun_of (congrFun (hd.q_86 w) os)) (piece_app (segRun_of (congrFun (hd.q_109 w) os)) (piece_app (segRun_of (congrFun (hd.q_141 w) os)) (congrFun (hd.q_fin w) os))))))
theorem hd.q_run : ∀ (w : World) (os : OsState), topRun treeTable PySem.Challenge.pw_tp0012_01 w 28 (some (Value.ref 6)) (Nat.add 12 (Nat.add 1 (Nat.add 397 (Nat.add 55 (Nat.add 979 (Nat.add 235 (Nat.add 400 (Nat.add 368 2)))))))) (Shared.mk (hd.heap_68 w.params) (Array.mk []) (Drawn.mk 0 0 0 0) 276 os) (topStub PySem.Challenge.pw_tp0012_01) = some (Shared.mk (hd.heap_215 w.params) (Array.mk []) (Drawn.mk 0 0 0 0) 696 os) := fun w os =>
  go_top (congrFun (hd.q_pre w) os) (piece_block (congrFun (hd.q_block w) os) (hd.q_rest w os _ hd.cells))
abbrev hd.as : List Addr := (2 :: 3 :: 6 :: 11 :: 12 :: 32 :: 35 :: 37 :: 38 :: 40 :: 41 :: 42 :: 49 :: 50 :: 51 :: 52 :: 55 :: 62 :: 63 :: 64 :: 67 :: 69 :: 70 :: 72 :: 73 :: 77 :: 78 :: 82 :: 83 :: 84 :: 86 :: 87 :: 89 :: 90 :: 91 :: 94 :: 95 :: 96 :: 98 :: 99 :: 101 :: 102 :: 103 :: 106 :: 107 :: 108 :: 110 :: 111 :: 113 :: 114 :: 115 :: 118 :: 119 :: 120 :: 122 :: 123 :: 125 :: 126 :: 127 :: 130 :: 131 :: 132 :: 134 :: 135 :: 137 :: 138 :: 139 :: 141 :: 142 :: 144 :: 145 :: 146 :: 149 :: 150 :: 151 :: 154 :: 155 :: [])
theorem hd.keys : ∀ P, hd.as = (hd.heap_39 P).map (·.1) := fun P => by kernel_rfl
theorem hd.q_291 : ∀ (w : PySem.World), (fun os => PySem.W.staticsOk (PySem.importedModules PySem.Challenge.pw_tp0012_01.main.body) (hd.heap_68 w.params) (hd.heap_215 w.params) && PySem.W.namesBound PySem.Challenge.pw_tp0012_01 (hd.heap_215 w.params) && PySem.W.gensDone (PySem.Shared.mk (hd.heap_215 w.params) (Array.mk []) (PySem.Drawn.mk 0 0 0 0) 696 os) && PySem.W.laidKept (hd.heap_68 w.params) (hd.heap_215 w.params)) = fun os => true := by
  intro w; rewrite [PySem.W.Fast.te5923862056798008813]; kernel_rfl
theorem hd.q_293 : ∀ (w : PySem.World), (fun os => PyProof.Rows.seen (List.map (fun x => x.name) (PyProof.Rows.recsOf hd.view_39)) (PyProof.Rows.ownsOf hd.view_39) [] (PySem.Shared.mk (PySem.Shared.mk (hd.heap_215 w.params) (Array.mk []) (PySem.Drawn.mk 0 0 0 0) 696 os).heap #[] (PySem.Shared.mk (hd.heap_215 w.params) (Array.mk []) (PySem.Drawn.mk 0 0 0 0) 696 os).drawn (PySem.Shared.mk (hd.heap_215 w.params) (Array.mk []) (PySem.Drawn.mk 0 0 0 0) 696 os).toks (PySem.Shared.mk (hd.heap_215 w.params) (Array.mk []) (PySem.Drawn.mk 0 0 0 0) 696 os).os)) = fun os => PyProof.Rows.expectedOf hd.view_39 := by
  intro w; rewrite [PySem.W.Fast.te5160383126252970620, PySem.W.R.mapR_eq, PySem.W.Fast.te3399658132070893891, PySem.W.Fast.te5991557255702980513]; kernel_rfl
theorem hd.q_295 : ∀ (w : PySem.World), (fun os => (PySem.Shared.mk (hd.heap_215 w.params) (Array.mk []) (PySem.Drawn.mk 0 0 0 0) 696 os).heap.bltView) = fun os => PySem.bltViewBooted := by
  intro w; kernel_rfl
theorem hd.q_297 : ∀ (w : PySem.World), (fun os => (PySem.Shared.mk (hd.heap_215 w.params) (Array.mk []) (PySem.Drawn.mk 0 0 0 0) 696 os).heap.keysOk (PySem.W.looseW hd.view_39 [PySem.Str.ofString "EXACT_TOKEN_TYPES", PySem.Str.ofString "_twin_re_1", PySem.Str.ofString "_twin_re_2"]) (List.map (fun x => x.name) (PyProof.Rows.recsOf hd.view_39)) (List.map (fun x => x.fst) (PyProof.Rows.litsOf hd.view_39)) (List.map (fun x => x.name) (PyProof.Rows.clssOf hd.view_39 (PySem.W.looseW hd.view_39 [PySem.Str.ofString "EXACT_TOKEN_TYPES", PySem.Str.ofString "_twin_re_1", PySem.Str.ofString "_twin_re_2"]))) && (PySem.Shared.mk (hd.heap_215 w.params) (Array.mk []) (PySem.Drawn.mk 0 0 0 0) 696 os).heap.accountedOkI (PySem.importedModules PySem.Challenge.pw_tp0012_01.main.body) && (PySem.Shared.mk (hd.heap_215 w.params) (Array.mk []) (PySem.Drawn.mk 0 0 0 0) 696 os).heap.isNs PySem.mainGlobals && (PySem.Shared.mk (hd.heap_215 w.params) (Array.mk []) (PySem.Drawn.mk 0 0 0 0) 696 os).heap.isNs PySem.builtinsNs && PyProof.Rows.tablesOk hd.view_39 (PySem.Shared.mk (hd.heap_215 w.params) (Array.mk []) (PySem.Drawn.mk 0 0 0 0) 696 os).heap && (fun s => PySem.W.xlAt hd.view_39 [] s && PySem.W.recOk PySem.Challenge.rw_tp0012_01.row.records s) (PySem.Shared.mk (hd.heap_215 w.params) (Array.mk []) (PySem.Drawn.mk 0 0 0 0) 696 os) && if true = true then (PySem.Shared.mk (hd.heap_215 w.params) (Array.mk []) (PySem.Drawn.mk 0 0 0 0) 696 os).gens.size == 0 else !PySem.leftWithCleanup (PySem.Shared.mk (hd.heap_215 w.params) (Array.mk []) (PySem.Drawn.mk 0 0 0 0) 696 os).gens) = fun os => true := by
  intro w; rewrite [PySem.W.Fast.te10880121769531294198, PySem.W.Fast.te821141287760084731, PySem.W.R.mapR_eq, PySem.W.Fast.te3399658132070893891, PySem.W.Fast.te7409074990110511671, PySem.W.Fast.te13664370479719496447, PySem.W.Fast.te14722251495701143533, PySem.W.Fast.te5923862056798008813, PySem.W.Fast.te10994771534591457954]; kernel_rfl
theorem hd.q_299 : ∀ (w : PySem.World), (fun os => PyProof.Rows.tabsOk hd.view_39 (PySem.Shared.mk (hd.heap_215 w.params) (Array.mk []) (PySem.Drawn.mk 0 0 0 0) 696 os)) = fun os => true := by
  intro w; rewrite [PySem.W.Fast.te479339242167458305]; kernel_rfl
theorem hd.q_301 : ∀ (w : PySem.World), (fun os => PySem.pinSeenD hd.view_39 (PyProof.Rows.drecsOf hd.view_39) (PySem.Shared.mk (hd.heap_215 w.params) (Array.mk []) (PySem.Drawn.mk 0 0 0 0) 696 os)) = fun os => PySem.pinGoodD (PyProof.Rows.drecsOf hd.view_39) := by
  intro w; rewrite [PySem.W.Fast.te16090120013241838585, PySem.W.Fast.te3247288618530077131]; kernel_rfl
theorem hd.q_303 : ∀ (w : PySem.World), (fun os => PyProof.Rows.plainSeenE hd.view_39 (PySem.W.looseW hd.view_39 [PySem.Str.ofString "EXACT_TOKEN_TYPES", PySem.Str.ofString "_twin_re_1", PySem.Str.ofString "_twin_re_2"]) (PySem.Shared.mk (hd.heap_215 w.params) (Array.mk []) (PySem.Drawn.mk 0 0 0 0) 696 os)) = fun os => PyProof.Rows.plainGoodE hd.view_39 (PySem.W.looseW hd.view_39 [PySem.Str.ofString "EXACT_TOKEN_TYPES", PySem.Str.ofString "_twin_re_1", PySem.Str.ofString "_twin_re_2"]) := by
  intro w; rewrite [PySem.W.Fast.te2386780881361962483, PySem.W.Fast.te821141287760084731]; kernel_rfl
theorem hd.q_305 : ∀ (w : PySem.World), (fun os => PyProof.Rows.plainSeenD hd.view_39 [PySem.Str.ofString "EXACT_TOKEN_TYPES", PySem.Str.ofString "_twin_re_1", PySem.Str.ofString "_twin_re_2"] (PySem.Shared.mk (hd.heap_215 w.params) (Array.mk []) (PySem.Drawn.mk 0 0 0 0) 696 os)) = fun os => PyProof.Rows.plainGoodD hd.view_39 [PySem.Str.ofString "EXACT_TOKEN_TYPES", PySem.Str.ofString "_twin_re_1", PySem.Str.ofString "_twin_re_2"] := by
  intro w; rewrite [PySem.W.Fast.te11698064438423848299]; kernel_rfl
theorem hd.q_307 : ∀ (w : PySem.World), (fun os => PySem.W.wideSeen hd.view_39 (PySem.Shared.mk (hd.heap_215 w.params) (Array.mk []) (PySem.Drawn.mk 0 0 0 0) 696 os)) = fun os => PySem.W.wideGood hd.view_39 := by
  intro w; rewrite [PySem.W.Fast.te7317090234206586261]; kernel_rfl
theorem hd.q_309 : ∀ (w : PySem.World), (fun os => PySem.W.clsSeenW hd.view_39 [PySem.Str.ofString "EXACT_TOKEN_TYPES", PySem.Str.ofString "_twin_re_1", PySem.Str.ofString "_twin_re_2"] (PySem.Shared.mk (hd.heap_215 w.params) (Array.mk []) (PySem.Drawn.mk 0 0 0 0) 696 os)) = fun os => PySem.W.clsGoodW hd.view_39 [PySem.Str.ofString "EXACT_TOKEN_TYPES", PySem.Str.ofString "_twin_re_1", PySem.Str.ofString "_twin_re_2"] := by
  intro w; rewrite [PySem.W.Fast.te7369524293546568484]; kernel_rfl
theorem hd.q_319 : ∀ w : World, (fun os => (kHook hd.heap_39 hd.as hd.keys).obs (Shared.mk (hd.heap_215 w.params) (Array.mk []) (Drawn.mk 0 0 0 0) 696 os)) = fun _ => (kHook hd.heap_39 hd.as hd.keys).val w := by
  intro w; kernel_rfl
theorem hd.looks : ∀ w : World, (fun os =>
    (staticsOk (importedModules PySem.Challenge.pw_tp0012_01.main.body) (hd.heap_68 w.params) (hd.heap_215 w.params) && namesBound PySem.Challenge.pw_tp0012_01 (hd.heap_215 w.params) && gensDone (Shared.mk (hd.heap_215 w.params) (Array.mk []) (Drawn.mk 0 0 0 0) 696 os) && laidKept (hd.heap_68 w.params) (hd.heap_215 w.params),
      openSeen hd.view_39 [Str.ofString "EXACT_TOKEN_TYPES", Str.ofString "_twin_re_1", Str.ofString "_twin_re_2"] (importedModules PySem.Challenge.pw_tp0012_01.main.body) (fun s => xlAt hd.view_39 [] s && recOk PySem.Challenge.rw_tp0012_01.row.records s) true (Shared.mk (hd.heap_215 w.params) (Array.mk []) (Drawn.mk 0 0 0 0) 696 os),
      (kHook hd.heap_39 hd.as hd.keys).obs (Shared.mk (hd.heap_215 w.params) (Array.mk []) (Drawn.mk 0 0 0 0) 696 os))) = fun _ => (true, openGood hd.view_39 [Str.ofString "EXACT_TOKEN_TYPES", Str.ofString "_twin_re_1", Str.ofString "_twin_re_2"], (kHook hd.heap_39 hd.as hd.keys).val w) := by
  intro w
  funext os
  refine looks_pair (congrFun (hd.q_291 w) os) (looks_pair ?_ (congrFun (hd.q_319 w) os))
  unfold openSeen openGood
  exact looks_pair (congrFun (hd.q_293 w) os) (looks_pair (congrFun (hd.q_295 w) os) (looks_pair (congrFun (hd.q_297 w) os) (looks_pair (congrFun (hd.q_299 w) os) (looks_pair (congrFun (hd.q_301 w) os) (looks_pair (congrFun (hd.q_303 w) os) (looks_pair (congrFun (hd.q_305 w) os) (looks_pair (congrFun (hd.q_307 w) os) (congrFun (hd.q_309 w) os))))))))
theorem hd.left : LeftO PySem.Challenge.rw_tp0012_01.row.prog hd.view_39 [Str.ofString "EXACT_TOKEN_TYPES", Str.ofString "_twin_re_1", Str.ofString "_twin_re_2"] (fun s => xlAt hd.view_39 [] s && recOk PySem.Challenge.rw_tp0012_01.row.records s) (kHook hd.heap_39 hd.as hd.keys).obs (kHook hd.heap_39 hd.as hd.keys).val 4982 :=
  LeftO.of_pieces (H₀ := hd.heap_68) (H₁ := hd.heap_215) (open_cut (He := hd.heap_e) hd.q_open (by decide) hd.q_fence) hd.q_size hd.q_run (by decide) hd.looks
theorem hd.said : PySem.Challenge.rw_tp0012_01.wellSaid = true := by kernel_rfl
theorem hd (walk : (by
  apply (?f : (x : Prop) → (h : x = ((PySem.W.WalkO hd.view_39 [PySem.Str.ofString "EXACT_TOKEN_TYPES", PySem.Str.ofString "_twin_re_1", PySem.Str.ofString "_twin_re_2"] (PySem.W.XL hd.view_39 []) (kHook hd.heap_39 hd.as hd.keys).says PySem.Challenge.rw_tp0012_01.row.toRowW (PySem.DefRec.mk (PySem.Str.ofString "law") hd.args_73 hd.body_73 hd.scope_73 (PySem.Pos.mk 146 0 150 72)) [] fun f vs => PySem.call f vs))) → Prop)
  case h => conv => rhs; delta hd.args_73 hd.body_73 hd.scope_73
  case f => exact fun x _ => x)) : PySem.Challenge.rw_tp0012_01.Holds := by
  refine holds_law hd.said fun said => ?_
  refine holds_open (q := hd.view_39) (XP := XL hd.view_39 []) (YP := (kHook hd.heap_39 hd.as hd.keys).says) hd.left (Hook.of (kHook hd.heap_39 hd.as hd.keys)) (Hook.keeps (kHook hd.heap_39 hd.as hd.keys)) (fun s e => xl_of s (Bool.and_eq_true_iff.mp e).1) XL.keeps (by kernel_rfl) (by kernel_rfl) (by kernel_rfl) (fun s e => recFacts_of (Bool.and_eq_true_iff.mp e).2) (by rfl) said (by decide +kernel) ⟨rfl, rfl, rfl, rfl, rfl, by decide +kernel⟩ ?hw walk
  w_witness2
end Mine
end
section
open PySem PySem.W PySem.Calls PyProof.Rows
set_option maxRecDepth 100000
namespace Mine
noncomputable abbrev LO : List Str := looseW hd.view_39 [Str.ofString "EXACT_TOKEN_TYPES", Str.ofString "_twin_re_1", Str.ofString "_twin_re_2"]
/-- what a called def leaves behind it -/
def Done (g : Heap) (s : Shared) (post : Heap → Value → Prop) (v : Value) (s' : Shared) : Prop :=
  ∃ h' tk', s' = { s with heap := h', toks := tk' } ∧ g.StaysIn h' ∧ post h' v
/-- a contract: the call of f with vs, from any frame, reads what stands and adds to the heap alone -/
def Fn (k : Nat) (w : World) (mean : ExcName → Option Value) (mg mb : Str → Option Value) (f : Addr) (vs : List Value) (pre : Heap → Prop) (post : Heap → Heap → Value → Prop) : Prop :=
  ∀ (dp un : Nat) (gd : Option (List Code)) (cn : Str) (cs : Scope) (a : Addr) (ccd : Value) (cl : List (Str × Addr)) (outer : List Env) (A₀ : Around) (base h₀ : Heap) (L : Addr) (m : Str → Option Value) (s : Shared) (Q E : Value → Shared → Prop),
    Below A₀ base outer h₀ → Fr h₀ L s.heap m → (hd.heap_39 w.params).In h₀ → Top hd.view_39 LO mean mg mb h₀ → cs.kind = .function → dp + k < recursionLimit → un + 6 * k < cLine → pre s.heap →
    (∀ v h' tk', s.heap.StaysIn h' → Fr h₀ L h' m → post s.heap h' v → Q v { s with heap := h', toks := tk' }) →
    wpAny (model PySem.Challenge.rw_tp0012_01.row.prog w) (ktrTop dp un gd cn cs L a ccd cl outer) (call (.ref f) vs) Q E s
theorem fr_stays {h₀ h h' : Heap} {L : Addr} {m : Str → Option Value} (F : Fr h₀ L h m) (k : h.StaysIn h') : Fr h₀ L h' m := by
  obtain ⟨o, es, ep, ho, r⟩ := F.ns
  exact ⟨⟨o, es, ep, k _ _ ho, r⟩, fun b o e => k _ _ (F.keep b o e), F.above⟩
theorem news_stays {h₀ h h' : Heap} {L : Addr} {news : List (Addr × Obj)} (N : News h₀ L h news) (k : h.StaysIn h') : News h₀ L h' news :=
  fun p hp => ⟨k _ _ (N p hp).1, (N p hp).2⟩
theorem enter {w : World} {A₀ A : Around} {s : Shared} {base h₀ : Heap} {outer : List Env} {env : Env} {L : Addr} {m : Str → Option Value} {K : Frag} {p : Program} {loose : List Str} {mean : ExcName → Option Value} {mg mb : Str → Option Value}
    {post : Heap → Value → Prop} {Q E : Value → Shared → Prop} {name qual : Str} {params : Arguments} {body : List Stmt} {scope : Scope} {dV kV doc pm cdv ct oc : Value} {an od : Option Addr} {osl : Array (Option Value)} {f : Addr} {vs : List Value} {binds : List (Str × Value)}
    (B : Below A₀ base outer h₀) (F : Fr h₀ L s.heap m) (X₀ : K.In h₀) (T : Top p loose mean mg mb h₀) (hA : A.frames = some (env :: outer)) (hf : env.frame = some L) (hke : env.scope.kind = .function)
    (ho : K.lookup f = some ⟨oc, od, .func (fnOf name qual params body scope dV kV doc pm an cdv ct), osl⟩) (hcd : codeIn K cdv qual = true) (hroom : A.depth < recursionLimit)
    (hbind : BindsTo s (fnOf name qual params body scope dV kV doc pm an cdv ct) ⟨vs, []⟩ binds) (hloc : ∀ y ∈ binds, scope.names.lookup y.1 = some .local)
    (ret : ∀ v h' tk', s.heap.StaysIn h' → Fr h₀ L h' m → post h' v → Q v { s with heap := h', toks := tk' })
    (h : ∀ g L' h₁, g = s.heap → Fr g L' h₁ (fun y => binds.reverse.lookup y) → News g L' h₁ [] → Below A base (env :: outer) g → K.In g → Top p loose mean mg mb g →
      wpAny (model PySem.Challenge.rw_tp0012_01.row.prog w) (A.deeper (envOf qual scope L' f cdv)) (execs body (envOf qual scope L' f cdv))
        (fun fl s' => Done g s post (match fl with | .ret v => v | _ => .none) s') (fun _ _ => False)
        { s with heap := h₁, toks := s.toks + binds.length })
    (hco : scope.isCoroutine = false) (hgen : scope.isGenerator = false) (hk : scope.kind = .function)
    (hcell : ∀ x ∈ scope.names, x.2 ≠ .cell) : wpAny (model PySem.Challenge.rw_tp0012_01.row.prog w) A (call (.ref f) vs) Q E s := by
  refine wpAny_call ?_
  have stays : h₀.StaysIn s.heap := F.keep
  refine codeAny_call_def (fd := fnOf name qual params body scope dV kV doc pm an cdv ct) (body := body) (binds := binds) hroom (X₀.keeps F.keep _ _ ho) rfl (T.nolimit.keeps F.keep) (codeRec_of (X₀.keeps F.keep) hcd) rfl hbind hcell hloc (fun h₁ hns hk₁ => ?_) hco hgen hk
  have BG : Below A base (env :: outer) s.heap := by
    refine ⟨hA, fun b o e => F.keep b o (B.stays b o e), ?_⟩
    have hnew : base.get? L = none := by
      cases hq : base.get? L with
      | none => rfl
      | some o => exact absurd (Nat.lt_of_lt_of_le (Heap.lt_size (B.stays L o hq)) F.above) (Nat.lt_irrefl _)
    exact .cons (by rw [hke]; decide) hf F.ns hnew (B.frames.of_keeps fun b o e _ => ⟨o, F.keep b o e, rfl⟩)
  refine wpAny_mono (h s.heap s.heap.objs.size h₁ rfl ⟨hns, fun b o e => hk₁ b o e, Nat.le_refl _⟩ News.nil BG (X₀.keeps stays) (T.keeps stays)) (fun fl s' hl => ?_) fun _ _ y => y.elim
  obtain ⟨h', tk', rfl, st, hp⟩ := hl
  exact ret _ _ _ st (fr_stays F st) hp
theorem str_is {x y : Str} {t : Tok} (e : x = y) : ∃ t', Value.str x t = Value.str y t' := ⟨t, by rw [e]⟩
theorem int_is {x y : Int} {t : Tok} (e : x = y) : ∃ t', Value.int x t = Value.int y t' := ⟨t, by rw [e]⟩
theorem Fn.use {w : World} {mean : ExcName → Option Value} {mg mb : Str → Option Value} {f : Addr} {vs : List Value} {pre : Heap → Prop} {post : Heap → Heap → Value → Prop} {k : Nat} (C : Fn k w mean mg mb f vs pre post)
    {dp un : Nat} {gd : Option (List Code)} {cn : Str} {cs : Scope} {a : Addr} {ccd : Value} {cl : List (Str × Addr)} {outer : List Env} {A₀ : Around} {base h₀ : Heap} {L : Addr} {m : Str → Option Value} {news : List (Addr × Obj)} {s : Shared} {Q E : Value → Shared → Prop}
    (B : Below A₀ base outer h₀) (F : Fr h₀ L s.heap m) (X : (hd.heap_39 w.params).In h₀) (N : News h₀ L s.heap news) (T : Top hd.view_39 LO mean mg mb h₀) (hk : cs.kind = .function) (hd : dp + k < recursionLimit) (hu : un + 6 * k < cLine) (hpre : pre s.heap)
    (ret : ∀ v h' tk', s.heap.StaysIn h' → Fr h₀ L h' m → News h₀ L h' news → post s.heap h' v → Q v { s with heap := h', toks := tk' }) :
    wpAny (model PySem.Challenge.rw_tp0012_01.row.prog w) (ktrTop dp un gd cn cs L a ccd cl outer) (call (.ref f) vs) Q E s :=
  C _ _ _ _ _ _ _ _ _ _ _ _ _ _ _ _ _ B F X T hk hd hu hpre fun v h' tk' st F' hp => ret v h' tk' st F' (news_stays N st) hp
theorem below_own {A₀ A : Around} {s : Shared} {base h₀ : Heap} {outer : List Env} {env : Env} {L : Addr} {m : Str → Option Value}
    (B : Below A₀ base outer h₀) (F : Fr h₀ L s.heap m) (hA : A.frames = some (env :: outer)) (hf : env.frame = some L) (hke : env.scope.kind = .function) : Below A base (env :: outer) s.heap := by
  refine ⟨hA, fun b o e => F.keep b o (B.stays b o e), ?_⟩
  have hnew : base.get? L = none := by
    cases hq : base.get? L with
    | none => rfl
    | some o => exact absurd (Nat.lt_of_lt_of_le (Heap.lt_size (B.stays L o hq)) F.above) (Nat.lt_irrefl _)
  exact .cons (by rw [hke]; decide) hf F.ns hnew (B.frames.of_keeps fun b o e _ => ⟨o, F.keep b o e, rfl⟩)
theorem enterC {w : World} {A₀ A : Around} {s : Shared} {base h₀ : Heap} {outer : List Env} {env : Env} {L : Addr} {m : Str → Option Value} {K : Frag} {p : Program} {loose : List Str} {mean : ExcName → Option Value} {mg mb : Str → Option Value}
    {post : Heap → Value → Prop} {Q E : Value → Shared → Prop} {name qual : Str} {params : Arguments} {body : List Stmt} {scope : Scope} {dV kV doc pm cdv ct oc : Value} {an od : Option Addr} {osl : Array (Option Value)} {f : Addr} {vs : List Value} {binds : List (Str × Value)}
    (B : Below A₀ base outer h₀) (F : Fr h₀ L s.heap m) (X₀ : K.In h₀) (T : Top p loose mean mg mb h₀) (hA : A.frames = some (env :: outer)) (hf : env.frame = some L) (hke : env.scope.kind = .function)
    (ho : K.lookup f = some ⟨oc, od, .func (fnOf name qual params body scope dV kV doc pm an cdv ct), osl⟩) (hcd : codeIn K cdv qual = true) (hroom : A.depth < recursionLimit)
    (hbind : BindsTo s (fnOf name qual params body scope dV kV doc pm an cdv ct) ⟨vs, []⟩ binds)
    (hkind : (binds.all fun y => scope.names.lookup y.1 == some .local || scope.names.lookup y.1 == some .cell) = true) (hnd : ((cellsFrom 0 scope.names []).map (·.1)).Nodup)
    (ret : ∀ v h' tk', s.heap.StaysIn h' → Fr h₀ L h' m → post h' v → Q v { s with heap := h', toks := tk' })
    (h : ∀ g L' h₁ tk cells, g = s.heap → Fr g L' h₁ (bindL (envOfC qual scope L' f cdv).kindOf binds fun _ => none) → News g L' h₁ (cells ++ []) →
      CellsAre (bindC (envOfC qual scope L' f cdv).kindOf binds fun _ => none) (cellsFrom (L' + 1) scope.names []) cells → Below A base (env :: outer) g → K.In g → Top p loose mean mg mb g →
      wpAny (model PySem.Challenge.rw_tp0012_01.row.prog w) (A.deeper (envOfC qual scope L' f cdv)) (execs body (envOfC qual scope L' f cdv))
        (fun fl s' => Done g s post (match fl with | .ret v => v | _ => .none) s') (fun _ _ => False)
        { s with heap := h₁, toks := tk })
    (hco : scope.isCoroutine = false) (hgen : scope.isGenerator = false) (hk : scope.kind = .function) : wpAny (model PySem.Challenge.rw_tp0012_01.row.prog w) A (call (.ref f) vs) Q E s := by
  refine wpAny_call ?_
  have stays : h₀.StaysIn s.heap := F.keep
  refine codeAny_call_function (fd := fnOf name qual params body scope dV kV doc pm an cdv ct) (body := body) hroom (X₀.keeps F.keep _ _ ho) rfl hco hgen rfl (codeRec_of (X₀.keeps F.keep) hcd) (hbind _ _ _ _ ?_)
  refine wpAny_newFunctionEnv_cells hk (kindsX hkind _) fun env' he s' x => ?_
  subst he
  refine ⟨(T.nolimit.keeps F.keep).keeps x.toInCall.keep, codeAny_func ?_⟩
  obtain ⟨h₁, tk, rfl, _⟩ := x.done
  have hk₁ := x.toInCall.keep
  obtain ⟨cells, NC, Y⟩ := Cl.news (h₀ := s.heap) (Nat.le_refl _) fun n c hm => ⟨x.cell n c (lookup_of_mem_nodup (cellsFrom_names scope.names 0 (s.heap.objs.size + 1) [] [] rfl ▸ hnd) hm), x.above n c hm⟩
  refine wpAny_mono (h s.heap s.heap.objs.size h₁ tk cells rfl ⟨x.toInCall.ns, fun b o e => hk₁ b o e, Nat.le_refl _⟩ (fun p hp => NC p (by simpa using hp)) Y (below_own B F hA hf hke) (X₀.keeps stays) (T.keeps stays)) (fun fl s' hl => ?_) fun _ _ y => y.elim
  obtain ⟨h', tk', rfl, st, hp⟩ := hl
  exact ret _ _ _ st (fr_stays F st) hp
end Mine
end
section
open PySem PySem.W PySem.Calls PyProof.Rows PyProof.Rows.LCg PyProof.Rows.LCt
set_option maxRecDepth 100000
set_option maxHeartbeats 2000000
namespace Mine
abbrev tupO (its : Array Value) (n : Nat) : Obj := { cls := .type "tuple", data := .seq its n }
section
variable {prog : Program} {w : World} {A : Around} {E : Value → Shared → Prop} {s : Shared} {h₀ : Heap} {L : Addr} {m : Str → Option Value} {env : Env}
/-- a written tuple of the call's own as a comprehension's source -/
def SrcTT (prog : Program) (w : World) (A : Around) (h₀ : Heap) (L : Addr) (m : Str → Option Value) (env : Env) (ct elt : Expr) (x : Str) (scope : Scope) (cl : List (Str × Addr)) (Fin : Shared → List Value → List (Addr × Obj) → Prop) (xv : Value) (s₁ : Shared) : Prop :=
  ∃ ax its k news, xv = .ref ax ∧ A.handled = none ∧ Fr h₀ L s₁.heap m ∧ News h₀ L s₁.heap news ∧ (ax, tupO its k) ∈ news ∧ its.size ≤ sizeLine ∧
    ∀ s₂ : Shared, (∃ h, s₂ = { s₁ with heap := h }) → CompRestT prog w A h₀ L m env ct elt x scope cl s₂ (fun nw => (ax, tupO its k) ∈ nw) (fun i v => its[i]? = some v) (Fin s₂) its.size 0 [] news
theorem SrcTT.intro {ct elt : Expr} {x : Str} {scope : Scope} {cl : List (Str × Addr)} {Fin : Shared → List Value → List (Addr × Obj) → Prop} {ax : Addr} {its : Array Value} {k : Nat} {news : List (Addr × Obj)} {s₁ : Shared}
    (hh : A.handled = none) (F : Fr h₀ L s₁.heap m) (N : News h₀ L s₁.heap news) (hm : (ax, tupO its k) ∈ news) (hsz : its.size ≤ sizeLine)
    (h : ∀ g, CompRestT prog w A h₀ L m env ct elt x scope cl { s₁ with heap := g } (fun nw => (ax, tupO its k) ∈ nw) (fun i v => its[i]? = some v) (Fin { s₁ with heap := g }) its.size 0 [] news) :
    SrcTT prog w A h₀ L m env ct elt x scope cl Fin (.ref ax) s₁ := ⟨ax, its, k, news, rfl, hh, F, N, hm, hsz, fun _ ⟨g, e⟩ => e ▸ h g⟩
theorem ListComp_TT {ct elt iter : Expr} {x : Str} {px : Pos} {scope : Scope} {cl : List (Str × Addr)} {pos : Pos} {Q : Value → Shared → Prop} (F₀ : Fr h₀ L s.heap m)
    (hclos : closureFor scope env = pure cl) (hcell : ∀ y ∈ scope.names, y.2 ≠ .cell) (hkind : scope.kind = .function)
    (hnames : ∀ y ∈ scope.names, y.2 = .local → scope.names.lookup y.1 = some .local) (hx : scope.names.lookup x = some .local)
    (h : wpAny (model prog w) A (eval iter env) (SrcTT prog w A h₀ L m env ct elt x scope cl (fun s₂ => FinE h₀ L m s₂ Q)) E s)
    (hs : ∀ x, foldedSetIterable iter env x = pure x := by intro _; rfl) :
    wpAny (model prog w) A (eval (.ListComp elt [⟨.Name x px, iter, [ct], 0⟩] scope pos) env) Q E s := by
  rw [eval_ListComp]
  refine wpAny_comprehension_free (use := none) rfl hs hclos hkind hnames (wpAny_mono h (fun xv s₁ h₁ => ?_) fun _ _ e => e)
  obtain ⟨ax, its, k, news, rfl, hh, F, N, hm, hsz, R⟩ := h₁
  have hl : s₁.heap.IsTuple ax its := ⟨_, (N _ hm).1, rfl, k, rfl⟩
  have hlt : ax < s₁.heap.objs.size := Heap.lt_size (N _ hm).1
  refine wpAny_pyIter_tuple hl ?_
  have up : ∀ b o, s₁.heap.get? b = some o → (s₁.heap.push { cls := .type "tuple_iterator", data := .fields #[.ref ax, .int 0 0] }).get? b = some o := fun b o e => Heap.get?_push_of_some _ e
  refine block_T (S := fun nw => (ax, tupO its k) ∈ nw) (Walks.tuple hh s₁.heap.objs.size ax (Nat.ne_of_lt hlt) its) hsz (fun i h st => by obtain ⟨o, e, _⟩ := st.1; exact ⟨o, e⟩) ?_ hcell hkind hx ⟨⟨_, Heap.get?_push_size _ rfl, rfl, rfl⟩, hl.push _⟩ (fun b hb => ?_)
    (F.keeps up) (N.grown up) (Nat.ne_of_lt F.ns.lt) (next_is_new F) (fun p hp => Nat.ne_of_lt (Heap.lt_size (N p hp).1)) hm (R _ ⟨_, rfl⟩) ?_
  · intro i h h' o nw st e e' _ N' hS
    exact ⟨by obtain ⟨o', q, r⟩ := st.1; rw [e] at q; cases q; exact ⟨o, e', r⟩, ⟨_, (N' _ hS).1, rfl, k, rfl⟩⟩
  · show b < (s₁.heap.push _).objs.size
    rw [Heap.size_push]
    rcases List.mem_cons.mp hb with rfl | hb
    · exact Nat.lt_succ_self _
    · rw [List.mem_singleton.mp hb]; exact Nat.lt_succ_of_lt hlt
  · intro D C h tk m' ys news' F' N' o1 hn hC₀ hD₀ hCL hDL hCD offC fin
    refine ⟨m', hn, fun h'' hs'' => fin D h'' tk (F'.change hs'' hCL hC₀) (fun p hp => ?_) o1⟩
    refine ⟨hs''.extBut _ _ ?_ (N' p hp).1, (N' p hp).2⟩
    rcases List.mem_cons.mp hp with rfl | hp
    · exact Ne.symm hCD
    · exact offC p hp
theorem max_known {l : Addr} {vs : List Value} {ns : List Int} {k : Int} {news : List (Addr × Obj)} {Q : Value → Shared → Prop} (hh : A.handled = none) (F : Fr h₀ L s.heap m) (N : News h₀ L s.heap news)
    (hl : s.heap.IsList l vs.toArray) (hi : IntsAre vs ns) (h1 : k ∈ ns) (h2 : ns.all (fun a => decide (a ≤ k)) = true)
    (h : ∀ h' (t : Tok) tk, Fr h₀ L h' m → News h₀ L h' news → Q (.int k t) { s with heap := h', toks := tk }) :
    wpAny (model prog w) A (call (.builtin "max") [.ref l]) Q E s := by
  have hne : 0 < ns.length := List.length_pos_of_mem h1
  refine max_list_N hh F N hl hi hne fun h' M t tk F' N' hM ha => ?_
  have e : M = k := Int.le_antisymm (of_decide_eq_true (List.all_eq_true.mp h2 M hM)) (ha k h1)
  subst e
  exact h h' t tk F' N'
end
end Mine
end
section
open PySem PySem.W PySem.Calls PyProof.Rows
set_option maxRecDepth 100000
set_option maxHeartbeats 2000000
namespace Mine
/-- a text of n equal signs -/
def reps (c n : Nat) : Str := ⟨(List.replicate n c).toArray⟩
theorem fold_reps (c : Nat) : ∀ (n : Nat) (a : Array Nat), (List.replicate n (#[c] : Array Nat)).foldl (· ++ ·) a = a ++ (List.replicate n c).toArray
  | 0, a => by simp
  | n + 1, a => by
    rw [List.replicate_succ, List.foldl_cons, fold_reps c n]
    apply Array.toList_inj.mp
    simp [List.replicate_succ]
theorem mul_reps {c : Nat} {k : Int} (h : 0 ≤ k) : Txt.mul ⟨#[c]⟩ k = reps c k.toNat := by
  unfold Txt.mul reps
  by_cases h1 : k < 1
  · rw [if_pos h1]
    have : k.toNat = 0 := by omega
    rw [this]
    rfl
  · rw [if_neg h1]
    have hlen : ((⟨#[c]⟩ : Str).length == 0) = false := rfl
    by_cases h2 : k = 1
    · subst h2; rfl
    · have : (k == 1 || (⟨#[c]⟩ : Str).length == 0) = false := by rw [hlen]; simp [h2]
      rw [this]
      simp only [Bool.false_eq_true, if_false]
      rw [fold_reps]
      simp
theorem dot_is : Str.ofString "." = ⟨#[46]⟩ := by decide +kernel
theorem quote_is : Str.ofString "\"" = ⟨#[34]⟩ := by decide +kernel
theorem mul_dots {k : Int} (h : 0 ≤ k) : Txt.mul (Str.ofString ".") k = reps 46 k.toNat := by rw [dot_is]; exact mul_reps h
theorem mul_quotes {k : Int} (h : 0 ≤ k) : Txt.mul (Str.ofString "\"") k = reps 34 k.toNat := by rw [quote_is]; exact mul_reps h
/-- what is held until the walk has come so far -/
def Hold (P : Prop) : Prop := P
theorem Hold.of {P : Prop} (h : P) : Hold P := h
section
variable {prog : Program} {w : World} {A : Around} {E : Value → Shared → Prop} {Q : Flow → Shared → Prop} {s : Shared} {env : Env} {h₀ : Heap} {L : Addr}
theorem while_hold {test : Expr} {body : List Stmt} {pos : Pos} {m : Str → Option Value} {news : List (Addr × Obj)} (J : Nat → (Str → Option Value) → List (Addr × Obj) → Prop) {n₀ : Nat}
    (F : Fr h₀ L s.heap m) (N : News h₀ L s.heap news) (hJ : Hold (J n₀ m news))
    (turn : Hold (∀ n m₁ news₁ h₁ tk₁, Fr h₀ L h₁ m₁ → News h₀ L h₁ news₁ → J n m₁ news₁ →
      wpAny (model prog w) A (isTrue test env (eval test env)) (fun b s₂ =>
        if b = true then wpAny (model prog w) A (execs body env) (WhileStep2 h₀ L s J Q n) E s₂ else Q .next s₂) E { s with heap := h₁, toks := tk₁ }))
    (hE : PassesOwn (model prog w) A env E) :
    wpAny (model prog w) A (exec (.While test body [] pos) env) Q E s := While_inv2 J F N hJ turn hE
end
abbrev ov (x : Str) (v : Value) (m : Str → Option Value) : Str → Option Value := fun y => if y = x then some v else m y
theorem ov_eq {x : Str} {v : Value} {m : Str → Option Value} (h : m x = some v) : ov x v m = m := by
  funext y
  show (if y = x then some v else m y) = m y
  by_cases e : y = x
  · rw [if_pos e, e, h]
  · rw [if_neg e]
section
variable {prog : Program} {w : World} {A : Around} {E : Value → Shared → Prop} {s : Shared} {env : Env} {h₀ : Heap} {x : Str} {body : List Stmt} {Q : Flow → Shared → Prop}
/-- a range's turns by what holds between them -/
theorem range_hold {I : Addr} {a : Int} {n : Nat} {m : Str → Option Value} {news : List (Addr × Obj)} (J : Nat → (Str → Option Value) → List (Addr × Obj) → Prop) (hJ : Hold (J 0 m news))
    (turn : Hold (∀ i m₁ news₁ t h tk, i < n → J i m₁ news₁ → Fr h₀ env.locals h (fun y => if y = x then some (.int (a + (i : Int)) t) else m₁ y) → News h₀ env.locals h ((I, itR (a + ((i + 1 : Nat) : Int)) ((n : Int) - ((i + 1 : Nat) : Int))) :: news₁) →
      wpAny (model prog w) A (execs body env) (UnrPost h₀ env.locals { s with heap := h, toks := tk } I (itR (a + ((i + 1 : Nat) : Int)) ((n : Int) - ((i + 1 : Nat) : Int))) (J (i + 1)) Q) E { s with heap := h, toks := tk }))
    (fin : Hold (∀ m₁ news₁ h tk, J n m₁ news₁ → Fr h₀ env.locals h m₁ → News h₀ env.locals h news₁ → Q .next { s with heap := h, toks := tk })) :
    RangeRest prog w A E h₀ env x body Q s I a n n 0 m news := by
  have all : ∀ (k i : Nat) (m₁ : Str → Option Value) (news₁ : List (Addr × Obj)), i + k = n → J i m₁ news₁ → RangeRest prog w A E h₀ env x body Q s I a n k i m₁ news₁ := by
    intro k
    induction k with
    | zero =>
      intro i m₁ news₁ e hj
      have e' : i = n := e
      subst e'
      exact fun h tk F N => fin m₁ news₁ h tk hj F N
    | succ k ih =>
      intro i m₁ news₁ e hj t h tk F N
      refine wpAny_mono (turn i m₁ news₁ t h tk (by omega) hj F N) (fun f s₂ p => ?_) fun _ _ z => z
      cases f with
      | ret v => exact p
      | brk => exact p
      | next =>
        obtain ⟨h', tk', m', news', e', F', N', ho, r⟩ := p
        exact ⟨h', tk', m', news', e', F', N', ho, ih (i + 1) m' news' (by omega) r⟩
      | cont =>
        obtain ⟨h', tk', m', news', e', F', N', ho, r⟩ := p
        exact ⟨h', tk', m', news', e', F', N', ho, ih (i + 1) m' news' (by omega) r⟩
  exact all n 0 m news (Nat.zero_add n) hJ
end
end Mine
end
section
open PySem PySem.W PySem.Calls PyProof.Rows
set_option Elab.async false
set_option maxRecDepth 100000
set_option maxHeartbeats 8000000
set_option pp.deepTerms false
set_option pp.maxSteps 3000
namespace Mine
local macro_rules | `(tactic| ktr_enter) => `(tactic| (refine' enter ?k1 ?k2 ?k3 ?k5 ?kA ?kF ?kK ?k6 ?k7 ?k8 ?k9 ?kB ?kR ?_ ?c2 ?c3 ?c4 ?c5; (case kA => exact rfl); (case kF => exact rfl); (case kK => assumption); (case k1 => k_asm); (case k2 => k_asm); (case k3 => k_asm); (case k5 => k_asm); (case k6 => k_is); (case k7 => k_is); (case k8 => ktr_room); (case k9 => exact BindsTo.of_eq rfl); (case c5 => decide); (case kB => exact locs rfl); (case c2 => exact rfl); (case c3 => exact rfl); (case c4 => exact rfl); (case kR => assumption); k_whole; intro g' L' h' gE' F' N' B' X' T'; (try dsimp only); (try k_fold)))
/-- the sign of a number -/
def sg (n : Int) : Nat := if (n / 18 % 55296).toNat ∈ [46, 34, 13, 10] then 97 else (n / 18 % 55296).toNat
theorem sg_ne (n : Int) : sg n ∉ [46, 34, 13, 10] := by
  unfold sg
  split
  · decide
  · assumption
theorem marks_list : (Str.ofString ".\"\x0d\n").cps.toList = [46, 34, 13, 10] := by decide +kernel
theorem fd_mod (n : Int) : (n.fdiv 18).fmod 55296 = n / 18 % 55296 := by
  rw [Int.fdiv_eq_ediv_of_nonneg n (by decide), Int.fmod_eq_emod_of_nonneg _ (by decide)]
theorem sign_ok {w : World} {mean : ExcName → Option Value} {mg mb : Str → Option Value} {n : Int} {t : Tok} (h0 : 0 ≤ n) (h1 : n < 1000000) :
    Fn 4 w mean mg mb 102 [.int n t] (fun _ => True) (fun _ _ v => ∃ t', v = .str ⟨#[sg n]⟩ t') := by
  unfold Fn
  k_fill
  intro dp un gd cn cs a ccd cl outer A₀ base h₀ L m s Q E B F X T hk hd hu hpre hret
  k_dflt ktr_enter
  k_steps
  · refine ⟨_, _, rfl, Fr.keep (by assumption), str_is ?_⟩
    have hm := StrLaws.found_one (Str.ofString ".\"\x0d\n") ((n.fdiv 18).fmod 55296).toNat
    rename_i hq
    rw [hq, marks_list, fd_mod n] at hm
    have hm' : (n / 18 % 55296).toNat ∉ [46, 34, 13, 10] := by
      intro hc; rw [decide_eq_true hc] at hm; cases hm
    unfold sg
    rw [if_neg hm', ← fd_mod n]
  · refine ⟨_, _, rfl, Fr.keep (by assumption), str_is ?_⟩
    have hm := StrLaws.found_one (Str.ofString ".\"\x0d\n") ((n.fdiv 18).fmod 55296).toNat
    rename_i hq
    rw [hq, marks_list, fd_mod n] at hm
    have hm' : (n / 18 % 55296).toNat ∈ [46, 34, 13, 10] := by
      by_cases hc : (n / 18 % 55296).toNat ∈ [46, 34, 13, 10]
      · exact hc
      · rw [decide_eq_false hc] at hm; cases hm
    unfold sg
    rw [if_pos hm']
    rfl
end Mine
end
section
open PySem PySem.W PySem.Calls PyProof.Rows
set_option Elab.async false
set_option maxRecDepth 100000
set_option maxHeartbeats 8000000
set_option pp.deepTerms false
set_option pp.maxSteps 3000
namespace Mine
local macro_rules | `(tactic| cell_enter) => `(tactic| (refine' enterC ?k1 ?k2 ?k3 ?k5 ?kA ?kF ?kK ?k6 ?k7 ?k8 ?k9 ?kB ?kD ?kR ?_ ?c2 ?c3 ?c4; (case kA => exact rfl); (case kF => exact rfl); (case kK => assumption); (case k1 => k_asm); (case k2 => k_asm); (case k3 => k_asm); (case k5 => k_asm); (case k6 => k_is); (case k7 => k_is); (case k8 => ktr_room); (case k9 => exact BindsTo.of_eq rfl); (case kB => exact rfl); (case kD => decide +kernel); (case c2 => exact rfl); (case c3 => exact rfl); (case c4 => exact rfl); (case kR => assumption); k_whole; intro g' L' h' tk' cells' gE' F' N' Y' B' X' T'; k_cells Y'; (try simp only [List.cons_append, List.nil_append] at N'); (try dsimp only); (try k_fold)))
local macro_rules | `(tactic| walk_at "eval ListComp") => `(tactic| (k_here; lct_look; k_dflt (refine' Mine.ListComp_TT ?k0 ?k1 ?k2 ?k3 ?k4 ?k5 ?_ ?k6; (case k0 => k_asm); (case k1 => with_unfolding_all rfl); (case k2 => decide); (case k3 => rfl); (case k4 => decide); (case k5 => rfl); (case k6 => (intro _; rfl)))))
local macro_rules | `(tactic| walk_at "SrcTT") => `(tactic| (k_here; k_dflt (refine' Mine.SrcTT.intro ?k1 ?k2 ?k3 ?k4 ?k5 ?_; (case k1 => rfl); (case k2 => k_asm); (case k3 => k_asm); (case k4 => k_mem); (case k5 => first | size_fits | exact Nat.le_of_ble_eq_true rfl); intro g'; lct_lit)))
local macro_rules | `(tactic| lcg_src) => `(tactic| ((try dsimp only); k_mem))
local macro_rules | `(tactic| walk_at "call builtin:max") => `(tactic| (k_here; (with_reducible show wpAny _ _ (call (Value.builtin _) [Value.ref _]) _ _ _); (first
  | (with_unfolding_all refine' Mine.max_known (k := 3) ?k1 ?k2 ?k3 ?k4 ?k5 ?k6 ?k7 ?_; (case k1 => with_unfolding_all rfl); (case k2 => k_asm); (case k3 => k_asm); (case k4 => kso_list); (case k5 => l_ints); (case k6 => decide); (case k7 => decide))
  | (with_unfolding_all refine' Mine.max_known (k := 1) ?k1 ?k2 ?k3 ?k4 ?k5 ?k6 ?k7 ?_; (case k1 => with_unfolding_all rfl); (case k2 => k_asm); (case k3 => k_asm); (case k4 => kso_list); (case k5 => l_ints); (case k6 => decide); (case k7 => decide))); intro h' t' k' F' N'; (try k_sweep)))
/-- the names between the turns of the cutting loop -/
abbrev mmF (f : Int) (t : Tok) (b : Str → Option Value) : Str → Option Value := fun y => if y = Str.ofString "found" then some (.int f t) else b y
def CutJ (L : Addr) (n₀ : Nat) (n : Nat) (m : Str → Option Value) (nx : List (Addr × Obj)) : Prop :=
  n ≤ 10 ∧ ∃ f t b o t2, m = mmF f t b ∧ nx = [(L + 1, o)] ∧ o.data = .cell (some (.str (reps 46 n) t2)) ∧ f + ((n / 3 : Nat) : Int) = ((n₀ / 3 : Nat) : Int)
local macro_rules | `(tactic| walk_at "exec While Compare cons nil") => `(tactic| (k_here; (rename Fr _ _ _ _ => cF); (rename News _ _ _ _ => cN); k_dflt (refine' Mine.while_hold (Mine.CutJ _ _) cF cN ?hJ ?turn ?hE; (case hE => with_unfolding_all passes_own))))
theorem mmF_of {f : Int} {t : Tok} {m : Str → Option Value} (h : m (Str.ofString "found") = some (.int f t)) : m = mmF f t m := by
  funext y
  show m y = if y = Str.ofString "found" then some (.int f t) else m y
  by_cases e : y = Str.ofString "found"
  · rw [if_pos e, e, h]
  · rw [if_neg e]
theorem dots_is : reps 46 0 = Str.ofString "" ∧ reps 46 1 = Str.ofString "." ∧ reps 46 2 = Str.ofString ".." ∧ reps 46 3 = Str.ofString "..." ∧ reps 46 4 = Str.ofString "...." ∧ reps 46 5 = Str.ofString "....." ∧ reps 46 6 = Str.ofString "......" ∧ reps 46 7 = Str.ofString "......." ∧ reps 46 8 = Str.ofString "........" ∧ reps 46 9 = Str.ofString "........." ∧ reps 46 10 = Str.ofString ".........." := by decide +kernel
theorem cutJ_of {L : Addr} {n₀ n : Nat} {f : Int} {t t2 : Tok} {m : Str → Option Value} {o : Obj} {x : Str} (hn : n ≤ 10) (hm : m (Str.ofString "found") = some (.int f t)) (hx : reps 46 n = x) (hd : o.data = .cell (some (.str x t2))) (hf : f + ((n / 3 : Nat) : Int) = ((n₀ / 3 : Nat) : Int)) :
    CutJ L n₀ n m [(L + 1, o)] := ⟨hn, f, t, m, o, t2, mmF_of hm, rfl, hx ▸ hd, hf⟩
theorem cut_next {h₀ h' : Heap} {L : Addr} {s : Shared} {Q : Flow → Shared → Prop} {n₀ n n' : Nat} {f : Int} {t t2 : Tok} {m : Str → Option Value} {o : Obj} {x : Str} {tk : Nat} {news : List (Addr × Obj)} (F : Fr h₀ L h' m) (N : News h₀ L h' news) (hmem : (L + 1, o) ∈ news) (hlt : n' < n)
    (hn : n' ≤ 10) (hm : m (Str.ofString "found") = some (.int f t)) (hx : reps 46 n' = x) (hd : o.data = .cell (some (.str x t2))) (hf : f + ((n' / 3 : Nat) : Int) = ((n₀ / 3 : Nat) : Int)) :
    WhileStep2 h₀ L s (CutJ L n₀) Q n .next { s with heap := h', toks := tk } :=
  ⟨h', tk, m, [(L + 1, o)], n', rfl, F, cb_drop N (fun p hp => by rw [List.mem_singleton.mp hp]; exact hmem), hlt, cutJ_of hn hm hx hd hf⟩
theorem dots_upto8 : ∀ m, m < 8 → Txt.slice (reps 46 (m + 3)) none (some 1) = Str.ofString "." ∧ Txt.slice (reps 46 (m + 3)) none (some 2) = Str.ofString ".." ∧ Txt.slice (reps 46 (m + 3)) none (some 3) = Str.ofString "..." ∧ Txt.slice (reps 46 (m + 3)) (some 3) none = reps 46 m := by decide +kernel
section
variable {prog : Program} {w : World} {A : Around} {E : Value → Shared → Prop} {s : Shared} {h₀ : Heap} {L : Addr} {ms : Str → Option Value} {news : List (Addr × Obj)} {t : Tok} {Q : Value → Shared → Prop} {value slice : PySem.Expr} {m : Nat}
theorem dots_size (hm : m < 8) : (reps 46 (m + 3)).length ≤ sizeLine := by
  show (List.toArray _).size ≤ _
  rw [List.size_toArray, List.length_replicate, sizeLine_eq]
  omega
theorem dots_to {j : Int} {uj : Tok} {y : Str} (F : Fr h₀ L s.heap ms) (N : News h₀ L s.heap news) (hm : m < 8) (e : Txt.slice (reps 46 (m + 3)) none (some j) = y)
    (h : ∀ h' t' k, Fr h₀ L h' ms → News h₀ L h' news → Q (.str y t') { s with heap := h', toks := k })
    (hs : subscripted slice false (.str (reps 46 (m + 3)) t) (.ref s.heap.objs.size) = operate [.ref s.heap.objs.size, .str (reps 46 (m + 3)) t] (getItem (.str (reps 46 (m + 3)) t) (.ref s.heap.objs.size)))
    (ht : ∀ r, letTemporaryGo value (.str (reps 46 (m + 3)) t) r = pure ()) :
    wpAny (model prog w) A (subscriptTail value slice (.str (reps 46 (m + 3)) t) (.ref s.heap.objs.size)) Q E { s with heap := s.heap.push { cls := .type "slice", data := .fields #[.none, .int j uj, .none] } } :=
  slice_strN_ns F N (fun h' t' k a b => by rw [e]; exact h h' t' k a b) hs ht (dots_size hm)
theorem dots_from {uj : Tok} (F : Fr h₀ L s.heap ms) (N : News h₀ L s.heap news) (hm : m < 8)
    (h : ∀ h' t' k, Fr h₀ L h' ms → News h₀ L h' news → Q (.str (reps 46 m) t') { s with heap := h', toks := k })
    (hs : subscripted slice false (.str (reps 46 (m + 3)) t) (.ref s.heap.objs.size) = operate [.ref s.heap.objs.size, .str (reps 46 (m + 3)) t] (getItem (.str (reps 46 (m + 3)) t) (.ref s.heap.objs.size)))
    (ht : ∀ r, letTemporaryGo value (.str (reps 46 (m + 3)) t) r = pure ()) :
    wpAny (model prog w) A (subscriptTail value slice (.str (reps 46 (m + 3)) t) (.ref s.heap.objs.size)) Q E { s with heap := s.heap.push { cls := .type "slice", data := .fields #[.int 3 uj, .none, .none] } } :=
  slice_strN_sn F N (fun h' t' k a b => by rw [(dots_upto8 m hm).2.2.2]; exact h h' t' k a b) hs ht (dots_size hm)
theorem dots_ne {u : Tok} (h : Q (.bool true) s) : wpAny (model prog w) A (compareOp .NotEq (.str (reps 46 (m + 3)) t) (.str (Str.ofString "") u)) Q E s :=
  ne_str h
end
section
local macro_rules | `(tactic| walk_at "subscriptTail Name Slice str ref") => `(tactic| ((with_reducible show wpAny _ _ (subscriptTail _ (Expr.Slice none (some _) none _) (Value.str (Mine.reps _ _) _) _) _ _ _); (with_reducible rename Fr _ _ _ _ => F'); (with_reducible rename News _ _ _ _ => N'); (with_unfolding_all refine' Mine.dots_to (s := ⟨_, _, _, _, _⟩) F' N' ?hm ?e ?_ ?k1 ?k2; (case hm => assumption); (case k1 => with_unfolding_all rfl); (case k2 => (intro _; with_unfolding_all rfl)); (case e => first | exact (Mine.dots_upto8 _ (by assumption)).1 | exact (Mine.dots_upto8 _ (by assumption)).2.1 | exact (Mine.dots_upto8 _ (by assumption)).2.2.1)); intro _ _ _ _ _))
local macro_rules | `(tactic| walk_at "subscriptTail Name Slice str ref") => `(tactic| ((with_reducible show wpAny _ _ (subscriptTail _ (Expr.Slice (some _) none none _) (Value.str (Mine.reps _ _) _) _) _ _ _); (with_reducible rename Fr _ _ _ _ => F'); (with_reducible rename News _ _ _ _ => N'); (with_unfolding_all refine' Mine.dots_from (s := ⟨_, _, _, _, _⟩) F' N' ?hm ?_ ?k1 ?k2; (case hm => assumption); (case k1 => with_unfolding_all rfl); (case k2 => (intro _; with_unfolding_all rfl))); intro _ _ _ _ _))
local macro_rules | `(tactic| walk_at "compareOp NotEq str str") => `(tactic| ((with_reducible show wpAny _ _ (compareOp CmpOp.NotEq (Value.str (Mine.reps _ _) _) _) _ _ _); refine Mine.dots_ne ?_))
theorem cut_ok {w : World} {mean : ExcName → Option Value} {mg mb : Str → Option Value} {c : Int} {t : Tok} (h0 : 0 ≤ c) (h1 : c ≤ 10) :
    Fn 4 w mean mg mb 119 [.int c t] (fun _ => True) (fun _ _ v => ∃ t', v = .int (c / 3) t') := by
  unfold Fn
  k_fill
  intro dp un gd cn cs a ccd cl outer A₀ base h₀ L m s Q E B F X T hk hd hu hpre hret
  k_dflt cell_enter
  k_steps
  case hJ =>
    rename _ = Data.cell (some _) => hd9
    rw [mul_dots h0] at hd9
    unfold Hold
    refine' cutJ_of (n := c.toNat) (n₀ := c.toNat) (f := 0) ?p1 ?p2 rfl hd9 ?p3
    (case p1 => omega)
    (case p2 => with_unfolding_all rfl)
    (case p3 => omega)
  case turn =>
    unfold Hold
    intro n m₁ news₁ h₁ tk₁ F₁ N₁ hJ
    obtain ⟨hn, f, t, b, o, t2, rfl, rfl, hd, hf⟩ := hJ
    have hc : n = 0 ∨ n = 1 ∨ n = 2 ∨ ∃ m, m < 8 ∧ n = m + 3 := by
      by_cases h3 : n < 3
      · omega
      · exact .inr (.inr (.inr ⟨n - 3, by omega, by omega⟩))
    obtain ⟨e0, e1, e2, _⟩ := dots_is
    clear hret
    rcases hc with rfl | rfl | rfl | ⟨m, hm8, rfl⟩
    · rw [e0] at hd
      k_steps
      exact ⟨_, _, rfl, Fr.keep (by assumption), int_is (by omega)⟩
    · rw [e1] at hd
      k_steps
      refine' cut_next (n' := 0) ?a1 ?a2 ?a3 (by decide) (by decide) ?a4 e0 ?a5 ?a6
      (case a1 => k_asm)
      (case a2 => k_asm)
      (case a3 => k_mem)
      (case a4 => with_unfolding_all rfl)
      (case a5 => assumption)
      (case a6 => omega)
    · rw [e2] at hd
      k_steps
      refine' cut_next (n' := 1) ?a1 ?a2 ?a3 (by decide) (by decide) ?a4 e1 ?a5 ?a6
      (case a1 => k_asm)
      (case a2 => k_asm)
      (case a3 => k_mem)
      (case a4 => with_unfolding_all rfl)
      (case a5 => assumption)
      (case a6 => omega)
    · k_steps
      refine' cut_next (n' := m) ?a1 ?a2 ?a3 (by omega) (by omega) ?a4 rfl ?a5 ?a6
      (case a1 => k_asm)
      (case a2 => k_asm)
      (case a3 => k_mem)
      (case a4 => with_unfolding_all rfl)
      (case a5 => assumption)
      (case a6 => omega)
end
end Mine
end
section
open PySem PySem.W PySem.Calls PyProof.Rows
set_option maxRecDepth 100000
namespace Mine
/-- the reply: 257, a blank, a quotation mark, k marks, one sign, and the rest -/
def reply (k c : Nat) : Str := ⟨([50, 53, 55, 32, 34] ++ (List.replicate k 34 ++ [c, 34, 32, 105, 115, 32, 105, 116])).toArray⟩
structure RdX (k c : Nat) (x : Str) : Prop where
  is : x = reply k c
  le : k ≤ 10
  ne : c ≠ 34
theorem reply_len (k c : Nat) : (reply k c).length = 13 + k := by
  show (List.toArray _).size = _
  simp; omega
theorem reply_at (k c i : Nat) : (reply k c).cps[5 + i]? = (List.replicate k 34 ++ [c, 34, 32, 105, 115, 32, 105, 116])[i]? := by
  show (List.toArray _)[5 + i]? = _
  rw [List.getElem?_toArray, List.getElem?_append_right (by simp)]
  congr 1
  simp
theorem reply_mark {k c i : Nat} (h : i < k) : (reply k c).cps[5 + i]? = some 34 := by
  rw [reply_at, List.getElem?_append_left (by simpa using h), List.getElem?_replicate, if_pos h]
theorem reply_tail (k c i : Nat) : (reply k c).cps[5 + (k + i)]? = [c, 34, 32, 105, 115, 32, 105, 116][i]? := by
  rw [reply_at, List.getElem?_append_right (by simp)]
  congr 1
  simp
theorem str_beq (a b : Str) : (a == b) = decide (a = b) := rfl
theorem item_quote {x : Str} {i : Int} {n : Nat} (h0 : 0 ≤ i) (hn : x.cps[i.toNat]? = some n) : (Txt.item x i == Str.ofString "\"") = decide (n = 34) := by
  rw [item_meets h0 hn, quote_is, str_beq]
  by_cases h : n = 34
  · subst h; rfl
  · rw [decide_eq_false h]
    refine decide_eq_false fun e => h ?_
    have := congrArg Str.cps e
    simpa using this
/-- where the reading stands -/
def rdSt (k c : Nat) (i : Int) (d : Str) : Prop :=
  (∃ j : Nat, i = 5 + 2 * (j : Int) ∧ 2 * j ≤ k ∧ d = reps 34 j) ∨ (i = 6 + (k : Int) ∧ k % 2 = 0 ∧ d = reps 34 (k / 2) ++ ⟨#[c]⟩)
def rdEnd (k c : Nat) : Str := if k % 2 = 0 then reps 34 (k / 2) ++ ⟨#[c]⟩ else reps 34 (k / 2)
theorem reps_snoc (c n : Nat) : reps c n ++ ⟨#[c]⟩ = reps c (n + 1) := by
  show (⟨(List.replicate n c).toArray ++ #[c]⟩ : Str) = ⟨(List.replicate (n + 1) c).toArray⟩
  congr 1
  rw [List.replicate_succ']
  apply Array.toList_inj.mp
  simp
section
variable {k c : Nat} {x d : Str} {i : Int}
theorem rd_len (X : RdX k c x) : x.length = 13 + k := by rw [X.is, reply_len]
theorem rd_lo (h : rdSt k c i d) : 0 ≤ i := by rcases h with ⟨j, rfl, _⟩ | ⟨rfl, _⟩ <;> omega
theorem rd_hi (X : RdX k c x) (h : rdSt k c i d) : i + 1 < (x.length : Int) := by
  rw [rd_len X]
  rcases h with ⟨j, rfl, _⟩ | ⟨rfl, _⟩ <;> omega
theorem reps_len (c n : Nat) : (reps c n).length = n := by
  show (List.toArray _).size = _
  simp
theorem rd_dl (X : RdX k c x) (h : rdSt k c i d) : d.length ≤ 20 := by
  have := X.le
  rcases h with ⟨j, _, hj, rfl⟩ | ⟨_, _, rfl⟩
  · rw [reps_len]; omega
  · rw [Str.length_append, reps_len]
    show k / 2 + 1 ≤ 20
    omega
theorem mark_at (X : RdX k c x) {j : Nat} (h : j < k) : (Txt.item x (5 + (j : Int)) == Str.ofString "\"") = true := by
  rw [item_quote (n := 34) (by omega) (by rw [show (5 + (j : Int)).toNat = 5 + j by omega, X.is]; exact reply_mark h)]
  rfl
theorem sign_at (X : RdX k c x) : Txt.item x (5 + (k : Int)) = ⟨#[c]⟩ := item_meets (by omega) (by rw [show (5 + (k : Int)).toNat = 5 + (k + 0) by omega, X.is, reply_tail]; rfl)
theorem sign_ne (X : RdX k c x) : (Txt.item x (5 + (k : Int)) == Str.ofString "\"") = false := by
  rw [item_quote (n := c) (by omega) (by rw [show (5 + (k : Int)).toNat = 5 + (k + 0) by omega, X.is, reply_tail]; rfl)]
  exact decide_eq_false X.ne
theorem last_at (X : RdX k c x) : (Txt.item x (6 + (k : Int)) == Str.ofString "\"") = true := by
  rw [item_quote (n := 34) (by omega) (by rw [show (6 + (k : Int)).toNat = 5 + (k + 1) by omega, X.is, reply_tail]; rfl)]
  rfl
theorem blank_at (X : RdX k c x) : (Txt.item x (6 + (k : Int) + 1) == Str.ofString "\"") = false := by
  rw [item_quote (n := 32) (by omega) (by rw [show (6 + (k : Int) + 1).toNat = 5 + (k + 2) by omega, X.is, reply_tail]; rfl)]
  rfl
theorem bne_not {a b : Str} : (a != b) = !(a == b) := rfl
theorem rd_next (X : RdX k c x) (h : rdSt k c i d) (h1 : (Txt.item x i == Str.ofString "\"") = true) (h2 : (Txt.item x (i + 1) != Str.ofString "\"") = false) : rdSt k c (i + 1 + 1) (d ++ Txt.item x i) := by
  rw [bne_not] at h2
  have h2' : (Txt.item x (i + 1) == Str.ofString "\"") = true := by simpa using h2
  rcases h with ⟨j, rfl, hj, rfl⟩ | ⟨rfl, hk, rfl⟩
  · have a : 2 * j ≠ k := fun e => by
      have := sign_ne X
      rw [show (5 + (k : Int)) = 5 + 2 * (j : Int) by omega, h1] at this
      cases this
    have b : 2 * j + 1 ≠ k := fun e => by
      have := sign_ne X
      rw [show (5 + (k : Int)) = 5 + 2 * (j : Int) + 1 by omega, h2'] at this
      cases this
    refine .inl ⟨j + 1, by omega, by omega, ?_⟩
    rw [← reps_snoc]
    congr 1
    refine item_meets (by omega) ?_
    rw [show (5 + 2 * (j : Int)).toNat = 5 + 2 * j by omega, X.is]
    exact reply_mark (by omega)
  · rw [blank_at X] at h2'
    cases h2'
theorem rd_other (X : RdX k c x) (h : rdSt k c i d) (h1 : (Txt.item x i == Str.ofString "\"") = false) : rdSt k c (i + 1) (d ++ Txt.item x i) := by
  rcases h with ⟨j, rfl, hj, rfl⟩ | ⟨rfl, hk, rfl⟩
  · have a : ¬ 2 * j < k := fun e => by
      have := mark_at X e
      rw [show (5 + ((2 * j : Nat) : Int)) = 5 + 2 * (j : Int) by omega, h1] at this
      cases this
    refine .inr ⟨by omega, by omega, ?_⟩
    have e : (5 + 2 * (j : Int)) = 5 + (k : Int) := by omega
    rw [e, sign_at X, show k / 2 = j by omega]
  · rw [last_at X] at h1
    cases h1
theorem rd_stop (X : RdX k c x) (h : rdSt k c i d) (h1 : (Txt.item x i == Str.ofString "\"") = true) (h2 : (Txt.item x (i + 1) != Str.ofString "\"") = true) : d = rdEnd k c := by
  rw [bne_not] at h2
  have h2' : (Txt.item x (i + 1) == Str.ofString "\"") = false := by simpa using h2
  unfold rdEnd
  rcases h with ⟨j, rfl, hj, rfl⟩ | ⟨rfl, hk, rfl⟩
  · have a : 2 * j ≠ k := fun e => by
      have := sign_ne X
      rw [show (5 + (k : Int)) = 5 + 2 * (j : Int) by omega, h1] at this
      cases this
    have b : ¬ 2 * j + 1 < k := fun e => by
      have := mark_at X e
      rw [show (5 + ((2 * j + 1 : Nat) : Int)) = 5 + 2 * (j : Int) + 1 by omega, h2'] at this
      cases this
    rw [if_neg (by omega), show k / 2 = j by omega]
  · rw [if_pos hk]
end
theorem reply_list (k c : Nat) : (reply k c).cps.toList = 50 :: 53 :: 55 :: 32 :: 34 :: (List.replicate k 34 ++ [c, 34, 32, 105, 115, 32, 105, 116]) := by
  unfold reply
  simp
theorem reply_s1 (k c : Nat) : Txt.slice (reply k c) none (some 3) = Str.ofString "257" := by
  have h := slice_closes_to (x := reply k c) (j := 3) ⟨by omega, by rw [reply_list]; simp only [List.length_cons]; omega⟩
  rw [str_beq] at h
  rw [of_decide_eq_true h, reply_list, show Str.ofString "257" = ⟨#[50, 53, 55]⟩ from by decide +kernel]
  rfl
theorem reply_s2 (k c : Nat) : Txt.slice (reply k c) (some 3) (some 5) = Str.ofString " \"" := by
  have h := slice_closes (x := reply k c) (i := 3) (j := 5) ⟨by omega, by omega, by rw [reply_list]; simp only [List.length_cons]; omega⟩
  rw [str_beq] at h
  rw [of_decide_eq_true h, reply_list, show Str.ofString " \"" = ⟨#[32, 34]⟩ from by decide +kernel]
  rfl
theorem str_append {a b : List Nat} : (⟨a.toArray⟩ : Str) ++ ⟨b.toArray⟩ = ⟨(a ++ b).toArray⟩ := by
  show (⟨a.toArray ++ b.toArray⟩ : Str) = _
  congr 1
  simp
theorem reply_is {c : Int} {s : Nat} (h0 : 0 ≤ c) : Str.ofString "257 \"" ++ Txt.mul (Str.ofString "\"") c ++ ⟨#[s]⟩ ++ Str.ofString "\" is it" = reply c.toNat s := by
  rw [mul_quotes h0, show Str.ofString "257 \"" = ⟨[50, 53, 55, 32, 34].toArray⟩ from by decide +kernel, show Str.ofString "\" is it" = ⟨[34, 32, 105, 115, 32, 105, 116].toArray⟩ from by decide +kernel]
  unfold reps reply
  rw [show (⟨#[s]⟩ : Str) = ⟨[s].toArray⟩ from rfl, str_append, str_append, str_append]
  simp
theorem cnt_reps (c n : Nat) : cnt c (List.replicate n c) = n := by
  induction n with
  | zero => rfl
  | succ n ih => rw [List.replicate_succ, cnt_cons, ih]; simp; omega
theorem count_end {k s : Nat} (hs : s ≠ 34) : Txt.count (rdEnd k s) (Str.ofString "\"") = ((k / 2 : Nat) : Int) := by
  rw [quote_is, count_cnt]
  unfold rdEnd
  split
  · rw [show (reps 34 (k / 2) ++ ⟨#[s]⟩ : Str).cps.toList = List.replicate (k / 2) 34 ++ [s] from by
      show ((List.replicate (k / 2) 34).toArray ++ #[s]).toList = _
      simp]
    rw [cnt_append, cnt_reps, cnt_cons]
    simp [hs]
    rfl
  · exact cnt_reps 34 (k / 2)
end Mine
end
section
open PySem PySem.W PySem.Calls PyProof.Rows
set_option Elab.async false
set_option maxRecDepth 100000
set_option maxHeartbeats 8000000
set_option pp.deepTerms false
set_option pp.maxSteps 3000
namespace Mine
local macro_rules | `(tactic| ktr_enter) => `(tactic| (refine' enter ?k1 ?k2 ?k3 ?k5 ?kA ?kF ?kK ?k6 ?k7 ?k8 ?k9 ?kB ?kR ?_ ?c2 ?c3 ?c4 ?c5; (case kA => exact rfl); (case kF => exact rfl); (case kK => assumption); (case k1 => k_asm); (case k2 => k_asm); (case k3 => k_asm); (case k5 => k_asm); (case k6 => k_is); (case k7 => k_is); (case k8 => ktr_room); (case k9 => exact BindsTo.of_eq rfl); (case c5 => decide); (case kB => exact locs rfl); (case c2 => exact rfl); (case c3 => exact rfl); (case c4 => exact rfl); (case kR => assumption); k_whole; intro g' L' h' gE' F' N' B' X' T'; (try dsimp only); (try k_fold)))
def RdX.J {k c : Nat} {x : Str} (_ : RdX k c x) (n : Nat) (m : Str → Option Value) (nx : List (Addr × Obj)) : Prop :=
  ∃ i d t1 t2 t3 t4 b, m = ov (Str.ofString "i") (.int i t1) (ov (Str.ofString "dirname") (.str d t2) (ov (Str.ofString "n") (.int (x.length : Nat) t3) (ov (Str.ofString "resp") (.str x t4) b))) ∧ nx = [] ∧ rdSt k c i d ∧ n = ((x.length : Int) - i).toNat
theorem RdX.j_of {k c n : Nat} {x d : Str} {i : Int} {t1 t2 t3 t4 : Tok} {m : Str → Option Value} (X : RdX k c x) (h1 : m (Str.ofString "i") = some (.int i t1)) (h2 : m (Str.ofString "dirname") = some (.str d t2)) (h3 : m (Str.ofString "n") = some (.int (x.length : Nat) t3)) (h4 : m (Str.ofString "resp") = some (.str x t4))
    (hst : rdSt k c i d) (hn : n = ((x.length : Int) - i).toNat) : X.J n m [] :=
  ⟨i, d, t1, t2, t3, t4, m, by rw [ov_eq h4, ov_eq h3, ov_eq h2, ov_eq h1], rfl, hst, hn⟩
local macro_rules | `(tactic| walk_at "compareOp NotEq str str") => `(tactic| (k_here; (rename Txt.slice _ _ _ = Str.ofString _ => hS); rw [hS]))
local macro_rules | `(tactic| walk_at "exec While Compare cons nil") => `(tactic| (k_here; (rename Fr _ _ _ _ => cF); (rename News _ _ _ _ => cN); (rename RdX _ _ _ => cX); k_dflt (refine' Mine.while_hold (Mine.RdX.J cX) cF cN ?hJ ?turn ?hE; (case hE => with_unfolding_all passes_own))))
theorem brk_step {h₀ : Heap} {L : Addr} {s : Shared} {J : Nat → (Str → Option Value) → List (Addr × Obj) → Prop} {Q : Flow → Shared → Prop} {n : Nat} {s₃ : Shared} (h : Q .next s₃) : WhileStep2 h₀ L s J Q n .brk s₃ := h
theorem rd_step {h₀ h' : Heap} {L : Addr} {s : Shared} {Q : Flow → Shared → Prop} {k c : Nat} {x : Str} {n : Nat} {i i' : Int} {d : Str} {t1 t2 t3 t4 : Tok} {m : Str → Option Value} {tk : Nat} (X : RdX k c x) (F : Fr h₀ L h' m) (N : News h₀ L h' [])
    (h1 : m (Str.ofString "i") = some (.int i' t1)) (h2 : m (Str.ofString "dirname") = some (.str d t2)) (h3 : m (Str.ofString "n") = some (.int (x.length : Nat) t3)) (h4 : m (Str.ofString "resp") = some (.str x t4))
    (hst : rdSt k c i' d) (hn : n = ((x.length : Int) - i).toNat) (hlt : i < i') (hi : i < x.length) : WhileStep2 h₀ L s (RdX.J X) Q n .next { s with heap := h', toks := tk } :=
  ⟨h', tk, m, [], _, rfl, F, N, by omega, X.j_of h1 h2 h3 h4 hst rfl⟩
local macro_rules | `(tactic| walk_at "WhileStep2") => `(tactic| (with_reducible refine Mine.brk_step ?_))
theorem parse_ok {w : World} {mean : ExcName → Option Value} {mg mb : Str → Option Value} {x : Str} {t : Tok} {k c : Nat} (rx : RdX k c x)
   (hs1 : Txt.slice x none (some 3) = Str.ofString "257") (hs2 : Txt.slice x (some 3) (some 5) = Str.ofString " \"") :
    Fn 4 w mean mg mb 73 [.str x t] (fun _ => True) (fun _ _ v => ∃ t', v = .str (rdEnd k c) t') := by
  have hl := rd_len rx
  have hl30 : x.length ≤ 30 := by have := rx.le; omega
  unfold Fn
  k_fill
  intro dp un gd cn cs a ccd cl outer A₀ base h₀ L m s Q E B F X T hk hd hu hpre hret
  k_dflt ktr_enter
  clear hret
  k_steps
  case hJ =>
    unfold Hold
    refine' RdX.j_of _ ?p1 ?p2 ?p3 ?p4 (.inl ⟨0, rfl, Nat.zero_le _, rfl⟩) rfl
    (case p1 => with_unfolding_all rfl)
    (case p2 => with_unfolding_all rfl)
    (case p3 => with_unfolding_all rfl)
    (case p4 => with_unfolding_all rfl)
  case turn =>
    unfold Hold
    intro n m₁ news₁ h₁ tk₁ F₁ N₁ hJ
    obtain ⟨i, d, t1, t2, t3, t4, b, rfl, rfl, hst, hn⟩ := hJ
    have rx : RdX k c x := by assumption
    have hi0 := rd_lo hst
    have hi1 := rd_hi rx hst
    have hdl := rd_dl rx hst
    k_steps
    · exact ⟨_, _, rfl, Fr.keep (by assumption), str_is (rd_stop rx hst (by assumption) (by assumption))⟩
    · refine' rd_step (i := i) _ ?F ?N ?h1 ?h2 ?h3 ?h4 (rd_next rx hst (by assumption) (by assumption)) hn ?lt ?hi
      (case F => k_asm)
      (case N => k_asm)
      (case h1 => with_unfolding_all rfl)
      (case h2 => with_unfolding_all rfl)
      (case h3 => with_unfolding_all rfl)
      (case h4 => with_unfolding_all rfl)
      (case lt => omega)
      (case hi => omega)
    · refine' rd_step (i := i) _ ?F ?N ?h1 ?h2 ?h3 ?h4 (rd_other rx hst (by assumption)) hn ?lt ?hi
      (case F => k_asm)
      (case N => k_asm)
      (case h1 => with_unfolding_all rfl)
      (case h2 => with_unfolding_all rfl)
      (case h3 => with_unfolding_all rfl)
      (case h4 => with_unfolding_all rfl)
      (case lt => omega)
      (case hi => omega)
end Mine
end
section
open PySem PySem.W PySem.Calls PyProof.Rows
set_option Elab.async false
set_option maxRecDepth 100000
set_option maxHeartbeats 8000000
set_option pp.deepTerms false
set_option pp.maxSteps 3000
namespace Mine
section
local macro_rules | `(tactic| ktr_enter) => `(tactic| (refine' enter ?k1 ?k2 ?k3 ?k5 ?kA ?kF ?kK ?k6 ?k7 ?k8 ?k9 ?kB ?kR ?_ ?c2 ?c3 ?c4 ?c5; (case kA => exact rfl); (case kF => exact rfl); (case kK => assumption); (case k1 => k_asm); (case k2 => k_asm); (case k3 => k_asm); (case k5 => k_asm); (case k6 => k_is); (case k7 => k_is); (case k8 => ktr_room); (case k9 => exact BindsTo.of_eq rfl); (case c5 => decide); (case kB => exact locs rfl); (case c2 => exact rfl); (case c3 => exact rfl); (case c4 => exact rfl); (case kR => assumption); k_whole; intro g' L' h' gE' F' N' B' X' T'; (try dsimp only); (try k_fold)))
local macro_rules | `(tactic| ktr_rel) => `(tactic| ((case u1 => first | k_asm | fail "use: below"); (case u2 => first | k_asm | fail "use: frame"); (case u3 => first | k_asm | fail "use: part"); (case u4 => first | k_asm | fail "use: ledger"); (case u5 => first | k_asm | fail "use: top"); (case u6 => first | exact rfl | assumption | fail "use: kind"); (case u7 => first | ktr_room | fail "use: room"); (case u8 => first | ktr_units | fail "use: units")))
theorem parse_cat {w : World} {mean : ExcName → Option Value} {mg mb : Str → Option Value} {c : Int} {sn : Nat} {t : Tok} (h0 : 0 ≤ c) (h1 : c ≤ 10) (hs : sn ≠ 34) :
    Fn 4 w mean mg mb 73 [.str (Str.ofString "257 \"" ++ Txt.mul (Str.ofString "\"") c ++ ⟨#[sn]⟩ ++ Str.ofString "\" is it") t] (fun _ => True) (fun _ _ v => ∃ t', v = .str (rdEnd c.toNat sn) t') := by
  rw [reply_is h0]
  exact parse_ok ⟨rfl, by omega, hs⟩ (reply_s1 _ _) (reply_s2 _ _)
local macro_rules | `(tactic| walk_at "call ref") => `(tactic| (k_here; (with_reducible show wpAny _ _ (call (Value.ref 73) _) _ _ _); k_dflt (refine' Fn.use (parse_cat ?p1 ?p2 ?p3) ?u1 ?u2 ?u3 ?u4 ?u5 ?u6 ?u7 ?u8 trivial ?_; (case p1 => assumption); (case p2 => assumption); (case p3 => assumption); ktr_rel); intro v9 h9 tk9 st9 F9 N9 hp9; (obtain ⟨t9, e9⟩ := hp9; subst e9); (try dsimp only); (try k_sweep); (try k_fold)))
theorem read_ok {w : World} {mean : ExcName → Option Value} {mg mb : Str → Option Value} {c : Int} {sn : Nat} {t t2 : Tok} (h0 : 0 ≤ c) (h1 : c ≤ 10) (hs : sn ≠ 34) :
    Fn 8 w mean mg mb 114 [.int c t, .str ⟨#[sn]⟩ t2] (fun _ => True) (fun _ _ v => ∃ t', v = .int (c / 2) t') := by
  unfold Fn
  k_fill
  intro dp un gd cn cs a ccd cl outer A₀ base h₀ L m s Q E B F X T hk hd hu hpre hret
  k_dflt ktr_enter
  clear hret
  k_steps
  refine ⟨_, _, rfl, Fr.keep (by assumption), int_is ?_⟩
  rw [count_end hs]
  omega
end
end Mine
end
section
open PySem PySem.W PySem.Calls PyProof.Rows
set_option maxRecDepth 100000
namespace Mine
theorem plainAttrs_pat : PlainAttrs "re.Pattern" :=
  ⟨⟨"object.__getattribute__", by rw [typeLookup_type, builtinLookup_eq_fast]; kernel_rfl, by decide +kernel⟩, by rw [typeLookup_type, builtinLookup_eq_fast]; kernel_rfl⟩
theorem slot_pat_sub : Slot "re.Pattern" "sub" "re.Pattern.sub" :=
  .of (owner := "re.Pattern") (n := "sub") (by rw [typeLookup_type, builtinLookup_eq_fast]; kernel_rfl) (by decide +kernel) (by decide +kernel) (by decide +kernel)
    (by first | exact .inl (by decide +kernel) | exact .inr (by decide +kernel)) (by rw [isSubtype_type]; kernel_rfl)
theorem type_pat_sub : typeOf (.builtin "re.Pattern.sub") = pure (.type "method_descriptor") := by show builtinType _ = _; rw [builtinType_eq_fast]; kernel_rfl
theorem entry_pat_sub : entryFor table "re.Pattern.sub" = some Builtin.«re.Pattern.sub» := entryFor_of_tree (by kernel_rfl)
theorem entry_sub_loop : entryFor table "re.Pattern.sub.loop" = some Builtin.«re.Pattern.sub.loop» := entryFor_of_tree (by kernel_rfl)
theorem args_pat_sub (a b c : Value) : argsOk "re.Pattern.sub" ⟨[a, b, c], []⟩ := by unfold argsOk; kernel_rfl
end Mine
end
section
open PySem PySem.Sre
set_option maxRecDepth 100000
set_option linter.unusedSimpArgs false
namespace Mine
inductive Finds : Nat → M → Option (Nat × Nat) → Prop
  | hit {n : Nat} {m : M} {q e : Nat} : m.outcome = some .matched → m.start = q → m.handed = e → Finds n m (some (q, e))
  | miss {n : Nat} {m : M} : m.outcome = some .failed → Finds n m none
  | step {n : Nat} {m : M} {r : Option (Nat × Nat)} : m.outcome = none → Finds n m.step r → Finds (n + 1) m r
theorem Finds.more {n k : Nat} {m : M} {r : Option (Nat × Nat)} (h : Finds n m r) (hk : n ≤ k) : Finds k m r := by
  induction h generalizing k with
  | hit a b c => exact .hit a b c
  | miss a => exact .miss a
  | step e _ ih =>
    obtain ⟨j, rfl⟩ : ∃ j, k = j + 1 := ⟨k - 1, by omega⟩
    exact .step e (ih (by omega))
theorem runFor_some {m : M} (e : m.outcome.isSome = true) : ∀ k, M.runFor k m = m
  | 0 => rfl
  | k + 1 => by unfold M.runFor; rw [if_pos e]
theorem Finds.run {n : Nat} {m : M} {r : Option (Nat × Nat)} (h : Finds n m r) : ∀ k, Finds n (M.runFor k m) r
  | 0 => h
  | k + 1 => by
    cases h with
    | hit a b c => rw [runFor_some (by rw [a]; rfl)]; exact .hit a b c
    | miss a => rw [runFor_some (by rw [a]; rfl)]; exact .miss a
    | step e h' =>
      unfold M.runFor
      rw [if_neg (by rw [e]; exact Bool.false_ne_true)]
      exact (h'.run k).more (by omega)
theorem Finds.run_lt {n : Nat} {m : M} {r : Option (Nat × Nat)} (h : Finds n m r) {k : Nat} (e : (M.runFor (k + 1) m).outcome.isSome = false) : ∃ j, n = j + 1 ∧ Finds j (M.runFor (k + 1) m) r := by
  cases h with
  | hit a b c => rw [runFor_some (by rw [a]; rfl), a] at e; cases e
  | miss a => rw [runFor_some (by rw [a]; rfl), a] at e; cases e
  | step e' h' =>
    refine ⟨_, rfl, ?_⟩
    unfold M.runFor
    rw [if_neg (by rw [e']; exact Bool.false_ne_true)]
    exact h'.run k
abbrev code1 : Array Nat := #[14, 4, 0, 1, 1, 6, 1, 16, 46, 1]
abbrev code2 : Array Nat := #[14, 9, 4, 1, 2, 16, 10, 16, 13, 0, 7, 7, 16, 13, 16, 10, 15, 18, 5, 16, 10, 15, 13, 11, 16, 13, 5, 5, 0, 16, 10, 1, 15, 2, 0, 1]
/-- an attempt of the first pattern at place q -/
def at1 (text : Array Nat) (lim q : Nat) (first : Bool) (seen : Seen) : M :=
  { code := code1, text, lim, start := q, lastStart := lim, pc := 5, pos := q, handed := q, outermost := first, marks := #[], frames := [{ wait := .nextStart, pc := 5, pos := q, outermost := first }], weight := 1, seen }
theorem at1_hit {text : Array Nat} {lim q : Nat} {first : Bool} {seen : Seen} (hq : q < lim) (hb : q = 0 ∨ text[q - 1]?.getD 0 = 10) (hc : text[q]?.getD 0 = 46) : Finds 5 (at1 text lim q first seen) (some (q, q + 1)) := by
  have hq' : ¬ lim ≤ q := Nat.not_le.mpr hq
  refine .step rfl ?_
  simp [at1, M.step, M.exec, M.word, M.isAt, ops, code1, hb]
  refine .step rfl ?_
  simp [M.step, M.exec, M.word, ops, accepts, itemWidth, hq', hc]
  refine .step rfl ?_
  simp [M.step, M.exec, M.word, ops, M.say]
  refine .step rfl ?_
  simp [M.step, M.resume, M.putBack, M.say]
  refine .step rfl ?_
  simp [M.step]
  exact .hit rfl rfl rfl
theorem at1_miss {text : Array Nat} {lim q n : Nat} {first : Bool} {seen : Seen} {r : Option (Nat × Nat)} (hq : q < lim) (hb : ¬ ((q = 0 ∨ text[q - 1]?.getD 0 = 10) ∧ text[q]?.getD 0 = 46)) (h : ∀ seen', Finds n (at1 text lim (q + 1) false seen') r) : Finds (n + 3) (at1 text lim q first seen) r := by
  have hq' : ¬ lim ≤ q := Nat.not_le.mpr hq
  by_cases hb1 : q = 0 ∨ text[q - 1]?.getD 0 = 10
  · have hc : (text[q]?.getD 0 == 46) = false := by
      have hc0 : ¬ text[q]?.getD 0 = 46 := fun e => hb ⟨hb1, e⟩
      simpa using hc0
    refine .step rfl ?_
    simp [at1, M.step, M.exec, M.word, M.isAt, ops, code1, hb1]
    refine .step rfl ?_
    simp [M.step, M.exec, M.word, ops, accepts, itemWidth, M.say, hq']
    rw [hc]
    refine .step rfl ?_
    simp [M.step, M.resume, M.putBack, M.say, M.attemptFrom, M.hasFirstSet, M.attemptAt, M.attempt, ops, hq]
    exact h _
  · refine .more ?_ (show n + 2 ≤ n + 3 by omega)
    refine .step rfl ?_
    simp [at1, M.step, M.exec, M.word, M.isAt, ops, code1, M.say, hb1]
    refine .step rfl ?_
    simp [M.step, M.resume, M.putBack, M.say, M.attemptFrom, M.hasFirstSet, M.attemptAt, M.attempt, ops, hq]
    exact h _
theorem at1_end {text : Array Nat} {lim : Nat} {first : Bool} {seen : Seen} : Finds 4 (at1 text lim lim first seen) none := by
  by_cases hb1 : lim = 0 ∨ text[lim - 1]?.getD 0 = 10
  · refine .step rfl ?_
    simp [at1, M.step, M.exec, M.word, M.isAt, ops, code1, hb1]
    refine .step rfl ?_
    simp [M.step, M.exec, M.word, ops, accepts, itemWidth, M.say]
    refine .step rfl ?_
    simp [M.step, M.resume, M.putBack, M.say]
    refine .step rfl ?_
    simp [M.step]
    exact .miss rfl
  · refine .step rfl ?_
    simp [at1, M.step, M.exec, M.word, M.isAt, ops, code1, M.say, hb1]
    refine .step rfl ?_
    simp [M.step, M.resume, M.putBack, M.say]
    refine .step rfl ?_
    simp [M.step]
    exact .miss rfl
/-- the first pattern from place p on: the first dot at a line's start -/
theorem at1_search {text : Array Nat} {lim q : Nat} (hq : q < lim) (hb : q = 0 ∨ text[q - 1]?.getD 0 = 10) (hc : text[q]?.getD 0 = 46) :
    ∀ (k p : Nat) (first : Bool) (seen : Seen), p + k = q → (∀ i, p ≤ i → i < q → ¬ ((i = 0 ∨ text[i - 1]?.getD 0 = 10) ∧ text[i]?.getD 0 = 46)) → Finds (5 + 3 * k) (at1 text lim p first seen) (some (q, q + 1))
  | 0, p, first, seen, e, _ => by
    have e' : p = q := e
    subst e'
    exact at1_hit hq hb hc
  | k + 1, p, first, seen, e, h => by
    refine at1_miss (n := 5 + 3 * k) (by omega) (h p (Nat.le_refl _) (by omega)) fun seen' => ?_
    exact at1_search hq hb hc k (p + 1) false seen' (by omega) fun i h1 h2 => h i (by omega) h2
theorem at1_none {text : Array Nat} {lim : Nat} :
    ∀ (k p : Nat) (first : Bool) (seen : Seen), p + k = lim → (∀ i, p ≤ i → i < lim → ¬ ((i = 0 ∨ text[i - 1]?.getD 0 = 10) ∧ text[i]?.getD 0 = 46)) → Finds (4 + 3 * k) (at1 text lim p first seen) none
  | 0, p, first, seen, e, _ => by
    have e' : p = lim := e
    subst e'
    exact at1_end
  | k + 1, p, first, seen, e, h => by
    refine at1_miss (n := 4 + 3 * k) (by omega) (h p (Nat.le_refl _) (by omega)) fun seen' => ?_
    exact at1_none k (p + 1) false seen' (by omega) fun i h1 h2 => h i (by omega) h2
theorem search1_is (text : Array Nat) (p lim : Nat) : forSearch code1 text 0 p lim false = if (decide (p > lim) || decide (lim - p < 1)) = true then ({ code := code1, text, lim, start := p, pc := 5, pos := p, handed := p, marks := #[], seen := Seen.add {} 14, answer := some false } : M) else at1 text lim p true (Seen.add {} 14) := rfl
theorem search1_hit {text : Array Nat} {lim p q : Nat} (hpq : p ≤ q) (hq : q < lim) (hb : q = 0 ∨ text[q - 1]?.getD 0 = 10) (hc : text[q]?.getD 0 = 46) (h : ∀ i, p ≤ i → i < q → ¬ ((i = 0 ∨ text[i - 1]?.getD 0 = 10) ∧ text[i]?.getD 0 = 46)) :
    Finds (5 + 3 * lim) (forSearch code1 text 0 p lim false) (some (q, q + 1)) := by
  rw [search1_is, if_neg (by simp; omega)]
  exact (at1_search hq hb hc (q - p) p true _ (by omega) h).more (by omega)
theorem search1_none {text : Array Nat} {lim p : Nat} (hp : p ≤ lim) (h : ∀ i, p ≤ i → i < lim → ¬ ((i = 0 ∨ text[i - 1]?.getD 0 = 10) ∧ text[i]?.getD 0 = 46)) :
    Finds (5 + 3 * lim) (forSearch code1 text 0 p lim false) none := by
  rw [search1_is]
  split
  · refine .more ?_ (show 1 ≤ 5 + 3 * lim by omega)
    refine .step rfl ?_
    exact .miss rfl
  · exact (at1_none (lim - p) p true _ (by omega) h).more (by omega)
end Mine
end
section
open PySem PySem.Sre
set_option maxRecDepth 100000
set_option linter.unusedSimpArgs false
namespace Mine
def at2 (text : Array Nat) (lim q : Nat) (first : Bool) (seen : Seen) : M :=
  { code := code2, text, lim, start := q, lastStart := lim, pc := 10, pos := q, handed := q, outermost := first, marks := #[], frames := [{ wait := .nextStart, pc := 10, pos := q, outermost := first }], weight := 1, seen }
theorem at2_crlf {text : Array Nat} {lim q : Nat} {first : Bool} {seen : Seen} (hq : q + 1 < lim) (h1 : text[q]?.getD 0 = 13) (h2 : text[q + 1]?.getD 0 = 10) : Finds 8 (at2 text lim q first seen) (some (q, q + 2)) := by
  have hq' : ¬ lim ≤ q := by omega
  have hq2 : ¬ lim ≤ q + 1 := by omega
  refine .step rfl ?_
  simp [at2, M.step, M.exec, M.word, ops, code2, M.alternative, M.attempt, M.keep, M.frame]
  refine .step rfl ?_
  simp [M.step, M.exec, M.word, ops, accepts, itemWidth, hq', h1]
  refine .step rfl ?_
  simp [M.step, M.exec, M.word, ops, accepts, itemWidth, hq2, h2]
  refine .step rfl ?_
  simp [M.step, M.exec, M.word, ops]
  refine .step rfl ?_
  simp [M.step, M.exec, M.word, ops, M.say]
  refine .step rfl ?_
  simp [M.step, M.resume, M.putBack, M.say]
  refine .step rfl ?_
  simp [M.step, M.resume, M.putBack, M.say]
  refine .step rfl ?_
  simp [M.step]
  exact .hit rfl rfl rfl
theorem at2_lf {text : Array Nat} {lim q : Nat} {first : Bool} {seen : Seen} (hq : q < lim) (h1 : text[q]?.getD 0 = 10) : Finds 12 (at2 text lim q first seen) (some (q, q + 1)) := by
  have hq' : ¬ lim ≤ q := by omega
  have h13 : (10 == 13) = false := rfl
  refine .step rfl ?_
  simp [at2, M.step, M.exec, M.word, ops, code2, M.alternative, M.attempt, M.keep, M.frame]
  refine .step rfl ?_
  simp [M.step, M.exec, M.word, ops, accepts, itemWidth, hq', h1, M.say]
  refine .step rfl ?_
  simp [M.step, M.resume, M.putBack, M.say, M.alternative, M.attempt, M.frame]
  refine .step rfl ?_
  simp [M.step, M.exec, M.word, ops, accepts, itemWidth, hq', h1]
  refine .step rfl ?_
  simp [M.step, M.exec, M.word, ops]
  refine .step rfl ?_
  simp [M.step, M.exec, M.word, ops, M.say]
  refine .step rfl ?_
  simp [M.step, M.resume, M.putBack, M.say]
  refine .step rfl ?_
  simp [M.step, M.resume, M.putBack, M.say]
  refine .step rfl ?_
  simp [M.step]
  exact .hit rfl rfl rfl
theorem at2_cr {text : Array Nat} {lim q : Nat} {first : Bool} {seen : Seen} (hq : q < lim) (h1 : text[q]?.getD 0 = 13) (h2 : lim ≤ q + 1 ∨ (q + 1 < lim ∧ text[q + 1]?.getD 0 ≠ 10)) : Finds 20 (at2 text lim q first seen) (some (q, q + 1)) := by
  have hq' : ¬ lim ≤ q := by omega
  refine .step rfl ?_
  simp [at2, M.step, M.exec, M.word, ops, code2, M.alternative, M.attempt, M.keep, M.frame]
  refine .step rfl ?_
  simp [M.step, M.exec, M.word, ops, accepts, itemWidth, hq', h1, M.say]
  rcases h2 with h2 | ⟨h3, h2⟩
  · refine .step rfl ?_
    simp [M.step, M.exec, M.word, ops, accepts, itemWidth, M.say, h2]
    refine .step rfl ?_
    simp [M.step, M.resume, M.putBack, M.say, M.alternative, M.attempt, M.frame]
    refine .step rfl ?_
    simp [M.step, M.exec, M.word, ops, accepts, itemWidth, hq', h1, M.say]
    refine .step rfl ?_
    simp [M.step, M.resume, M.putBack, M.say, M.alternative, M.attempt, M.frame]
    refine .step rfl ?_
    simp [M.step, M.exec, M.word, ops, accepts, itemWidth, hq', h1, M.say]
    refine .step rfl ?_
    simp [M.step, M.exec, M.word, ops, M.attempt, M.frame, M.keep]
    refine .step rfl ?_
    simp [M.step, M.exec, M.word, ops, accepts, itemWidth, M.say, h2]
    refine .step rfl ?_
    simp [M.step, M.resume, M.putBack, M.say]
    refine .step rfl ?_
    simp [M.step, M.exec, M.word, ops]
    refine .step rfl ?_
    simp [M.step, M.exec, M.word, ops, M.say]
    refine .step rfl ?_
    simp [M.step, M.resume, M.putBack, M.say]
    refine .step rfl ?_
    simp [M.step, M.resume, M.putBack, M.say]
    refine .step rfl ?_
    simp [M.step]
    exact .hit rfl rfl rfl
  · have h3' : ¬ lim ≤ q + 1 := by omega
    have h2' : (text[q + 1]?.getD 0 == 10) = false := by simpa using h2
    refine .step rfl ?_
    simp [M.step, M.exec, M.word, ops, accepts, itemWidth, M.say, h3']
    rw [h2']
    refine .step rfl ?_
    simp [M.step, M.resume, M.putBack, M.say, M.alternative, M.attempt, M.frame]
    refine .step rfl ?_
    simp [M.step, M.exec, M.word, ops, accepts, itemWidth, hq', h1, M.say]
    refine .step rfl ?_
    simp [M.step, M.resume, M.putBack, M.say, M.alternative, M.attempt, M.frame]
    refine .step rfl ?_
    simp [M.step, M.exec, M.word, ops, accepts, itemWidth, hq', h1, M.say]
    refine .step rfl ?_
    simp [M.step, M.exec, M.word, ops, M.attempt, M.frame, M.keep]
    refine .step rfl ?_
    simp [M.step, M.exec, M.word, ops, accepts, itemWidth, M.say, h3']
    rw [h2']
    refine .step rfl ?_
    simp [M.step, M.resume, M.putBack, M.say]
    refine .step rfl ?_
    simp [M.step, M.exec, M.word, ops]
    refine .step rfl ?_
    simp [M.step, M.exec, M.word, ops, M.say]
    refine .step rfl ?_
    simp [M.step, M.resume, M.putBack, M.say]
    refine .step rfl ?_
    simp [M.step, M.resume, M.putBack, M.say]
    refine .step rfl ?_
    simp [M.step]
    exact .hit rfl rfl rfl
theorem inSet_yes {c : Nat} {seen : Seen} (h : c = 10 ∨ c = 13) : ∃ seen', inSet code2 c 36 5 true seen = .ok (true, seen') := by
  rcases h with rfl | rfl
  · exact ⟨_, rfl⟩
  · exact ⟨_, rfl⟩
theorem inSet_no {c : Nat} {seen : Seen} (h10 : c ≠ 10) (h13 : c ≠ 13) : ∃ seen', inSet code2 c 36 5 true seen = .ok (false, seen') := by
  have a : (c == 10) = false := by simpa using h10
  have b : (c == 13) = false := by simpa using h13
  simp [inSet, ops, code2, a, b]
theorem admit_hit {m : M} (hc : m.code = code2) {q : Nat} (hq : q < m.lim) (hx : m.text[q]?.getD 0 = 10 ∨ m.text[q]?.getD 0 = 13) :
    ∀ (k fuel p : Nat) (seen : Seen), p + k = q → k < fuel → (∀ i, p ≤ i → i < q → m.text[i]?.getD 0 ≠ 10 ∧ m.text[i]?.getD 0 ≠ 13) → ∃ seen', M.admitted m fuel p seen = .ok (some q, seen')
  | 0, fuel + 1, p, seen, e, _, _ => by
    have e' : p = q := e
    subst e'
    obtain ⟨seen', hs⟩ := inSet_yes (seen := seen) hx
    refine ⟨seen', ?_⟩
    unfold M.admitted
    rw [if_neg (by omega), hc]
    have : m.text.getD p 0 = m.text[p]?.getD 0 := by simp
    rw [this, show code2.size = 36 from rfl, hs]
  | k + 1, fuel + 1, p, seen, e, hf, h => by
    obtain ⟨h10, h13⟩ := h p (Nat.le_refl _) (by omega)
    obtain ⟨seen', hs⟩ := inSet_no (seen := seen) h10 h13
    obtain ⟨seen2, hr⟩ := admit_hit hc hq hx k fuel (p + 1) seen' (by omega) (by omega) fun i a b => h i (by omega) b
    refine ⟨seen2, ?_⟩
    unfold M.admitted
    rw [if_neg (by omega), hc]
    have : m.text.getD p 0 = m.text[p]?.getD 0 := by simp
    rw [this, show code2.size = 36 from rfl, hs]
    exact hr
theorem admit_none {m : M} (hc : m.code = code2) :
    ∀ (fuel p : Nat) (seen : Seen), (∀ i, p ≤ i → i < m.lim → m.text[i]?.getD 0 ≠ 10 ∧ m.text[i]?.getD 0 ≠ 13) → ∃ seen', M.admitted m fuel p seen = .ok (none, seen')
  | 0, p, seen, _ => ⟨seen, rfl⟩
  | fuel + 1, p, seen, h => by
    by_cases hp : p ≥ m.lim
    · refine ⟨seen, ?_⟩
      unfold M.admitted
      rw [if_pos hp]
    · obtain ⟨h10, h13⟩ := h p (Nat.le_refl _) (by omega)
      obtain ⟨seen', hs⟩ := inSet_no (seen := seen) h10 h13
      obtain ⟨seen2, hr⟩ := admit_none hc fuel (p + 1) seen' fun i a b => h i (by omega) b
      refine ⟨seen2, ?_⟩
      unfold M.admitted
      rw [if_neg hp, hc]
      have : m.text.getD p 0 = m.text[p]?.getD 0 := by simp
      rw [this, show code2.size = 36 from rfl, hs]
      exact hr
abbrev m2 (text : Array Nat) (p lim : Nat) : M := { code := code2, text, lim, start := p, lastStart := lim, pc := 10, pos := p, handed := p, marks := #[], seen := Seen.add {} 14 }
theorem search2_is (text : Array Nat) (p lim : Nat) : forSearch code2 text 0 p lim false = if (decide (p > lim) || decide (lim - p < 1)) = true then ({ code := code2, text, lim, start := p, pc := 10, pos := p, handed := p, marks := #[], seen := Seen.add {} 14, answer := some false } : M)
    else (match M.admitted (m2 text p lim) (lim + 1 - p) p (Seen.add {} 14) with
      | .ok (some s, seen) => at2 text lim s true seen
      | .ok (none, seen) => ({ m2 text p lim with seen, answer := some false } : M)
      | .error why => (m2 text p lim).stick why) := rfl
/-- what stands at a line's end -/
def eolAt (text : Array Nat) (lim q e : Nat) : Prop :=
  (text[q]?.getD 0 = 13 ∧ q + 1 < lim ∧ text[q + 1]?.getD 0 = 10 ∧ e = q + 2) ∨ (text[q]?.getD 0 = 10 ∧ e = q + 1) ∨ (text[q]?.getD 0 = 13 ∧ (lim ≤ q + 1 ∨ (q + 1 < lim ∧ text[q + 1]?.getD 0 ≠ 10)) ∧ e = q + 1)
theorem search2_hit {text : Array Nat} {lim p q e : Nat} (hpq : p ≤ q) (hq : q < lim) (he : eolAt text lim q e) (h : ∀ i, p ≤ i → i < q → text[i]?.getD 0 ≠ 10 ∧ text[i]?.getD 0 ≠ 13) :
    Finds 20 (forSearch code2 text 0 p lim false) (some (q, e)) := by
  rw [search2_is, if_neg (by simp; omega)]
  obtain ⟨seen', hs⟩ := admit_hit (m := m2 text p lim) rfl hq (by rcases he with h | h | h <;> simp [h.1]) (q - p) (lim + 1 - p) p (Seen.add {} 14) (by omega) (by omega) h
  rw [hs]
  rcases he with ⟨a, b, c, rfl⟩ | ⟨a, rfl⟩ | ⟨a, b, rfl⟩
  · exact (at2_crlf b a c).more (by omega)
  · exact (at2_lf hq a).more (by omega)
  · exact at2_cr hq a b
theorem search2_none {text : Array Nat} {lim p : Nat} (h : ∀ i, p ≤ i → i < lim → text[i]?.getD 0 ≠ 10 ∧ text[i]?.getD 0 ≠ 13) : Finds 20 (forSearch code2 text 0 p lim false) none := by
  rw [search2_is]
  split
  · exact (Finds.step (n := 0) rfl (.miss rfl)).more (by omega)
  · obtain ⟨seen', hs⟩ := admit_none (m := m2 text p lim) rfl (lim + 1 - p) p (Seen.add {} 14) h
    rw [hs]
    exact (Finds.step (n := 0) rfl (.miss rfl)).more (by omega)
end Mine
end
section
open PySem PySem.W PySem.Calls PyProof.Rows PySem.Builtin PySem.Builtin.Re
set_option maxRecDepth 100000
namespace Mine
def FoundM (r : Option (Nat × Nat)) (m : Sre.M) : Prop := match r with
  | some (q, e) => m.outcome = some .matched ∧ m.start = q ∧ m.handed = e
  | none => m.outcome = some .failed
section
variable {M : Model} {A : Around} {E : Value → Shared → Prop} {s : Shared}
theorem Finds.foundM {n : Nat} {m : Sre.M} {r : Option (Nat × Nat)} (h : Finds n m r) (e : m.outcome.isSome = true) : FoundM r m := by
  cases h with
  | hit a b c => exact ⟨a, b, c⟩
  | miss a => exact a
  | step e' _ => rw [e'] at e; cases e
theorem wp_drive {r : Option (Nat × Nat)} {Q : Sre.M → Shared → Prop} (hQ : ∀ m', FoundM r m' → Q m' s) : ∀ (t n : Nat) (m : Sre.M), Finds n m r → n ≤ t → 1 ≤ t → wpAny M A (reDrive t m) Q E s
  | 0, _, _, _, _, h1 => by omega
  | t + 1, n, m, h, hn, _ => by
    unfold reDrive
    dsimp only [reTurnSteps]
    cases e : (Sre.M.runFor 4 m).outcome.isSome with
    | true =>
      simp only [if_true]
      exact wpAny_pure (hQ _ ((h.run 4).foundM e))
    | false =>
      simp only [Bool.false_eq_true, if_false]
      obtain ⟨j, rfl, hj⟩ := h.run_lt (k := 3) e
      refine wpAny_bind (wpAny_rule ?_)
      by_cases hj0 : j = 0
      · subst hj0
        exfalso
        have : (Sre.M.runFor (3 + 1) m).outcome.isSome = true := by
          cases hj with
          | hit a b c => rw [a]; rfl
          | miss a => rw [a]; rfl
        rw [e] at this; cases this
      · exact wp_drive hQ t j _ hj (by omega) (by omega)
theorem wp_rules {f : Nat → PUnit → Sem (ForInStep PUnit)} (hf : ∀ i (Q : ForInStep PUnit → Shared → Prop), Q (.yield ⟨⟩) s → wpAny M A (f i ⟨⟩) Q E s) {Q : PUnit → Shared → Prop} (h : Q ⟨⟩ s) : ∀ l : List Nat, wpAny M A (forIn l PUnit.unit f) Q E s
  | [] => wpAny_pure h
  | i :: l => by
    rw [List.forIn_cons]
    exact wpAny_bind (hf i _ (wp_rules hf h l))
theorem wp_runToEnd {n : Nat} {m : Sre.M} {r : Option (Nat × Nat)} {Q : Option Sre.M → Shared → Prop} (h : Finds n m r) (hn : n ≤ 2 ^ 64)
    (hQ : ∀ m', FoundM r m' → Q (match r with | some _ => some m' | none => none) s) : wpAny M A (reRunToEnd m) Q E s := by
  unfold reRunToEnd
  refine wpAny_bind (wp_drive (r := r) (fun m' hm => ?_) (2 ^ 64) n m h hn (by decide))
  refine wpAny_bind (wp_rules (fun i Q' hQ' => ?_) ?_ _)
  · split
    · exact wpAny_bind (wpAny_rule (wpAny_pure hQ'))
    · exact wpAny_bind (wpAny_pure (wpAny_pure hQ'))
  · have hq := hQ m' hm
    cases r with
    | none =>
      have e : m'.outcome = some .failed := hm
      rw [e]
      exact wpAny_pure hq
    | some qe =>
      obtain ⟨e, _⟩ := hm
      rw [e]
      exact wpAny_pure hq
end
end Mine
end
section
open PySem PySem.W PySem.Calls PyProof.Rows PySem.Builtin PySem.Builtin.Re
set_option maxRecDepth 100000
namespace Mine
abbrev lstO (vs : Array Value) (n : Nat) : Obj := { cls := .type "list", data := .seq vs n }
/-- the pattern stands at pa, with these words -/
def PatAt (h : Heap) (pa : Addr) (code : Array Nat) : Prop :=
  ∃ po ct co p fl t1 t2 t3 cvs n, h.get? pa = some po ∧ po.data = .fields #[p, .int fl t1, .int 0 t2, .none, .none, .ref ct, .int 0 t3] ∧ h.get? ct = some co ∧ co.data = .seq cvs n ∧ (cvs.map reRawOf).map (·.toNat) = code
theorem PatAt.stays {h h' : Heap} {pa : Addr} {code : Array Nat} (x : PatAt h pa code) {l : Addr} (hl : h.get? l = none) (k : ∀ b o, b ≠ l → h.get? b = some o → h'.get? b = some o) : PatAt h' pa code := by
  obtain ⟨po, ct, co, p, fl, t1, t2, t3, cvs, n, a, b, c, d, e⟩ := x
  refine ⟨po, ct, co, p, fl, t1, t2, t3, cvs, n, k _ _ (fun q => ?_) a, b, k _ _ (fun q => ?_) c, d, e⟩
  · rw [q, hl] at a; cases a
  · rw [q, hl] at c; cases c
abbrev tgt (pa : Addr) (x : Str) (t : Tok) (code : Array Nat) : ReTarget := { pattern := .ref pa, string := .str x t, code, text := x.cps, kind := 0, groups := 0, pos := 0, lim := x.cps.size }
section
variable {prog : Program} {w : World} {A : Around} {E : Value → Shared → Prop} {s : Shared}
theorem wp_target {pa : Addr} {x : Str} {t : Tok} {code : Array Nat} {Q : ReTarget → Shared → Prop} (hp : PatAt s.heap pa code) (h : Q (tgt pa x t code) s) : wpAny (model prog w) A (reWholeTarget (.ref pa) (.str x t)) Q E s := by
  obtain ⟨po, ct, co, p, fl, t1, t2, t3, cvs, n, a, b, c, d, e⟩ := hp
  unfold reWholeTarget
  refine wpAny_bind (wpAny_fieldsOf a b ?_)
  refine wpAny_bind (wpAny_pure ?_)
  refine wpAny_bind (wpAny_pure ?_)
  refine wpAny_bind (wpAny_bind (wpAny_seqItems c d (wpAny_pure ?_)))
  refine wpAny_pure ?_
  show Q { pattern := _, string := _, code := (cvs.map reRawOf).map (·.toNat), text := _, kind := _, groups := _, pos := _, lim := _ } s
  rw [e]
  exact h
/-- the runs of a pattern over a text, from a place on -/
inductive SubRun (text code : Array Nat) : Nat → List (Nat × Nat) → Prop
  | nil {p n : Nat} : n ≤ 2 ^ 64 → Finds n (Sre.forSearch code text 0 p text.size false) none → SubRun text code p []
  | cons {p q e n : Nat} {ms : List (Nat × Nat)} : n ≤ 2 ^ 64 → Finds n (Sre.forSearch code text 0 p text.size false) (some (q, e)) → q < e → SubRun text code e ms → SubRun text code p ((q, e) :: ms)
def cut (text : Array Nat) (a b : Nat) : List Str := if a < b then [⟨text.extract a b⟩] else []
def pieces (text : Array Nat) (repl : Str) : Nat → List (Nat × Nat) → List Str
  | p, [] => cut text p text.size
  | p, (q, e) :: ms => cut text p q ++ repl :: pieces text repl e ms
theorem strsAre_snoc {vs : List Value} {ys : List Str} (h : StrsAre vs ys) (y : Str) (t : Tok) : StrsAre (vs ++ [.str y t]) (ys ++ [y]) := by
  induction h with
  | nil => exact .cons _ _ .nil
  | cons a b _ ih => exact .cons a b ih
theorem wp_push {l : Addr} {vs : List Value} {n : Nat} {v : Value} {Q : Unit → Shared → Prop} (hl : s.heap.get? l = some (lstO vs.toArray n)) (hsz : vs.length ≤ sizeLine)
    (h : ∀ h', (∀ b o, b ≠ l → s.heap.get? b = some o → h'.get? b = some o) → h'.get? l = some (lstO (vs ++ [v]).toArray (n + 1)) → Q () { s with heap := h' }) : wpAny (model prog w) A (updateSeq l (·.push v)) Q E s := by
  refine wpAny_updateSeq hl rfl (h _ (fun b o hb e => (Heap.get?_update_ne _ _ _ _ hb).trans e) ?_) (by simpa using hsz) (by simp; omega)
  rw [Heap.get?_update_self _ hl (by rw [Obj.mapSeq_push_plain]; rfl), Obj.mapSeq_push_plain, List.push_toArray]
theorem extract_len (text : Array Nat) (a b : Nat) : (⟨text.extract a b⟩ : Str).length ≤ text.size := by
  show (text.extract a b).size ≤ text.size
  simp; omega
/-- a piece between two places goes onto the list -/
theorem wp_piece {l : Addr} {vs : List Value} {ys : List Str} {n a b : Nat} {text : Array Nat} {Q : PUnit → Shared → Prop} (hl : s.heap.get? l = some (lstO vs.toArray n)) (hy : StrsAre vs ys) (hsz : vs.length ≤ sizeLine) (ht : text.size ≤ sizeLine)
    (h : ∀ h' tk vs' n', (∀ b o, b ≠ l → s.heap.get? b = some o → h'.get? b = some o) → h'.get? l = some (lstO vs'.toArray n') → StrsAre vs' (ys ++ cut text a b) → vs'.length ≤ vs.length + 1 → Q ⟨⟩ { s with heap := h', toks := tk }) :
    wpAny (model prog w) A (if a < b then (do let v ← reSlice text 0 a b; updateSeq l (·.push v)) else pure ⟨⟩) Q E s := by
  by_cases hab : a < b
  · rw [if_pos hab]
    refine wpAny_bind ?_
    show wpAny _ A (mkStr _) _ _ _
    refine wpAny_mkStr ?_ (Nat.le_trans (extract_len text a b) ht)
    refine wp_push (s := { s with toks := s.toks + 1 }) hl hsz fun h' k e => ?_
    refine h h' (s.toks + 1) _ _ k e ?_ (by simp)
    unfold cut
    rw [if_pos hab]
    exact strsAre_snoc hy _ _
  · rw [if_neg hab]
    refine wpAny_pure (h s.heap s.toks vs n (fun _ _ _ e => e) hl ?_ (by omega))
    unfold cut
    rw [if_neg hab, List.append_nil]
    exact hy
end
end Mine
end
section
open PySem PySem.W PySem.Calls PyProof.Rows PySem.Builtin PySem.Builtin.Re
set_option maxRecDepth 100000
set_option pp.deepTerms false
set_option pp.maxSteps 4000
namespace Mine
theorem strsAre_len {vs : List Value} {ys : List Str} (h : StrsAre vs ys) : vs.length = ys.length := by
  induction h with
  | nil => rfl
  | cons _ _ _ ih => simp [ih]
theorem named_sub (a b : Value) : reNamed "re.Pattern.sub" "sub" ["repl", "string", "count"] 2 [a, b] [] = pure [some a, some b, none] := by rfl
theorem str_no_call : typeLookup (.type "str") (Str.ofString "__call__") = pure none := by rw [typeLookup_type, builtinLookup_eq_fast]; kernel_rfl
theorem typeOf_str (x : Str) (t : Tok) : typeOf (.str x t) = pure (.type "str") := by rfl
theorem pieces_cons (text : Array Nat) (repl : Str) (p q e : Nat) (ms : List (Nat × Nat)) : pieces text repl p ((q, e) :: ms) = cut text p q ++ repl :: pieces text repl e ms := by rw [pieces]
theorem isEmpty_of {vs : List Value} {total : List Str} (y : StrsAre vs total) (hne : total ≠ []) : vs.toArray.isEmpty = false := by
  cases y with
  | nil => exact absurd rfl hne
  | cons _ _ _ => rfl
section
variable {prog : Program} {w : World} {A : Around}
theorem wp_if {M : Model} {A : Around} {E : Value → Shared → Prop} {s : Shared} {α : Type} {c : Bool} {a b : Sem α} {Q : α → Shared → Prop} (hc : c = true) (h : wpAny M A a Q E s) : wpAny M A (if c = true then a else b) Q E s := by
  rw [if_pos hc]; exact h
theorem wp_ifn {M : Model} {A : Around} {E : Value → Shared → Prop} {s : Shared} {α : Type} {c : Bool} {a b : Sem α} {Q : α → Shared → Prop} (hc : c = false) (h : wpAny M A b Q E s) : wpAny M A (if c = true then a else b) Q E s := by
  rw [if_neg (by rw [hc]; exact Bool.false_ne_true)]; exact h
theorem sub_loop {pa l : Addr} {x repl : Str} {t t1 : Tok} {code : Array Nat} {h₀ : Heap} {R : Result → Shared → Prop} {total : List Str} (hx : x.cps.size ≤ 1000) (hp : PatAt h₀ pa code) (hl0 : h₀.get? l = none)
    (hne : total ≠ []) (hw : (total.map (·.length)).sum + total.length ≤ 1048576) :
    ∀ (ms : List (Nat × Nat)) (p : Nat) (ti tj tn td ts : Tok) (k : Int) (s : Shared) (vs : List Value) (ys : List Str) (n : Nat), SubRun x.cps code p ms → h₀.StaysIn s.heap → s.heap.get? l = some (lstO vs.toArray n) → StrsAre vs ys → ys ++ pieces x.cps repl p ms = total →
      (∀ h' tk t', h₀.StaysIn h' → R (.ok (.ret (.str (Txt.join Str.empty total) t'))) { s with heap := h', toks := tk }) →
      codeAny (model prog w) A (.builtin "re.Pattern.sub.loop" ⟨[.ref pa, .str x t, .str repl t1, .int 0 ti, .int 0 tj, .int k tn, .int (p : Int) td, .int (p : Int) ts, .bool false, .ref l, .bool false], []⟩) R s
  | [], p, ti, tj, tn, td, ts, k, s, vs, ys, n, hs, hk, hl, hy, htot, hR => by
    refine codeAny_builtin entry_sub_loop ?_
    unfold Builtin.«re.Pattern.sub.loop»
    dsimp only
    refine wpAny_bind (wp_target (hp.stays hl0 fun b o _ e => hk b o e) ?_)
    refine wp_if rfl ?_
    refine wpAny_bind (wpAny_bind (wpAny_pure (wpAny_pure ?_)))
    refine wpAny_bind (wp_ifn rfl ?_)
    cases hs with
    | nil hn hf =>
      simp only [Int.toNat_natCast]
      refine wp_runToEnd hf hn fun m' hm => ?_
      dsimp only
      have hly := strsAre_len hy
      have hsz : total.length ≤ 1048576 := by omega
      have htl := congrArg List.length htot
      rw [List.length_append] at htl
      have hj : (⟨x.cps.extract 0 0⟩ : Str) = Str.empty := by simp [Str.empty]
      have hszl : ∀ z, x.cps.size ≤ 1000 → z ≤ x.cps.size → z ≤ sizeLine := fun z a b => by rw [sizeLine_eq]; omega
      by_cases hps : p < x.cps.size
      · rw [if_pos hps]
        have ht : ys ++ [⟨x.cps.extract p x.cps.size⟩] = total := by rw [← htot]; unfold pieces cut; rw [if_pos hps]
        refine wpAny_bind ?_
        show wpAny _ _ (mkStr _) _ _ _
        refine wpAny_mkStr ?_ (Nat.le_trans (extract_len x.cps p _) (by rw [sizeLine_eq]; omega))
        refine wpAny_bind (wp_push (s := { s with toks := s.toks + 1 }) hl (by rw [sizeLine_eq]; omega) fun h' k9 l' => ?_)
        have y' : StrsAre _ total := ht ▸ strsAre_snoc hy _ s.toks
        have k' : h₀.StaysIn h' := fun b o e => k9 b o (fun q => by rw [q, hl0] at e; cases e) (hk b o e)
        refine wpAny_bind ?_
        show wpAny _ _ (mkStr _) _ _ _
        refine wpAny_mkStr ?_ (Nat.le_trans (extract_len x.cps 0 0) (by rw [sizeLine_eq]; omega))
        refine wpAny_bind (wpAny_seqItems l' rfl ?_)
        refine wp_ifn (isEmpty_of y' hne) ?_
        rw [hj]
        refine wpAny_bind (join_listW (D := l) (ys := total) ⟨_, l', rfl, _, rfl⟩ (by simpa using y') (by decide) hw fun t' k9 => ?_)
        refine wp_ifn rfl ?_
        exact wpAny_pure (hR _ k9 t' k')
      · rw [if_neg hps]
        have y' : StrsAre vs total := by rw [← htot]; unfold pieces cut; rw [if_neg hps, List.append_nil]; exact hy
        have l' := hl
        have k' := hk
        refine wpAny_bind ?_
        show wpAny _ _ (mkStr _) _ _ _
        refine wpAny_mkStr ?_ (Nat.le_trans (extract_len x.cps 0 0) (by rw [sizeLine_eq]; omega))
        refine wpAny_bind (wpAny_seqItems l' rfl ?_)
        refine wp_ifn (isEmpty_of y' hne) ?_
        rw [hj]
        refine wpAny_bind (join_listW (D := l) (ys := total) ⟨_, l', rfl, _, rfl⟩ (by simpa using y') (by decide) hw fun t' k9 => ?_)
        refine wp_ifn rfl ?_
        exact wpAny_pure (hR _ k9 t' k')
  | (q, e) :: ms, p, ti, tj, tn, td, ts, k, s, vs, ys, n, hs, hk, hl, hy, htot, hR => by
    refine codeAny_builtin entry_sub_loop ?_
    unfold Builtin.«re.Pattern.sub.loop»
    dsimp only
    refine wpAny_bind (wp_target (hp.stays hl0 fun b o _ e => hk b o e) ?_)
    refine wp_if rfl ?_
    refine wpAny_bind (wpAny_bind (wpAny_pure (wpAny_pure ?_)))
    refine wpAny_bind (wp_ifn rfl ?_)
    cases hs with
    | cons hn hf hqe hs' =>
      simp only [Int.toNat_natCast]
      refine wp_runToEnd hf hn fun m' hm => ?_
      obtain ⟨_, hms, hme⟩ := hm
      dsimp only
      rw [hms, hme]
      have hly := strsAre_len hy
      have hsz : total.length ≤ 1048576 := by omega
      have htl := congrArg List.length htot
      rw [List.length_append] at htl
      have hbe : (e == q) = false := by simp; omega
      rw [hbe]
      by_cases hpq : p < q
      · rw [if_pos hpq]
        refine wpAny_bind ?_
        show wpAny _ _ (mkStr _) _ _ _
        refine wpAny_mkStr ?_ (Nat.le_trans (extract_len x.cps p _) (by rw [sizeLine_eq]; omega))
        refine wpAny_bind (wp_push (s := { s with toks := s.toks + 1 }) hl (by rw [sizeLine_eq]; omega) fun h1 k9 l1 => ?_)
        have k1 : h₀.StaysIn h1 := fun b o e => k9 b o (fun q => by rw [q, hl0] at e; cases e) (hk b o e)
        have y1 := strsAre_snoc hy ⟨x.cps.extract p q⟩ s.toks
        have hs1 : (vs ++ [Value.str ⟨x.cps.extract p q⟩ s.toks]).length ≤ sizeLine := by
          rw [sizeLine_eq, List.length_append, List.length_singleton]; omega
        have hcut : cut x.cps p q = [⟨x.cps.extract p q⟩] := by unfold cut; rw [if_pos hpq]
        refine wp_if rfl ?_
        refine wpAny_bind (wpAny_pure ?_)
        refine wp_if rfl ?_
        refine wpAny_bind (wp_push l1 hs1 fun h2 k2 l2 => ?_)
        have kk : h₀.StaysIn h2 := fun b o e => k2 b o (fun q => by rw [q, hl0] at e; cases e) (k1 b o e)
        refine wpAny_pure ⟨plainId_quiet (by decide +kernel) _, ?_⟩
        exact sub_loop hx hp hl0 hne hw ms e _ _ _ _ _ _ _ _ _ _ hs' kk l2 (strsAre_snoc y1 repl t1) (by rw [← htot, List.append_assoc]; rw [pieces_cons, hcut]; simp) fun h3 tk t' k3 => hR h3 tk t' k3
      · rw [if_neg hpq]
        have l1 := hl
        have k1 := hk
        have y1 := hy
        have hs1 : vs.length ≤ sizeLine := by rw [sizeLine_eq]; omega
        have hcut : cut x.cps p q = [] := by unfold cut; rw [if_neg hpq]
        refine wp_if rfl ?_
        refine wpAny_bind (wpAny_pure ?_)
        refine wp_if rfl ?_
        refine wpAny_bind (wp_push l1 hs1 fun h2 k2 l2 => ?_)
        have kk : h₀.StaysIn h2 := fun b o e => k2 b o (fun q => by rw [q, hl0] at e; cases e) (k1 b o e)
        refine wpAny_pure ⟨plainId_quiet (by decide +kernel) _, ?_⟩
        exact sub_loop hx hp hl0 hne hw ms e _ _ _ _ _ _ _ _ _ _ hs' kk l2 (strsAre_snoc y1 repl t1) (by rw [← htot]; rw [pieces_cons, hcut]; simp) fun h3 tk t' k3 => hR h3 tk t' k3
/-- pattern.sub(repl, text): a written replacement without a reversed stroke -/
theorem sub_call {E : Value → Shared → Prop} {s : Shared} {pa : Addr} {x repl : Str} {t t1 : Tok} {code : Array Nat} {ms : List (Nat × Nat)} {Q : Value → Shared → Prop} (hp : PatAt s.heap pa code) (hty : s.TypeIs (.ref pa) "re.Pattern") (hx : x.cps.size ≤ 1000) (h92 : repl.cps.contains 92 = false)
    (hs : SubRun x.cps code 0 ms) (hne : pieces x.cps repl 0 ms ≠ []) (hw : ((pieces x.cps repl 0 ms).map (·.length)).sum + (pieces x.cps repl 0 ms).length ≤ 1048576)
    (h : ∀ h' tk t', s.heap.StaysIn h' → Q (.str (Txt.join Str.empty (pieces x.cps repl 0 ms)) t') { s with heap := h', toks := tk }) :
    wpAny (model prog w) A (call (.builtin "re.Pattern.sub") [.ref pa, .str repl t1, .str x t]) Q E s := by
  refine wpAny_call (codeAny_call_builtin slot_pat_sub.plain entry_pat_sub (slot_pat_sub.check _ _ _ _ _ _ _ _ hty (args_pat_sub _ _ _) ?_))
  unfold Builtin.«re.Pattern.sub» reSubstitute
  dsimp only
  refine wpAny_bind (wpAny_of_eq (named_sub _ _) ?_)
  dsimp only
  refine wpAny_bind (wpAny_pure ?_)
  refine wpAny_bind (wpAny_specialOf_val (typeOf_str _ _) str_no_call ?_)
  refine wp_ifn rfl ?_
  refine wpAny_bind (wpAny_pure ?_)
  dsimp only
  refine wpAny_bind (wpAny_pure ?_)
  refine wp_ifn rfl ?_
  rw [h92]
  refine wp_if rfl ?_
  refine wpAny_bind (wpAny_pure ?_)
  dsimp only
  refine wpAny_bind (wpAny_holding (wp_target hp ?_))
  refine wp_ifn rfl ?_
  refine wpAny_bind (wpAny_newList ?_ (Nat.zero_le _))
  have hl0 : s.heap.get? s.heap.objs.size = none := by
    cases e : s.heap.get? s.heap.objs.size with
    | none => rfl
    | some o => exact absurd (Heap.lt_size e) (Nat.lt_irrefl _)
  refine wpAny_pure ⟨plainId_quiet (by decide +kernel) _, ?_⟩
  exact sub_loop (s := { s with heap := s.heap.push { cls := .type "list", data := .seq (#[] : Array Value) } }) hx hp hl0 hne hw ms 0 _ _ _ _ _ _ [] [] 0 hs (fun b o e => Heap.get?_push_of_some _ e) (Heap.get?_push_size _ rfl) .nil (List.nil_append _) fun h' tk t' k => h h' tk t' k
end
end Mine
end
section
open PySem PySem.W PySem.Calls PyProof.Rows PySem.Builtin
set_option maxRecDepth 100000
namespace Mine
/-- the signs of a row list: each body with its end -/
def flat (rows : List (List Nat × List Nat)) : List Nat := rows.flatMap fun r => r.1 ++ r.2
theorem flat_cons (r : List Nat × List Nat) (rs : List (List Nat × List Nat)) : flat (r :: rs) = r.1 ++ (r.2 ++ flat rs) := by
  unfold flat; rw [List.flatMap_cons, List.append_assoc]
/-- a row as it is sent: a dot first, no end within, one of three ends -/
structure GoodRow (r : List Nat × List Nat) : Prop where
  dot : ∃ b, r.1 = 46 :: b
  n10 : 10 ∉ r.1
  n13 : 13 ∉ r.1
  fin : r.2 = [10] ∨ r.2 = [13] ∨ r.2 = [13, 10]
def catL (ys : List Str) : List Nat := ys.flatMap fun y => y.cps.toList
theorem catL_append (a b : List Str) : catL (a ++ b) = catL a ++ catL b := by unfold catL; rw [List.flatMap_append]
theorem catL_cons (a : Str) (b : List Str) : catL (a :: b) = a.cps.toList ++ catL b := by unfold catL; rw [List.flatMap_cons]
theorem join_cat : ∀ ys : List Str, Str.join Str.empty ys = ⟨(catL ys).toArray⟩
  | [] => rfl
  | [x] => by
    rw [catL_cons]
    show x = _
    simp [catL]
  | x :: y :: r => by
    show x ++ Str.empty ++ Str.join Str.empty (y :: r) = _
    rw [join_cat (y :: r), catL_cons x]
    apply Str.ext'
    apply Array.toList_inj.mp
    simp [Str.cps_append, Str.empty]
theorem txtJoin_cat (ys : List Str) : Txt.join Str.empty ys = ⟨(catL ys).toArray⟩ := by
  unfold Txt.join
  rw [StrLaws.glued_eq_join, join_cat]
theorem cut_cat (text : List Nat) (a b : Nat) : catL (cut text.toArray a b) = (text.drop a).take (b - a) := by
  unfold cut
  by_cases h : a < b
  · rw [if_pos h, catL_cons]
    simp [catL]
  · rw [if_neg h, show b - a = 0 by omega]
    simp [catL]
theorem at_pre (pre l : List Nat) (j : Nat) : (pre ++ l).toArray[pre.length + j]?.getD 0 = l[j]?.getD 0 := by
  rw [List.getElem?_toArray, List.getElem?_append_right (Nat.le_add_right _ _), Nat.add_sub_cancel_left]
theorem cut_at (pre l suf : List Nat) : catL (cut (pre ++ (l ++ suf)).toArray pre.length (pre.length + l.length)) = l := by
  rw [cut_cat, Nat.add_sub_cancel_left]
  simp
def ms2 : Nat → List (List Nat × List Nat) → List (Nat × Nat)
  | _, [] => []
  | p, r :: rs => (p + r.1.length, p + r.1.length + r.2.length) :: ms2 (p + r.1.length + r.2.length) rs
theorem run2 (repl : Str) : ∀ (rows : List (List Nat × List Nat)) (pre : List Nat), (∀ r ∈ rows, GoodRow r) →
    SubRun (pre ++ flat rows).toArray code2 pre.length (ms2 pre.length rows) ∧ catL (pieces (pre ++ flat rows).toArray repl pre.length (ms2 pre.length rows)) = flat (rows.map fun r => (r.1, repl.cps.toList))
  | [], pre, _ => by
    refine ⟨.nil (n := 20) (by decide) (search2_none fun i a b => ?_), ?_⟩
    · simp [flat] at b; omega
    · have := cut_cat (pre ++ flat []) pre.length (pre ++ flat []).length
      simp [flat, pieces, ms2] at this ⊢
      exact this
  | r :: rs, pre, h => by
    have hg := h r (.head _)
    obtain ⟨b, hb⟩ := hg.dot
    have ih := run2 repl rs (pre ++ (r.1 ++ r.2)) fun q hq => h q (.tail _ hq)
    have e1 : pre ++ flat (r :: rs) = pre ++ (r.1 ++ r.2) ++ flat rs := by rw [flat_cons]; simp
    have e2 : (pre ++ (r.1 ++ r.2)).length = pre.length + r.1.length + r.2.length := by simp; omega
    rw [e2, ← e1] at ih
    have hend : 0 < r.2.length := by rcases hg.fin with e | e | e <;> rw [e] <;> decide
    have hsz : (pre ++ flat (r :: rs)).toArray.size = pre.length + (r.1.length + (r.2.length + (flat rs).length)) := by rw [flat_cons]; simp
    have hnext : (flat rs)[0]?.getD 0 ≠ 10 := by
      cases rs with
      | nil => simp [flat]
      | cons r2 rs2 =>
        obtain ⟨b2, hb2⟩ := (h r2 (.tail _ (.head _))).dot
        rw [flat_cons, hb2]
        simp
    refine ⟨.cons (n := 20) (by decide) (search2_hit (by omega) (by rw [hsz]; omega) ?_ fun i a c => ?_) (by omega) ih.1, ?_⟩
    · have at0 : (pre ++ flat (r :: rs)).toArray[pre.length + r.1.length]?.getD 0 = r.2[0]?.getD 0 := by
        rw [flat_cons, ← List.append_assoc, ← List.length_append, ← Nat.add_zero (pre ++ r.1).length, at_pre, List.getElem?_append_left hend]
      have at1 : r.2.length = 1 → (pre ++ flat (r :: rs)).toArray[pre.length + r.1.length + 1]?.getD 0 = (flat rs)[0]?.getD 0 := fun hl => by
        rw [flat_cons, ← List.append_assoc, ← List.length_append, at_pre, List.getElem?_append_right (by omega), hl]
      unfold eolAt
      rw [at0, hsz]
      rcases hg.fin with e | e | e
      · rw [e]; exact .inr (.inl ⟨rfl, rfl⟩)
      · rw [at1 (by rw [e]; rfl), e]
        refine .inr (.inr ⟨rfl, ?_, rfl⟩)
        by_cases hz : (flat rs).length = 0
        · left; simp [hz]; omega
        · right; exact ⟨by simp; omega, hnext⟩
      · have at2 : (pre ++ flat (r :: rs)).toArray[pre.length + r.1.length + 1]?.getD 0 = 10 := by
          rw [flat_cons, ← List.append_assoc, ← List.length_append, at_pre, e]; rfl
        rw [at2, e]
        exact .inl ⟨rfl, by simp; omega, rfl, rfl⟩
    · obtain ⟨j, rfl⟩ : ∃ j, i = pre.length + j := ⟨i - pre.length, by omega⟩
      have hj : j < r.1.length := by omega
      rw [flat_cons, at_pre, List.getElem?_append_left hj, List.getElem?_eq_getElem hj]
      exact ⟨fun q => hg.n10 (q ▸ List.getElem_mem hj), fun q => hg.n13 (q ▸ List.getElem_mem hj)⟩
    · show catL (pieces _ repl pre.length ((pre.length + r.1.length, pre.length + r.1.length + r.2.length) :: ms2 _ rs)) = _
      rw [pieces_cons, catL_append, catL_cons, ih.2, List.map_cons, flat_cons, flat_cons, cut_at]
end Mine
end
section
open PySem PySem.W PySem.Calls PyProof.Rows PySem.Builtin PySem.Builtin.Str
set_option maxRecDepth 100000
namespace Mine
def ms1 : Nat → Nat → List (List Nat × List Nat) → List (Nat × Nat)
  | _, _, [] => []
  | d, k, r :: rs => (d + k, d + k + 1) :: ms1 (d + k + 1) (r.1.length - 1 + r.2.length) rs
def Tl (pre tl : List Nat) : Prop := (pre = [] ∧ tl = []) ∨ ∃ p b, pre = p ++ [46] ∧ tl = b ++ [13, 10] ∧ 10 ∉ b
structure SentRow (r : List Nat × List Nat) : Prop where
  dot : ∃ b, r.1 = 46 :: b ∧ 10 ∉ b
  fin : r.2 = [13, 10]
theorem tl_free {pre tl suf : List Nat} (h : Tl pre tl) (i : Nat) (h1 : pre.length ≤ i) (h2 : i < pre.length + tl.length) : ¬ ((i = 0 ∨ (pre ++ (tl ++ suf)).toArray[i - 1]?.getD 0 = 10) ∧ (pre ++ (tl ++ suf)).toArray[i]?.getD 0 = 46) := by
  rintro ⟨h3, _⟩
  rcases h with ⟨rfl, rfl⟩ | ⟨p, b, rfl, rfl, hb⟩
  · simp at h2
  · obtain ⟨j, rfl⟩ : ∃ j, i = (p ++ [46]).length + j := ⟨i - (p ++ [46]).length, by omega⟩
    simp at h1 h2
    rcases h3 with h3 | h3
    · simp at h3
    · cases j with
      | zero =>
        have : (p ++ [46]).length + 0 - 1 = p.length + 0 := by simp
        rw [this, List.append_assoc, at_pre] at h3
        simp at h3
      | succ j =>
        have : (p ++ [46]).length + (j + 1) - 1 = (p ++ [46]).length + j := by omega
        rw [this, at_pre] at h3
        by_cases hj : j < b.length
        · rw [List.append_assoc, List.getElem?_append_left hj, List.getElem?_eq_getElem hj] at h3
          exact hb (h3 ▸ List.getElem_mem hj)
        · have : j = b.length := by omega
          subst this
          rw [List.append_assoc, List.getElem?_append_right (Nat.le_refl _)] at h3
          simp at h3
theorem tl_hit {pre tl suf : List Nat} (h : Tl pre tl) : pre.length + tl.length = 0 ∨ (pre ++ (tl ++ suf)).toArray[pre.length + tl.length - 1]?.getD 0 = 10 := by
  rcases h with ⟨rfl, rfl⟩ | ⟨p, b, rfl, rfl, hb⟩
  · left; rfl
  · right
    have : (p ++ [46]).length + (b ++ [13, 10]).length - 1 = (p ++ [46]).length + (b.length + 1) := by simp
    rw [this, at_pre, List.append_assoc, List.getElem?_append_right (by omega)]
    simp
theorem run1 (repl : Str) : ∀ (rows : List (List Nat × List Nat)) (pre tl : List Nat), (∀ r ∈ rows, SentRow r) → Tl pre tl → (pre ++ (tl ++ flat rows)).length ≤ 1000 →
    SubRun (pre ++ (tl ++ flat rows)).toArray code1 pre.length (ms1 pre.length tl.length rows) ∧ catL (pieces (pre ++ (tl ++ flat rows)).toArray repl pre.length (ms1 pre.length tl.length rows)) = tl ++ flat (rows.map fun r => (repl.cps.toList ++ r.1.tail, r.2))
  | [], pre, tl, _, ht, hl => by
    have hsz : (pre ++ (tl ++ flat [])).toArray.size = pre.length + tl.length := by simp [flat]
    refine ⟨.nil (n := 5 + 3 * (pre ++ (tl ++ flat [])).toArray.size) (by rw [hsz]; simp [flat] at hl; omega) (search1_none (by rw [hsz]; omega) fun i a b => tl_free ht i a (by rw [hsz] at b; exact b)), ?_⟩
    have := cut_at pre tl (flat [])
    show catL (cut _ _ _) = _
    rw [hsz, this]
    simp [flat]
  | r :: rs, pre, tl, h, ht, hl => by
    obtain ⟨b, hb, hb10⟩ := (h r (.head _)).dot
    have hfin := (h r (.head _)).fin
    have e1 : pre ++ (tl ++ flat (r :: rs)) = (pre ++ tl ++ [46]) ++ ((b ++ [13, 10]) ++ flat rs) := by rw [flat_cons, hb, hfin]; simp
    have e2 : (pre ++ tl ++ [46]).length = pre.length + tl.length + 1 := by simp; omega
    have e3 : (b ++ [13, 10]).length = r.1.length - 1 + r.2.length := by rw [hb, hfin]; simp
    have ih := run1 repl rs (pre ++ tl ++ [46]) (b ++ [13, 10]) (fun q hq => h q (.tail _ hq)) (.inr ⟨_, b, rfl, rfl, hb10⟩) (e1 ▸ hl)
    rw [e2, e3, ← e1] at ih
    have hsz : (pre ++ (tl ++ flat (r :: rs))).toArray.size = pre.length + tl.length + 1 + (r.1.length - 1 + r.2.length) + (flat rs).length := by
      rw [e1, ← e3]; simp; omega
    refine ⟨.cons (n := 5 + 3 * (pre ++ (tl ++ flat (r :: rs))).toArray.size) ?_ (search1_hit (by omega) (by rw [hsz]; omega) (tl_hit ht) ?_ fun i a c => tl_free ht i a c) (by omega) ih.1, ?_⟩
    · have : (pre ++ (tl ++ flat (r :: rs))).toArray.size ≤ 1000 := by rw [List.size_toArray]; exact hl
      omega
    · have : pre ++ (tl ++ flat (r :: rs)) = (pre ++ tl) ++ flat (r :: rs) := by simp
      rw [this, ← List.length_append, ← Nat.add_zero (pre ++ tl).length, at_pre, flat_cons, hb]
      rfl
    · show catL (pieces _ repl pre.length ((pre.length + tl.length, pre.length + tl.length + 1) :: ms1 _ _ rs)) = _
      rw [pieces_cons, catL_append, catL_cons, ih.2, List.map_cons, flat_cons (r := (repl.cps.toList ++ r.1.tail, r.2)), cut_at, hb, hfin]
      simp
/-- split at the ends -/
theorem crlf_is : Str.ofString "\r\n" = ⟨[13, 10].toArray⟩ := by decide +kernel
theorem at_crlf (text : List Nat) (k : Nat) : StrLaws.At ⟨text.toArray⟩ (Str.ofString "\r\n") text.length k ↔ (text.drop k).take 2 = [13, 10] := by
  unfold StrLaws.At
  rw [StrLaws.subAt_eq, crlf_is]
  show k + 2 ≤ text.length ∧ ((text.drop k).take 2 == [13, 10]) = true ↔ _
  rw [beq_iff_eq]
  constructor
  · exact fun h => h.2
  · intro h
    refine ⟨?_, h⟩
    have := congrArg List.length h
    simp at this
    omega
theorem parts_rows : ∀ (rows : List (List Nat)) (pre : List Nat) (occs : List Nat) (f : Nat), (∀ b ∈ rows, 13 ∉ b) →
    StrLaws.ChainG ⟨(pre ++ flat (rows.map fun b => (b, [13, 10]))).toArray⟩ (Str.ofString "\r\n") (pre ++ flat (rows.map fun b => (b, [13, 10]))).length pre.length occs f →
    (∀ k, f ≤ k → ¬ StrLaws.At ⟨(pre ++ flat (rows.map fun b => (b, [13, 10]))).toArray⟩ (Str.ofString "\r\n") (pre ++ flat (rows.map fun b => (b, [13, 10]))).length k) →
    StrLaws.partsFrom ⟨(pre ++ flat (rows.map fun b => (b, [13, 10]))).toArray⟩ 2 pre.length occs = rows.map (fun b => (⟨b.toArray⟩ : Str)) ++ [Str.empty]
  | [], pre, occs, f, _, hc, _ => by
    cases occs with
    | nil =>
      show [strSub _ _ _] = _
      show [strSub _ _ _] = [Str.empty]
      congr 1
      apply Str.ext'
      apply Array.toList_inj.mp
      rw [StrLaws.strSub_toList]
      simp [flat, Str.empty]
    | cons c r =>
      exfalso
      have h1 := hc.1
      have h2 := hc.2.1.1
      simp [flat, crlf_is, Str.length] at h2
      omega
  | b :: bs, pre, occs, f, h, hc, hn => by
    have e1 : pre ++ flat ((b :: bs).map fun b => (b, [13, 10])) = (pre ++ (b ++ [13, 10])) ++ flat (bs.map fun b => (b, [13, 10])) := by rw [List.map_cons, flat_cons]; simp
    have e2 : pre ++ flat ((b :: bs).map fun b => (b, [13, 10])) = pre ++ (b ++ ([13, 10] ++ flat (bs.map fun b => (b, [13, 10])))) := by rw [List.map_cons, flat_cons]
    have hat : StrLaws.At ⟨(pre ++ flat ((b :: bs).map fun b => (b, [13, 10]))).toArray⟩ (Str.ofString "\r\n") (pre ++ flat ((b :: bs).map fun b => (b, [13, 10]))).length (pre.length + b.length) := by
      rw [at_crlf, e2]
      simp
    cases occs with
    | nil =>
      exfalso
      have e : f = pre.length := hc
      exact hn _ (by omega) hat
    | cons c r =>
      obtain ⟨ha, hcat, hmin, hrest⟩ := hc
      have hle : c ≤ pre.length + b.length := Nat.not_lt.mp fun hlt => hmin _ (by omega) hlt hat
      have hceq : c = pre.length + b.length := by
        by_cases hlt : c < pre.length + b.length
        · exfalso
          rw [at_crlf, e2] at hcat
          obtain ⟨j, rfl⟩ : ∃ j, c = pre.length + j := ⟨c - pre.length, by omega⟩
          have hj : j < b.length := by omega
          have h0 := congrArg (fun l => l[0]?) hcat
          rw [List.drop_append, List.drop_eq_nil_of_le (by omega), List.nil_append, Nat.add_sub_cancel_left, List.drop_append_of_le_length (by omega), List.drop_eq_getElem_cons hj] at h0
          have h1 : b[j] = 13 := by
            have h2 : some b[j] = some 13 := h0
            exact Option.some.inj h2
          exact h b (.head _) (h1 ▸ List.getElem_mem hj)
        · omega
      subst hceq
      have ih := parts_rows bs (pre ++ (b ++ [13, 10])) r f (fun q hq => h q (.tail _ hq))
      rw [← e1] at ih
      have e3 : (pre ++ (b ++ [13, 10])).length = pre.length + b.length + 2 := by simp; omega
      rw [e3] at ih
      show strSub _ _ _ :: StrLaws.partsFrom _ 2 (pre.length + b.length + 2) r = _
      rw [ih hrest hn]
      show _ = (⟨b.toArray⟩ : Str) :: (bs.map (fun b => (⟨b.toArray⟩ : Str)) ++ [Str.empty])
      congr 1
      apply Str.ext'
      apply Array.toList_inj.mp
      rw [StrLaws.strSub_toList, e2]
      simp
theorem split_rows {rows : List (List Nat)} (hne : rows ≠ []) (h : ∀ b ∈ rows, 13 ∉ b) : Txt.split ⟨(flat (rows.map fun b => (b, [13, 10]))).toArray⟩ (Str.ofString "\r\n") = rows.map (fun b => (⟨b.toArray⟩ : Str)) ++ [Str.empty] := by
  obtain ⟨f, hG, hn⟩ := StrLaws.occ_tight ⟨(flat (rows.map fun b => (b, [13, 10]))).toArray⟩ (Str.ofString "\r\n") (by rw [crlf_is]; decide)
  have hp := parts_rows rows [] _ f h hG hn
  obtain ⟨b, bs, rfl⟩ := List.exists_cons_of_ne_nil hne
  have hlen : 2 ≤ (⟨(flat ((b :: bs).map fun b => (b, [13, 10]))).toArray⟩ : Str).length := by
    show 2 ≤ (List.toArray _).size
    rw [List.map_cons, flat_cons]; simp; omega
  unfold Txt.split
  rw [if_neg, if_neg]
  · rw [StrLaws.partsBetween_eq]
    exact hp
  · intro he
    rw [List.isEmpty_iff] at he
    rw [he] at hp
    have := congrArg List.length hp
    simp [StrLaws.partsFrom] at this
  · rw [Bool.or_eq_true, decide_eq_true_eq, decide_eq_true_eq]
    rintro (hlt | hlt)
    · rw [crlf_is] at hlt
      have : (⟨[13, 10].toArray⟩ : Str).length = 2 := rfl
      omega
    · rw [show PySem.Builtin.Str.strKind (Str.ofString "\r\n") = 1 from by decide +kernel] at hlt
      unfold PySem.Builtin.Str.strKind at hlt
      split at hlt
      · omega
      · split at hlt <;> omega
end Mine
end
section
open PySem PySem.W PySem.Calls PyProof.Rows PySem.Builtin
set_option Elab.async false
set_option maxRecDepth 100000
set_option maxHeartbeats 8000000
set_option pp.deepTerms false
set_option pp.maxSteps 3000
namespace Mine
theorem cat_len : ∀ ys : List Str, (ys.map (·.length)).sum = (catL ys).length
  | [] => rfl
  | y :: ys => by
    rw [catL_cons, List.map_cons, List.sum_cons, cat_len ys, List.length_append]
    congr 1
theorem cut_len (text : Array Nat) (a b : Nat) : (cut text a b).length ≤ 1 := by
  unfold cut
  split <;> simp
theorem pieces_len (text : Array Nat) (repl : Str) : ∀ (ms : List (Nat × Nat)) (p : Nat), (pieces text repl p ms).length ≤ 2 * ms.length + 1
  | [], p => cut_len _ _ _
  | (q, e) :: ms, p => by
    rw [pieces_cons, List.length_append, List.length_cons, List.length_cons]
    have := cut_len text p q
    have := pieces_len text repl ms e
    omega
theorem ms2_len : ∀ (rows : List (List Nat × List Nat)) (p : Nat), (ms2 p rows).length = rows.length
  | [], _ => rfl
  | r :: rs, p => by simp [ms2, ms2_len rs]
theorem ms1_len : ∀ (rows : List (List Nat × List Nat)) (p k : Nat), (ms1 p k rows).length = rows.length
  | [], _, _ => rfl
  | r :: rs, p, k => by simp [ms1, ms1_len rs]
abbrev ended (rows : List (List Nat × List Nat)) : List (List Nat × List Nat) := rows.map fun r => (r.1, [13, 10])
theorem pat1_at {w : World} {h : Heap} (X : (hd.heap_39 w.params).In h) : PatAt h 78 code1 ∧ ∃ o, h.get? 78 = some o ∧ o.cls = .type "re.Pattern" ∧ o.dict = none :=
  ⟨⟨_, 77, _, _, _, _, _, _, _, _, X 78 _ rfl, rfl, X 77 _ rfl, rfl, by decide +kernel⟩, _, X 78 _ rfl, rfl, rfl⟩
theorem pat2_at {w : World} {h : Heap} (X : (hd.heap_39 w.params).In h) : PatAt h 83 code2 ∧ ∃ o, h.get? 83 = some o ∧ o.cls = .type "re.Pattern" ∧ o.dict = none :=
  ⟨⟨_, 82, _, _, _, _, _, _, _, _, X 83 _ rfl, rfl, X 82 _ rfl, rfl, by decide +kernel⟩, _, X 83 _ rfl, rfl, rfl⟩
section
variable {w : World} {A : Around} {E : Value → Shared → Prop} {s : Shared} {h₀ : Heap} {L : Addr} {m : Str → Option Value} {news : List (Addr × Obj)}
theorem flat_ne {rows : List (List Nat × List Nat)} (hne : rows ≠ []) (hg : ∀ r ∈ rows, ∃ b, r.1 = 46 :: b) : flat rows ≠ [] := by
  obtain ⟨r, rs, rfl⟩ := List.exists_cons_of_ne_nil hne
  obtain ⟨b, hb⟩ := hg r (.head _)
  rw [flat_cons, hb]
  simp
theorem catL_ne {ys : List Str} (h : catL ys ≠ []) : ys ≠ [] := fun e => h (by rw [e]; rfl)
theorem sub2_call {rows : List (List Nat × List Nat)} {t t1 : Tok} {Q : Value → Shared → Prop} (F : Fr h₀ L s.heap m) (N : News h₀ L s.heap news) (X : (hd.heap_39 w.params).In h₀) (hg : ∀ r ∈ rows, GoodRow r) (hne : rows ≠ []) (h1 : (flat rows).length ≤ 1000) (h2 : (flat (ended rows)).length ≤ 1000) (h3 : rows.length ≤ 100)
    (h : ∀ h' tk t', Fr h₀ L h' m → News h₀ L h' news → Q (.str ⟨(flat (ended rows)).toArray⟩ t') { s with heap := h', toks := tk }) :
    wpAny (model PySem.Challenge.rw_tp0012_01.row.prog w) A (call (.builtin "re.Pattern.sub") [.ref 83, .str (Str.ofString "\r\n") t1, .str ⟨(flat rows).toArray⟩ t]) Q E s := by
  have hr := run2 (Str.ofString "\r\n") rows [] hg
  rw [List.nil_append, show (Str.ofString "\r\n").cps.toList = [13, 10] from by decide +kernel, show ([] : List Nat).length = 0 from rfl] at hr
  have hX := pat2_at (X.keeps F.keep)
  have hpl := pieces_len (flat rows).toArray (Str.ofString "\r\n") (ms2 0 rows) 0
  rw [ms2_len] at hpl
  obtain ⟨o, ho, hc, _⟩ := hX.2
  have hcat : catL (pieces (flat rows).toArray (Str.ofString "\r\n") 0 (ms2 0 rows)) = flat (ended rows) := hr.2
  have hfe : flat (ended rows) ≠ [] := flat_ne (by simpa using hne) fun r hm => by
    obtain ⟨r', hm', rfl⟩ := List.mem_map.mp hm
    exact (hg r' hm').dot
  have hp0 : pieces (flat rows).toArray (Str.ofString "\r\n") 0 (ms2 0 rows) ≠ [] := catL_ne (by rw [hcat]; exact hfe)
  have hwt : ((pieces (flat rows).toArray (Str.ofString "\r\n") 0 (ms2 0 rows)).map (·.length)).sum + (pieces (flat rows).toArray (Str.ofString "\r\n") 0 (ms2 0 rows)).length ≤ 1048576 := by
    rw [cat_len, hcat]; omega
  refine sub_call (ms := ms2 0 rows) hX.1 ⟨o, ho, hc⟩ (by simpa using h1) (by decide +kernel) hr.1 hp0 hwt fun h' tk t' st => ?_
  rw [txtJoin_cat]
  show Q (.str ⟨(catL (pieces (flat rows).toArray (Str.ofString "\r\n") 0 (ms2 0 rows))).toArray⟩ t') _
  rw [hcat]
  exact h h' tk t' (fr_stays F st) (news_stays N st)
theorem sub1_call {rows : List (List Nat × List Nat)} {t t1 : Tok} {Q : Value → Shared → Prop} (F : Fr h₀ L s.heap m) (N : News h₀ L s.heap news) (X : (hd.heap_39 w.params).In h₀) (hg : ∀ r ∈ rows, GoodRow r) (hne : rows ≠ []) (h2 : (flat (ended rows)).length ≤ 1000) (h3 : rows.length ≤ 100)
    (h : ∀ h' tk t', Fr h₀ L h' m → News h₀ L h' news → Q (.str ⟨(flat (rows.map fun r => (46 :: r.1, [13, 10]))).toArray⟩ t') { s with heap := h', toks := tk }) :
    wpAny (model PySem.Challenge.rw_tp0012_01.row.prog w) A (call (.builtin "re.Pattern.sub") [.ref 78, .str (Str.ofString "..") t1, .str ⟨(flat (ended rows)).toArray⟩ t]) Q E s := by
  have hs : ∀ r ∈ ended rows, SentRow r := fun r hm => by
    obtain ⟨r', hm', rfl⟩ := List.mem_map.mp hm
    obtain ⟨b, hb⟩ := (hg r' hm').dot
    exact ⟨⟨b, hb, fun q => (hg r' hm').n10 (by rw [hb]; exact .tail _ q)⟩, rfl⟩
  have hr := run1 (Str.ofString "..") (ended rows) [] [] hs (.inl ⟨rfl, rfl⟩) (by simpa using h2)
  rw [List.nil_append, List.nil_append, List.nil_append, show (Str.ofString "..").cps.toList = [46, 46] from by decide +kernel, show ([] : List Nat).length = 0 from rfl] at hr
  have he : (ended rows).map (fun r => ([46, 46] ++ r.1.tail, r.2)) = rows.map fun r => (46 :: r.1, [13, 10]) := by
    rw [List.map_map]
    refine List.map_congr_left fun r hm => ?_
    obtain ⟨b, hb⟩ := (hg r hm).dot
    simp [hb]
  rw [he] at hr
  have hX := pat1_at (X.keeps F.keep)
  have hpl := pieces_len (flat (ended rows)).toArray (Str.ofString "..") (ms1 0 0 (ended rows)) 0
  rw [ms1_len, List.length_map] at hpl
  obtain ⟨o, ho, hc, _⟩ := hX.2
  have hlen : (flat (rows.map fun r => (46 :: r.1, [13, 10]))).length ≤ (flat (ended rows)).length + rows.length := by
    clear hr he hpl hs h h2 hg hne h3
    induction rows with
    | nil => simp [flat]
    | cons r rs ih => simp only [ended, List.map_cons, flat_cons, List.length_append, List.length_cons] at ih ⊢; omega
  have hcat : catL (pieces (flat (ended rows)).toArray (Str.ofString "..") 0 (ms1 0 0 (ended rows))) = flat (rows.map fun r => (46 :: r.1, [13, 10])) := hr.2
  have hfe : flat (rows.map fun r => (46 :: r.1, [13, 10])) ≠ [] := flat_ne (by simpa using hne) fun r hm => by
    obtain ⟨r', hm', rfl⟩ := List.mem_map.mp hm
    exact ⟨_, rfl⟩
  have hp0 : pieces (flat (ended rows)).toArray (Str.ofString "..") 0 (ms1 0 0 (ended rows)) ≠ [] := catL_ne (by rw [hcat]; exact hfe)
  have hwt : ((pieces (flat (ended rows)).toArray (Str.ofString "..") 0 (ms1 0 0 (ended rows))).map (·.length)).sum + (pieces (flat (ended rows)).toArray (Str.ofString "..") 0 (ms1 0 0 (ended rows))).length ≤ 1048576 := by
    rw [cat_len, hcat]; omega
  refine sub_call (ms := ms1 0 0 (ended rows)) hX.1 ⟨o, ho, hc⟩ (by simpa using h2) (by decide +kernel) hr.1 hp0 hwt fun h' tk t' st => ?_
  rw [txtJoin_cat]
  show Q (.str ⟨(catL (pieces (flat (ended rows)).toArray (Str.ofString "..") 0 (ms1 0 0 (ended rows)))).toArray⟩ t') _
  rw [hcat]
  exact h h' tk t' (fr_stays F st) (news_stays N st)
end
end Mine
end
section
open PySem PySem.W PySem.Calls PyProof.Rows
set_option Elab.async false
set_option maxRecDepth 100000
set_option maxHeartbeats 8000000
set_option pp.deepTerms false
set_option pp.maxSteps 3000
namespace Mine
section
local macro_rules | `(tactic| ktr_enter) => `(tactic| (refine' enter ?k1 ?k2 ?k3 ?k5 ?kA ?kF ?kK ?k6 ?k7 ?k8 ?k9 ?kB ?kR ?_ ?c2 ?c3 ?c4 ?c5; (case kA => exact rfl); (case kF => exact rfl); (case kK => assumption); (case k1 => k_asm); (case k2 => k_asm); (case k3 => k_asm); (case k5 => k_asm); (case k6 => k_is); (case k7 => k_is); (case k8 => ktr_room); (case k9 => exact BindsTo.of_eq rfl); (case c5 => decide); (case kB => exact locs rfl); (case c2 => exact rfl); (case c3 => exact rfl); (case c4 => exact rfl); (case kR => assumption); k_whole; intro g' L' h' gE' F' N' B' X' T'; (try dsimp only); (try k_fold)))
theorem meth2 {w : World} {M : Model} {A : Around} {E : Value → Shared → Prop} {s : Shared} {h₀ : Heap} {L : Addr} {m : Str → Option Value} {pl : Sem Bool} {Q : Value × List Value → Shared → Prop} (F : Fr h₀ L s.heap m) (X : (Mine.hd.heap_39 w.params).In h₀) (h : Q (.builtin "re.Pattern.sub", [.ref 83]) s) : wpAny M A (getMethod (.ref 83) (Str.ofString "sub") pl) Q E s := by
  obtain ⟨o, ho, hc, hd⟩ := (pat2_at (X.keeps F.keep)).2
  exact getMethod_builtin ⟨o, ho, hc⟩ plainAttrs_pat slot_pat_sub type_pat_sub (fun a e => by cases e; exact ⟨o, ho, hd⟩) h
theorem meth1 {w : World} {M : Model} {A : Around} {E : Value → Shared → Prop} {s : Shared} {h₀ : Heap} {L : Addr} {m : Str → Option Value} {pl : Sem Bool} {Q : Value × List Value → Shared → Prop} (F : Fr h₀ L s.heap m) (X : (Mine.hd.heap_39 w.params).In h₀) (h : Q (.builtin "re.Pattern.sub", [.ref 78]) s) : wpAny M A (getMethod (.ref 78) (Str.ofString "sub") pl) Q E s := by
  obtain ⟨o, ho, hc, hd⟩ := (pat1_at (X.keeps F.keep)).2
  exact getMethod_builtin ⟨o, ho, hc⟩ plainAttrs_pat slot_pat_sub type_pat_sub (fun a e => by cases e; exact ⟨o, ho, hd⟩) h
structure PageX (rows : List (List Nat × List Nat)) (x : Str) : Prop where
  is : x = ⟨(flat rows).toArray⟩
  good : ∀ r ∈ rows, GoodRow r
  ne : rows ≠ []
  l1 : (flat rows).length ≤ 1000
  l2 : (flat (ended rows)).length ≤ 1000
  l3 : rows.length ≤ 100
abbrev sentText (rows : List (List Nat × List Nat)) : Str := ⟨(flat (rows.map fun r => (46 :: r.1, [13, 10]))).toArray⟩
local macro_rules | `(tactic| walk_at "getMethod ref") => `(tactic| (k_here; first | (k_dflt (refine' Mine.meth2 ?F ?X ?_; (case F => k_asm); (case X => k_asm))) | (k_dflt (refine' Mine.meth1 ?F ?X ?_; (case F => k_asm); (case X => k_asm)))))
local macro_rules | `(tactic| walk_at "call builtin:re.Pattern.sub") => `(tactic| (k_here; (rename PageX _ _ => pX); first
  | (k_dflt (refine' Mine.sub2_call ?F ?N ?X (PageX.good pX) (PageX.ne pX) (PageX.l1 pX) (PageX.l2 pX) (PageX.l3 pX) ?_; (case F => k_asm); (case N => k_asm); (case X => k_asm)); intro h' k' t' F' N')
  | (k_dflt (refine' Mine.sub1_call ?F ?N ?X (PageX.good pX) (PageX.ne pX) (PageX.l2 pX) (PageX.l3 pX) ?_; (case F => k_asm); (case N => k_asm); (case X => k_asm)); intro h' k' t' F' N')))
theorem quote_ok {w : World} {mean : ExcName → Option Value} {mg mb : Str → Option Value} {rows : List (List Nat × List Nat)} {t : Tok} (px : PageX rows ⟨(flat rows).toArray⟩) :
    Fn 4 w mean mg mb 90 [.str ⟨(flat rows).toArray⟩ t] (fun _ => True) (fun _ _ v => ∃ t', v = .str (sentText rows) t') := by
  unfold Fn
  k_fill
  intro dp un gd cn cs a ccd cl outer A₀ base h₀ L m s Q E B F X T hk hd hu hpre hret
  k_dflt ktr_enter
  clear hret
  k_steps
  exact ⟨_, _, rfl, Fr.keep (by assumption), ⟨_, rfl⟩⟩
end
end Mine
end
section
open PySem PySem.W PySem.Calls PyProof.Rows
set_option maxRecDepth 100000
namespace Mine
/-- one of the three ends of a row -/
structure EndStr (e : Str) : Prop where
  is : e = Str.ofString "\n" ∨ e = Str.ofString "\r" ∨ e = Str.ofString "\r\n"
theorem EndStr.len {e : Str} (h : EndStr e) : 1 ≤ e.length ∧ e.length ≤ 2 := by
  rcases h.is with rfl | rfl | rfl <;> decide +kernel
theorem EndStr.fin {e : Str} (h : EndStr e) : e.cps.toList = [10] ∨ e.cps.toList = [13] ∨ e.cps.toList = [13, 10] := by
  rcases h.is with rfl | rfl | rfl
  · exact .inl (by decide +kernel)
  · exact .inr (.inl (by decide +kernel))
  · exact .inr (.inr (by decide +kernel))
section
variable {prog : Program} {w : World} {A : Around} {E : Value → Shared → Prop} {s : Shared} {h₀ : Heap} {L : Addr} {m : Str → Option Value} {news : List (Addr × Obj)}
theorem end_item {value slice : PySem.Expr} {l : Addr} {i : Int} {u t1 t2 t3 : Tok} {Q : Value → Shared → Prop} (ht : IsTup s.heap l [Value.str (Str.ofString "\n") t1, .str (Str.ofString "\r") t2, .str (Str.ofString "\r\n") t3].toArray) (h0 : 0 ≤ i) (h1 : i < 3)
    (h : ∀ e t', EndStr e → 1 ≤ e.length ∧ e.length ≤ 2 → Q (.str e t') s)
    (hs : subscripted slice false (.ref l) (.int i u) = operate [.ref l, .int i u] (getItem (.ref l) (.int i u)) := by with_unfolding_all rfl) :
    wpAny (model prog w) A (subscriptTail value slice (.ref l) (.int i u)) Q E s := by
  refine KTb.item_tup (ws := [Str.ofString "\n", Str.ofString "\r", Str.ofString "\r\n"]) ht (.cons _ _ (.cons _ _ (.cons _ _ .nil))) h0 (by simpa using h1) (by omega) (fun t' _ => ?_) hs
  have he : EndStr ([Str.ofString "\n", Str.ofString "\r", Str.ofString "\r\n"].getD i.toNat Str.empty) := by
    have : i = 0 ∨ i = 1 ∨ i = 2 := by omega
    rcases this with rfl | rfl | rfl
    · exact ⟨.inl rfl⟩
    · exact ⟨.inr (.inl rfl)⟩
    · exact ⟨.inr (.inr rfl)⟩
  exact h _ t' he he.len
theorem item_at {value slice : PySem.Expr} {l : Addr} {vs : List Value} {ns : List Int} {i c : Int} {u : Tok} {Q : Value → Shared → Prop} (hl : s.heap.IsList l vs.toArray) (hi : IntsAre vs ns) (h0 : 0 ≤ i) (hhi : i < 2 ^ 63) (hx : ns[i.toNat]? = some c)
    (h : ∀ t, Q (.int c t) s)
    (hs : subscripted slice false (.ref l) (.int i u) = operate [.ref l, .int i u] (getItem (.ref l) (.int i u))) (hg : ∀ r, letTemporaryGo value (.ref l) r = pure ()) :
    wpAny (model prog w) A (subscriptTail value slice (.ref l) (.int i u)) Q E s := by
  have hlt : i.toNat < ns.length := (List.getElem?_eq_some_iff.mp hx).1
  refine item_list_ints hl hi h0 (by omega) hhi (fun t => ?_) hs hg
  rw [List.getD_eq_getElem?_getD, hx]
  exact h t
end
abbrev bodyOf (c n : Int) : List Nat := 46 :: (List.replicate c.toNat 46 ++ [sg n])
abbrev endOf (e : Str) : List Nat := e.cps.toList
theorem body_good {c n : Int} {e : Str} (he : EndStr e) : GoodRow (bodyOf c n, endOf e) where
  dot := ⟨_, rfl⟩
  n10 := by
    have := sg_ne n
    simp at this ⊢
    omega
  n13 := by
    have := sg_ne n
    simp at this ⊢
    omega
  fin := he.fin
def rowF (cs ns : List Int) (es : Nat → Str) (j : Nat) : List Nat × List Nat := (bodyOf (cs.getD j 0) (ns.getD j 0), endOf (es j))
def rowsN (cs ns : List Int) (es : Nat → Str) (i : Nat) : List (List Nat × List Nat) := (List.range i).map (rowF cs ns es)
theorem flat_append (a b : List (List Nat × List Nat)) : flat (a ++ b) = flat a ++ flat b := by unfold flat; rw [List.flatMap_append]
theorem page_next {cs ns : List Int} {es : Nat → Str} {i : Nat} {c n : Int} {e : Str} (hc : cs.getD i 0 = c) (hn : ns.getD i 0 = n) (h0 : 0 ≤ c) :
    (⟨(flat (rowsN cs ns es i)).toArray⟩ : Str) ++ Str.ofString "." ++ Txt.mul (Str.ofString ".") c ++ ⟨#[sg n]⟩ ++ e = ⟨(flat (rowsN cs ns (fun j => if j = i then e else es j) (i + 1))).toArray⟩ := by
  have e1 : rowsN cs ns (fun j => if j = i then e else es j) (i + 1) = rowsN cs ns es i ++ [(bodyOf c n, endOf e)] := by
    unfold rowsN
    rw [List.range_succ, List.map_append]
    congr 1
    · refine List.map_congr_left fun j hj => ?_
      have : j < i := List.mem_range.mp hj
      unfold rowF
      have hji : ¬ j = i := by omega
      simp only [hji, if_false]
    · show [(bodyOf (cs.getD i 0) (ns.getD i 0), endOf (if i = i then e else es i))] = _
      rw [hc, hn, if_pos rfl]
  rw [e1, flat_append, mul_dots h0, dot_is]
  apply Str.ext'
  apply Array.toList_inj.mp
  simp [Str.cps_append, flat, reps]
structure SentX (cs ns : List Int) (lc ln : Addr) : Prop where
  lc : cs.length = 5
  ln : ns.length = 13
  bc : ∀ j, j < 5 → 0 ≤ cs.getD j 0 ∧ cs.getD j 0 ≤ 9
  bn : ∀ j, j < 5 → 0 ≤ ns.getD j 0 ∧ ns.getD j 0 < 1000000
theorem flat_len (cs ns : List Int) (es : Nat → Str) (hc : ∀ j, j < 5 → 0 ≤ cs.getD j 0 ∧ cs.getD j 0 ≤ 9) : ∀ i, i ≤ 5 → (∀ j, j < i → EndStr (es j)) → (flat (rowsN cs ns es i)).length ≤ 13 * i ∧ (flat (ended (rowsN cs ns es i))).length ≤ 13 * i
  | 0, _, _ => ⟨Nat.le_refl _, Nat.le_refl _⟩
  | i + 1, hi, h => by
    have ih := flat_len cs ns es hc i (by omega) fun j hj => h j (by omega)
    have e1 : rowsN cs ns es (i + 1) = rowsN cs ns es i ++ [rowF cs ns es i] := by unfold rowsN; rw [List.range_succ, List.map_append]; rfl
    have hb : (rowF cs ns es i).1.length ≤ 11 := by
      have := hc i (by omega)
      show (46 :: (List.replicate (cs.getD i 0).toNat 46 ++ [sg (ns.getD i 0)])).length ≤ 11
      simp only [List.length_cons, List.length_append, List.length_replicate, List.length_nil]
      omega
    have he : (rowF cs ns es i).2.length ≤ 2 := by
      show (es i).cps.toList.length ≤ 2
      rcases (h i (by omega)).fin with q | q | q <;> rw [q] <;> decide
    unfold ended at ih ⊢
    rw [e1, List.map_append, flat_append, flat_append, List.length_append, List.length_append]
    have f1 : (flat [rowF cs ns es i]).length = (rowF cs ns es i).1.length + (rowF cs ns es i).2.length := by simp [flat]
    have f2 : (flat ([rowF cs ns es i].map fun r => (r.1, [13, 10]))).length = (rowF cs ns es i).1.length + 2 := by simp [flat]
    rw [f1, f2]
    omega
theorem rows_good {cs ns : List Int} {es : Nat → Str} {i : Nat} (h : ∀ j, j < i → EndStr (es j)) : ∀ r ∈ rowsN cs ns es i, GoodRow r := fun r hr => by
  obtain ⟨j, hj, rfl⟩ := List.mem_map.mp hr
  exact body_good (h j (List.mem_range.mp hj))
theorem page_x {cs ns : List Int} {lc ln : Addr} (X : SentX cs ns lc ln) {es : Nat → Str} (h : ∀ j, j < 5 → EndStr (es j)) : PageX (rowsN cs ns es 5) ⟨(flat (rowsN cs ns es 5)).toArray⟩ := by
  have hl := flat_len cs ns es X.bc 5 (Nat.le_refl _) h
  exact ⟨rfl, rows_good h, by unfold rowsN; simp, by omega, by omega, by unfold rowsN; simp⟩
/-- a body as it came -/
abbrev cameOf (cs ns : List Int) (j : Nat) : Str := ⟨(46 :: bodyOf (cs.getD j 0) (ns.getD j 0)).toArray⟩
theorem came_len (cs ns : List Int) (j : Nat) (h : 0 ≤ cs.getD j 0) : ((cameOf cs ns j).length : Int) = cs.getD j 0 + 3 := by
  show (((46 :: (46 :: (List.replicate (cs.getD j 0).toNat 46 ++ [sg (ns.getD j 0)]))).toArray.size : Nat) : Int) = _
  rw [List.size_toArray, List.length_cons, List.length_cons, List.length_append, List.length_replicate, List.length_singleton]
  omega
theorem split_sent (cs ns : List Int) (es : Nat → Str) : Txt.split (sentText (rowsN cs ns es 5)) (Str.ofString "\r\n") = [cameOf cs ns 0, cameOf cs ns 1, cameOf cs ns 2, cameOf cs ns 3, cameOf cs ns 4, Str.empty] := by
  have e : (rowsN cs ns es 5).map (fun r => (46 :: r.1, [13, 10])) = ([0, 1, 2, 3, 4].map fun j => 46 :: bodyOf (cs.getD j 0) (ns.getD j 0)).map fun b => (b, [13, 10]) := rfl
  unfold sentText
  rw [e, split_rows (by simp) fun b hb => ?_]
  · rfl
  · obtain ⟨j, hj, rfl⟩ := List.mem_map.mp hb
    have := sg_ne (ns.getD j 0)
    simp at this ⊢
    omega
end Mine
end
section
open PySem PySem.W PySem.Calls PyProof.Rows
set_option Elab.async false
set_option maxRecDepth 100000
set_option maxHeartbeats 8000000
set_option pp.deepTerms false
set_option pp.maxSteps 3000
namespace Mine
theorem unr_end {h₀ : Heap} {L I : Addr} {it : Obj} {rest : (Str → Option Value) → List (Addr × Obj) → Prop} {s₁ : Shared} {h' : Heap} {tk : Nat} {m' : Str → Option Value} {all : List (Addr × Obj)} (F : Fr h₀ L h' m') (N : News h₀ L h' all)
    (hI : (I, it) ∈ all) (r : Hold (rest m' [])) : UnrEnd h₀ L s₁ I it rest { s₁ with heap := h', toks := tk } :=
  UnrEnd.intro F N [] (fun p hp => by
    rcases List.mem_cons.mp hp with rfl | hp
    · exact hI
    · cases hp) (fun p hp => by cases hp) r
theorem split6 {prog : Program} {w : World} {A : Around} {E : Value → Shared → Prop} {s : Shared} {h₀ : Heap} {L : Addr} {m : Str → Option Value} {news : List (Addr × Obj)} {x y s0 s1 s2 s3 s4 s5 : Str} {t u : Tok} {Q : Value → Shared → Prop} (hF : Fr h₀ L s.heap m) (hN : News h₀ L s.heap news)
    (e : Txt.split x y = [s0, s1, s2, s3, s4, s5]) (hy : (y.length == 0) = false) (hsz : x.length + 2 ≤ sizeLine)
    (h : ∀ D h' k t0 t1 t2 t3 t4 t5, Fr h₀ L h' m → News h₀ L h' ((D, listOf [Value.str s0 t0, .str s1 t1, .str s2 t2, .str s3 t3, .str s4 t4, .str s5 t5].toArray 0) :: news) → (∀ p ∈ news, p.1 < D) → Q (.ref D) { s with heap := h', toks := k }) :
    wpAny (model prog w) A (call (.builtin "str.split") [.str x t, .str y u]) Q E s := by
  refine splitN1 hF hN hy (fun l h' k hl F N => ?_) hsz
  rw [e] at hl
  have hlt : ∀ p ∈ news, p.1 < s.heap.objs.size := fun p hp => Heap.lt_size (hN p hp).1
  match l, hl with
  | [(a0, t0), (a1, t1), (a2, t2), (a3, t3), (a4, t4), (a5, t5)], hl =>
    simp only [List.map_cons, List.map_nil, List.cons.injEq, and_true] at hl
    obtain ⟨rfl, rfl, rfl, rfl, rfl, rfl⟩ := hl
    exact h _ h' k t0 t1 t2 t3 t4 t5 F N hlt
theorem len_as {prog : Program} {w : World} {A : Around} {E : Value → Shared → Prop} {s : Shared} {x : Str} {t : Tok} {v : Int} {Q : Value → Shared → Prop} (e : ((x.length : Nat) : Int) = v ∧ x.length ≤ 16777216) (h : ∀ t' k', Q (.int v t') { s with toks := k' }) :
    wpAny (model prog w) A (call (.builtin "len") [.str x t]) Q E s := len_writK _ rfl (by have := e.2; omega) (by rw [e.1]; exact h _ _)
theorem done_list {g h' : Heap} {s : Shared} {L d : Addr} {m : Str → Option Value} {news : List (Addr × Obj)} {ys : List Value} {n tk : Nat} {ns : List Int} (F : Fr g L h' m) (N : News g L h' news) (hm : (d, ({ cls := .type "list", data := .seq ys.toArray n } : Obj)) ∈ news) (hi : IntsAre ys ns) :
    Done g s (fun h' v => ∃ d n vs, v = .ref d ∧ g.get? d = none ∧ h'.get? d = some (lstO vs n) ∧ IntsAre vs.toList ns) (.ref d) { s with heap := h', toks := tk } :=
  ⟨h', tk, rfl, F.keep, d, n, ys.toArray, rfl, (N _ hm).2.2, (N _ hm).1, hi⟩
theorem five_plus {cs : List Int} (h : cs.length = 5) : cs.map (· + 1) = [cs.getD 0 0 + 3 - 2, cs.getD 1 0 + 3 - 2, cs.getD 2 0 + 3 - 2, cs.getD 3 0 + 3 - 2, cs.getD 4 0 + 3 - 2] := by
  match cs, h with
  | [a, b, c, d, e], _ =>
    have f : ∀ z : Int, z + 3 - 2 = z + 1 := fun z => by omega
    simp [f]
def SentX.J {cs ns : List Int} {lc ln : Addr} (_ : SentX cs ns lc ln) (i : Nat) (m : Str → Option Value) (nx : List (Addr × Obj)) : Prop :=
  ∃ es t1 b, m = ov (Str.ofString "page") (.str ⟨(flat (rowsN cs ns es i)).toArray⟩ t1) (ov (Str.ofString "counts") (.ref lc) (ov (Str.ofString "numbers") (.ref ln) b)) ∧ nx = [] ∧ ∀ j, j < i → EndStr (es j)
theorem SentX.j_of {cs ns : List Int} {lc ln : Addr} (X : SentX cs ns lc ln) {i : Nat} {m : Str → Option Value} {es : Nat → Str} {t1 : Tok} {x : Str} (h1 : m (Str.ofString "page") = some (.str x t1)) (h2 : m (Str.ofString "counts") = some (.ref lc)) (h3 : m (Str.ofString "numbers") = some (.ref ln))
    (hx : x = ⟨(flat (rowsN cs ns es i)).toArray⟩) (he : ∀ j, j < i → EndStr (es j)) : Hold (X.J i m []) :=
  ⟨es, t1, m, by rw [ov_eq h3, ov_eq h2, ov_eq (hx ▸ h1)], rfl, he⟩
section
local macro_rules | `(tactic| ktr_enter) => `(tactic| (refine' enter ?k1 ?k2 ?k3 ?k5 ?kA ?kF ?kK ?k6 ?k7 ?k8 ?k9 ?kB ?kR ?_ ?c2 ?c3 ?c4 ?c5; (case kA => exact rfl); (case kF => exact rfl); (case kK => assumption); (case k1 => k_asm); (case k2 => k_asm); (case k3 => k_asm); (case k5 => k_asm); (case k6 => k_is); (case k7 => k_is); (case k8 => ktr_room); (case k9 => exact BindsTo.of_eq rfl); (case c5 => decide); (case kB => exact locs rfl); (case c2 => exact rfl); (case c3 => exact rfl); (case c4 => exact rfl); (case kR => assumption); k_whole; intro g' L' h' gE' F' N' B' X' T'; (try dsimp only); (try k_fold)))
local macro_rules | `(tactic| ktr_rel) => `(tactic| ((case u1 => first | k_asm | fail "use: below"); (case u2 => first | k_asm | fail "use: frame"); (case u3 => first | k_asm | fail "use: part"); (case u4 => first | k_asm | fail "use: ledger"); (case u5 => first | k_asm | fail "use: top"); (case u6 => first | exact rfl | assumption | fail "use: kind"); (case u7 => first | ktr_room | fail "use: room"); (case u8 => first | ktr_units | fail "use: units")))
local macro_rules | `(tactic| walk_at "call ref") => `(tactic| (k_here; (with_reducible show wpAny _ _ (call (Value.ref 102) _) _ _ _); (k_dflt (refine' Fn.use (sign_ok ?p1 ?p2) ?u1 ?u2 ?u3 ?u4 ?u5 ?u6 ?u7 ?u8 trivial ?_; (case p1 => first | assumption | omega); (case p2 => first | assumption | omega); ktr_rel)); intro v9 h9 tk9 st9 F9 N9 hp9; (obtain ⟨t9, e9⟩ := hp9; subst e9); (try dsimp only); (try k_sweep); (try k_fold)))
local macro_rules | `(tactic| walk_at "subscriptTail Tuple cons BinOp ref int") => `(tactic| (k_here; (with_reducible show wpAny _ _ (subscriptTail _ _ (Value.ref _) (Value.int _ _)) _ _ _); (k_dflt (refine' Mine.end_item ?k1 ?k2 ?k3 ?_ ?k4; (case k1 => exact ⟨_, (News.get (by assumption) (by k_mem)), rfl, _, rfl⟩); (case k2 => l_idx); (case k3 => l_idx); (case k4 => with_unfolding_all rfl))); intro e' t' hE' hL'))
local macro_rules | `(tactic| walk_at "subscriptTail Name Name ref int") => `(tactic| (k_here; (with_reducible show wpAny _ _ (subscriptTail _ _ (Value.ref _) (Value.int _ _)) _ _ _); (with_unfolding_all refine' Mine.item_at ?k1 ?k2 ?k3 ?k4 ?k5 ?_ ?k6 ?k7; (case k1 => is_list); (case k2 => l_ints); (case k3 => omega); (case k4 => omega); (case k5 => assumption); (case k6 => with_unfolding_all rfl); (case k7 => (intro _; with_unfolding_all rfl))); intro t'))
local macro_rules | `(tactic| walk_at "RangeRest") => `(tactic| (k_here; (rename SentX _ _ _ _ => sX); k_dflt (refine' Mine.range_hold (Mine.SentX.J sX) ?hJ ?turn ?fin)))
local macro_rules | `(tactic| walk_at "UnrEnd") => `(tactic| (k_here; k_dflt (refine' Mine.unr_end ?F ?N ?I ?r; (case F => k_asm); (case N => k_asm); (case I => k_mem))))
local macro_rules | `(tactic| walk_at "call ref") => `(tactic| (k_here; (with_reducible show wpAny _ _ (call (Value.ref 90) _) _ _ _); (k_dflt (refine' Fn.use (quote_ok ?p1) ?u1 ?u2 ?u3 ?u4 ?u5 ?u6 ?u7 ?u8 trivial ?_; (case p1 => assumption); ktr_rel)); intro v9 h9 tk9 st9 F9 N9 hp9; (obtain ⟨t9, e9⟩ := hp9; subst e9); (try dsimp only); (try k_sweep); (try k_fold)))
local macro_rules | `(tactic| walk_at "call builtin:str.split") => `(tactic| (k_here; (k_dflt (refine' Mine.split6 ?F ?N ?e ?y ?z ?_; (case F => k_asm); (case N => k_asm); (case e => assumption); (case y => decide +kernel); (case z => (rw [sizeLine_eq]; omega)))); intro D' h' k' t0 t1 t2 t3 t4 t5 F' N' l1; (try k_lt l1)))
local macro_rules | `(tactic| walk_at "call builtin:len") => `(tactic| (k_here; (k_dflt (refine' Mine.len_as ?e ?_; (case e => assumption))); intro t' k'))
theorem sent_ok {w : World} {mean : ExcName → Option Value} {mg mb : Str → Option Value} {lc ln : Addr} {vc vn : List Value} {cs ns : List Int} (sx : SentX cs ns lc ln) (ic : IntsAre vc cs) (jn : IntsAre vn ns) :
    Fn 8 w mean mg mb 107 [.ref lc, .ref ln] (fun h => h.IsList lc vc.toArray ∧ h.IsList ln vn.toArray) (fun h h' v => ∃ d n vs, v = .ref d ∧ h.get? d = none ∧ h'.get? d = some (lstO vs n) ∧ IntsAre vs.toList (cs.map (· + 1))) := by
  unfold Fn
  k_fill
  intro dp un gd cn cs' a ccd cl outer A₀ base h₀ L m s Q E B F X T hk hd hu hpre hret
  obtain ⟨lcB, lnB⟩ := hpre
  k_dflt ktr_enter
  clear hret
  subst_vars
  k_steps
  case hJ =>
    refine' SentX.j_of (es := fun _ => Str.empty) _ ?p1 ?p2 ?p3 ?p4 (fun j hj => absurd hj (Nat.not_lt_zero _))
    (case p1 => with_unfolding_all rfl)
    (case p2 => with_unfolding_all rfl)
    (case p3 => with_unfolding_all rfl)
    (case p4 => rfl)
  case turn =>
    have sx : SentX cs ns lc ln := by assumption
    unfold Hold
    intro i m₁ news₁ t h tk hi hJ F₁ N₁
    obtain ⟨es, t1, b, rfl, rfl, he⟩ := hJ
    obtain ⟨c, hcv⟩ : ∃ c, cs.getD i 0 = c := ⟨_, rfl⟩
    obtain ⟨n, hnv⟩ : ∃ n, ns.getD i 0 = n := ⟨_, rfl⟩
    have hcb := sx.bc i hi
    have hnb := sx.bn i hi
    rw [hcv] at hcb
    rw [hnv] at hnb
    obtain ⟨hc0, hc9⟩ := hcb
    obtain ⟨hn0, hn9⟩ := hnb
    have hci : cs[((0 : Int) + (i : Int)).toNat]? = some c := by
      rw [show ((0 : Int) + (i : Int)).toNat = i by omega, ← hcv, List.getD_eq_getElem?_getD, List.getElem?_eq_getElem (by rw [sx.lc]; omega)]; rfl
    have hni : ns[((0 : Int) + (i : Int)).toNat]? = some n := by
      rw [show ((0 : Int) + (i : Int)).toNat = i by omega, ← hnv, List.getD_eq_getElem?_getD, List.getElem?_eq_getElem (by rw [sx.ln]; omega)]; rfl
    have hxl : (⟨(flat (rowsN cs ns es i)).toArray⟩ : Str).length ≤ 65 := by
      have := (flat_len cs ns es sx.bc i (by omega) he).1
      show (List.toArray _).size ≤ 65
      rw [List.size_toArray]; omega
    obtain ⟨x, hx⟩ : ∃ x : Str, x = ⟨(flat (rowsN cs ns es i)).toArray⟩ := ⟨_, rfl⟩
    rw [← hx] at F₁ hxl
    k_steps
    refine' SentX.j_of (es := fun j => if j = i then _ else es j) _ ?p1 ?p2 ?p3 ?p4 ?p5
    (case p1 => with_unfolding_all rfl)
    (case p2 => with_unfolding_all rfl)
    (case p3 => with_unfolding_all rfl)
    (case p4 => (rw [hx]; exact page_next hcv hnv hc0))
    (case p5 =>
      intro j hj
      by_cases hji : j = i
      · simp only [hji, if_true]; assumption
      · simp only [hji, if_false]; exact he j (by omega))
  case fin =>
    have sx : SentX cs ns lc ln := by assumption
    unfold Hold
    intro m₁ news₁ h tk hJ F₁ N₁
    obtain ⟨es, t1, b, rfl, rfl, he⟩ := hJ
    have px := page_x sx he
    have hsp := split_sent cs ns es
    have hss : (sentText (rowsN cs ns es 5)).length ≤ 1000 := by
      have hl := (flat_len cs ns es sx.bc 5 (Nat.le_refl _) he).2
      have h2 : (flat ((rowsN cs ns es 5).map fun r => (46 :: r.1, [13, 10]))).length ≤ (flat (ended (rowsN cs ns es 5))).length + 5 := by
        unfold rowsN ended
        simp [flat, List.range_succ]
        omega
      show (List.toArray _).size ≤ 1000
      rw [List.size_toArray]; omega
    have hlen : ∀ j, j < 5 → (((cameOf cs ns j).length : Nat) : Int) = cs.getD j 0 + 3 ∧ (cameOf cs ns j).length ≤ 16777216 := fun j hj => by
      have h1 := came_len cs ns j (sx.bc j hj).1
      have h2 := (sx.bc j hj).2
      exact ⟨h1, by omega⟩
    have l0 := hlen 0 (by decide)
    have l1 := hlen 1 (by decide)
    have l2 := hlen 2 (by decide)
    have l3 := hlen 3 (by decide)
    have l4 := hlen 4 (by decide)
    clear hlen
    k_steps
    rw [five_plus sx.lc]
    exact done_list (by assumption) (by assumption) (by k_mem) (.cons _ _ (.cons _ _ (.cons _ _ (.cons _ _ (.cons _ _ .nil)))))
end
end Mine
end
section
local macro_rules | `(tactic| walk_at "Pad") => `(tactic| fail "pad")
open PySem PySem.W PySem.Calls PyProof.Rows
set_option Elab.async false
set_option maxRecDepth 100000
set_option maxHeartbeats 8000000
set_option pp.deepTerms false
set_option pp.maxSteps 3000
namespace Mine
structure SmallX (cs ns : List Int) (lc ln : Addr) : Prop where
  lc : cs.length = 5
  ln : ns.length = 13
  bc : ∀ j, j < 5 → 0 ≤ cs.getD j 0 ∧ cs.getD j 0 ≤ 10
  bn : ∀ j, j < 5 → 0 ≤ ns.getD j 0 ∧ ns.getD j 0 < 1000000
def SmallX.J {cs ns : List Int} {lc ln : Addr} (_ : SmallX cs ns lc ln) (i : Nat) (m : Str → Option Value) (nx : List (Addr × Obj)) : Prop :=
  ∃ D n ys b, m = ov (Str.ofString "small") (.ref D) (ov (Str.ofString "counts") (.ref lc) (ov (Str.ofString "numbers") (.ref ln) b)) ∧ nx = [(D, ({ cls := .type "list", data := .seq (List.toArray ys) n } : Obj))] ∧ IntsAre ys ((cs.take i).map (· / 6))
theorem SmallX.j_of {cs ns : List Int} {lc ln : Addr} (X : SmallX cs ns lc ln) {i : Nat} {m : Str → Option Value} {D : Addr} {n : Nat} {ys : List Value} (h1 : m (Str.ofString "small") = some (.ref D)) (h2 : m (Str.ofString "counts") = some (.ref lc)) (h3 : m (Str.ofString "numbers") = some (.ref ln))
    (hi : IntsAre ys ((cs.take i).map (· / 6))) : Hold (X.J i m [(D, ({ cls := .type "list", data := .seq ys.toArray n } : Obj))]) :=
  ⟨D, n, ys, m, by rw [ov_eq h3, ov_eq h2, ov_eq h1], rfl, hi⟩
theorem len_five {prog : Program} {w : World} {A : Around} {E : Value → Shared → Prop} {s : Shared} {l : Addr} {vs : List Value} {ns : List Int} {Q : Value → Shared → Prop} (hl : s.heap.IsList l vs.toArray) (hi : IntsAre vs ns) (h5 : ns.length = 5)
    (h : ∀ t' k', Q (.int 5 t') { s with toks := k' }) : wpAny (model prog w) A (call (.builtin "len") [.ref l]) Q E s := by
  have e : vs.toArray.size = 5 := by rw [List.size_toArray, hi.length, h5]
  refine call_len_list hl (by rw [e]; decide) ?_
  rw [e]
  exact h _ _
section
local macro_rules | `(tactic| ktr_enter) => `(tactic| (refine' enter ?k1 ?k2 ?k3 ?k5 ?kA ?kF ?kK ?k6 ?k7 ?k8 ?k9 ?kB ?kR ?_ ?c2 ?c3 ?c4 ?c5; (case kA => exact rfl); (case kF => exact rfl); (case kK => assumption); (case k1 => k_asm); (case k2 => k_asm); (case k3 => k_asm); (case k5 => k_asm); (case k6 => k_is); (case k7 => k_is); (case k8 => ktr_room); (case k9 => exact BindsTo.of_eq rfl); (case c5 => decide); (case kB => exact locs rfl); (case c2 => exact rfl); (case c3 => exact rfl); (case c4 => exact rfl); (case kR => assumption); k_whole; intro g' L' h' gE' F' N' B' X' T'; (try dsimp only); (try k_fold)))
local macro_rules | `(tactic| ktr_rel) => `(tactic| ((case u1 => first | k_asm | fail "use: below"); (case u2 => first | k_asm | fail "use: frame"); (case u3 => first | k_asm | fail "use: part"); (case u4 => first | k_asm | fail "use: ledger"); (case u5 => first | k_asm | fail "use: top"); (case u6 => first | exact rfl | assumption | fail "use: kind"); (case u7 => first | ktr_room | fail "use: room"); (case u8 => first | ktr_units | fail "use: units")))
local macro_rules | `(tactic| walk_at "subscriptTail Name Name ref int") => `(tactic| (k_here; (with_reducible show wpAny _ _ (subscriptTail _ _ (Value.ref _) (Value.int _ _)) _ _ _); (with_unfolding_all refine' Mine.item_at ?k1 ?k2 ?k3 ?k4 ?k5 ?_ ?k6 ?k7; (case k1 => is_list); (case k2 => l_ints); (case k3 => omega); (case k4 => omega); (case k5 => assumption); (case k6 => with_unfolding_all rfl); (case k7 => (intro _; with_unfolding_all rfl))); intro t'))
local macro_rules | `(tactic| walk_at "subscriptTail Name Constant ref int") => `(tactic| (k_here; (with_reducible show wpAny _ _ (subscriptTail _ _ (Value.ref _) (Value.int _ _)) _ _ _); (with_unfolding_all refine' Mine.item_at ?k1 ?k2 ?k3 ?k4 ?k5 ?_ ?k6 ?k7; (case k1 => is_list); (case k2 => l_ints); (case k3 => decide); (case k4 => decide); (case k5 => assumption); (case k6 => with_unfolding_all rfl); (case k7 => (intro _; with_unfolding_all rfl))); intro t'))
local macro_rules | `(tactic| walk_at "RangeRest") => `(tactic| (k_here; (rename SmallX _ _ _ _ => sX); k_dflt (refine' Mine.range_hold (Mine.SmallX.J sX) ?hJ ?turn ?fin)))
local macro_rules | `(tactic| walk_at "call builtin:len") => `(tactic| (k_here; (with_reducible show wpAny _ _ (call (Value.builtin "len") [Value.ref _]) _ _ _); (rename SmallX _ _ _ _ => sX); (with_unfolding_all refine' Mine.len_five ?k1 ?k2 (SmallX.lc sX) ?_; (case k1 => is_list); (case k2 => l_ints)); intro t' k'))
theorem sg34 (n : Int) : sg n ≠ 34 := by
  have := sg_ne n
  simp at this
  omega
theorem ints_append {xs ys : List Value} {as bs : List Int} (h1 : IntsAre xs as) (h2 : IntsAre ys bs) : IntsAre (xs ++ ys) (as ++ bs) := by
  induction h1 with
  | nil => exact h2
  | cons n t _ ih => exact .cons _ _ ih
theorem take_next {cs : List Int} {i : Nat} {c e : Int} (h : cs[i]? = some c) (he : e = c / 6) {ys : List Value} {t : Tok} (hi : IntsAre ys ((cs.take i).map (· / 6))) : IntsAre (ys.toArray.push (.int e t)).toList ((cs.take (i + 1)).map (· / 6)) := by
  subst he
  have e1 : cs.take (i + 1) = cs.take i ++ [c] := by rw [List.take_add_one, h]; rfl
  rw [e1, List.map_append, Array.toList_push]
  exact ints_append hi (.cons _ _ .nil)
local macro_rules | `(tactic| walk_at "call ref") => `(tactic| (k_here; (with_reducible show wpAny _ _ (call (Value.ref 102) _) _ _ _); (k_dflt (refine' Fn.use (sign_ok ?p1 ?p2) ?u1 ?u2 ?u3 ?u4 ?u5 ?u6 ?u7 ?u8 trivial ?_; (case p1 => first | assumption | omega); (case p2 => first | assumption | omega); ktr_rel)); intro v9 h9 tk9 st9 F9 N9 hp9; (obtain ⟨t9, e9⟩ := hp9; subst e9); (try dsimp only); (try k_sweep); (try k_fold)))
local macro_rules | `(tactic| walk_at "call ref") => `(tactic| (k_here; (with_reducible show wpAny _ _ (call (Value.ref 119) _) _ _ _); (k_dflt (refine' Fn.use (cut_ok ?p1 ?p2) ?u1 ?u2 ?u3 ?u4 ?u5 ?u6 ?u7 ?u8 trivial ?_; (case p1 => first | assumption | omega); (case p2 => first | assumption | omega); ktr_rel)); intro v9 h9 tk9 st9 F9 N9 hp9; (obtain ⟨t9, e9⟩ := hp9; subst e9); (try dsimp only); (try k_sweep); (try k_fold)))
local macro_rules | `(tactic| walk_at "call ref") => `(tactic| (k_here; (with_reducible show wpAny _ _ (call (Value.ref 114) _) _ _ _); (k_dflt (refine' Fn.use (read_ok ?p1 ?p2 ?p3) ?u1 ?u2 ?u3 ?u4 ?u5 ?u6 ?u7 ?u8 trivial ?_; (case p1 => first | assumption | omega); (case p2 => first | assumption | omega); (case p3 => exact sg34 _); ktr_rel)); intro v9 h9 tk9 st9 F9 N9 hp9; (obtain ⟨t9, e9⟩ := hp9; subst e9); (try dsimp only); (try k_sweep); (try k_fold)))
theorem append_it {prog : Program} {w : World} {A : Around} {E : Value → Shared → Prop} {s : Shared} {h₀ : Heap} {L I D : Addr} {m : Str → Option Value} {it : Obj} {ys : List Value} {ns : List Int} {n : Nat} {x : Value} {Q : Value → Shared → Prop}
    (F : Fr h₀ L s.heap m) (N : News h₀ L s.heap [(I, it), (D, { cls := .type "list", data := .seq ys.toArray n })]) (hit : it.cls ≠ .type "list") (hi : IntsAre ys ns) (hl : ns.length ≤ 100)
    (h : ∀ h', Fr h₀ L h' m → News h₀ L h' [(I, it), (D, { cls := .type "list", data := .seq (ys.toArray.push x) (n + 1) })] → Q .none { s with heap := h' }) :
    wpAny (model prog w) A (call (.builtin "list.append") [.ref D, x]) Q E s := by
  refine append_second F N (fun e => ?_) (fun p hp => by cases hp) h ?_
  · have h1 := (N _ (.head _)).1
    have h2 := (N _ (.tail _ (.head _))).1
    have e' : I = D := e
    rw [e'] at h1
    rw [h1] at h2
    injection h2 with h2
    exact hit (congrArg Obj.cls h2)
  · rw [List.size_toArray, hi.length, sizeLine_eq]
    omega
local macro_rules | `(tactic| walk_at "call builtin:list.append") => `(tactic| (k_here; (with_reducible show wpAny _ _ (call (Value.builtin _) [Value.ref _, _]) _ _ _); (rename IntsAre _ (List.map _ (List.take _ _)) => hY); (refine' Mine.append_it ?k1 ?k2 ?k3 hY ?k4 ?_; (case k1 => k_asm); (case k2 => assumption); (case k3 => (intro e; injection e with e; exact absurd e (by decide))); (case k4 => (rw [List.length_map, List.length_take]; omega))); intro h' F' N'))
theorem small_ok {w : World} {mean : ExcName → Option Value} {mg mb : Str → Option Value} {lc ln : Addr} {vc vn : List Value} {cs ns : List Int} (sx : SmallX cs ns lc ln) (ic : IntsAre vc cs) (jn : IntsAre vn ns) :
    Fn 12 w mean mg mb 126 [.ref lc, .ref ln] (fun h => h.IsList lc vc.toArray ∧ h.IsList ln vn.toArray) (fun h h' v => ∃ d n vs, v = .ref d ∧ h.get? d = none ∧ h'.get? d = some (lstO vs n) ∧ IntsAre vs.toList (cs.map (· / 6))) := by
  unfold Fn
  k_fill
  intro dp un gd cn cs' a ccd cl outer A₀ base h₀ L m s Q E B F X T hk hd hu hpre hret
  obtain ⟨lcB, lnB⟩ := hpre
  k_dflt ktr_enter
  clear hret
  subst_vars
  k_steps
  case hJ =>
    refine' SmallX.j_of (ys := []) _ ?p1 ?p2 ?p3 .nil
    (case p1 => with_unfolding_all rfl)
    (case p2 => with_unfolding_all rfl)
    (case p3 => with_unfolding_all rfl)
  case turn =>
    have sx : SmallX cs ns lc ln := by assumption
    unfold Hold
    intro i m₁ news₁ t h tk hi hJ F₁ N₁
    obtain ⟨D, n, ys, b, rfl, rfl, hy⟩ := hJ
    obtain ⟨c, hcv⟩ : ∃ c, cs.getD i 0 = c := ⟨_, rfl⟩
    obtain ⟨q, hqv⟩ : ∃ q, ns.getD i 0 = q := ⟨_, rfl⟩
    obtain ⟨z, hzv⟩ : ∃ z, ns.getD 12 0 = z := ⟨_, rfl⟩
    have hcb := sx.bc i hi
    have hnb := sx.bn i hi
    rw [hcv] at hcb
    rw [hqv] at hnb
    obtain ⟨hc0, hc9⟩ := hcb
    obtain ⟨hn0, hn9⟩ := hnb
    have hci : cs[((0 : Int) + (i : Int)).toNat]? = some c := by
      rw [show ((0 : Int) + (i : Int)).toNat = i by omega, ← hcv, List.getD_eq_getElem?_getD, List.getElem?_eq_getElem (by rw [sx.lc]; omega)]; rfl
    have hcv' : cs[i]? = some c := by
      rw [← hcv, List.getD_eq_getElem?_getD, List.getElem?_eq_getElem (by rw [sx.lc]; omega)]; rfl
    have hni : ns[((0 : Int) + (i : Int)).toNat]? = some q := by
      rw [show ((0 : Int) + (i : Int)).toNat = i by omega, ← hqv, List.getD_eq_getElem?_getD, List.getElem?_eq_getElem (by rw [sx.ln]; omega)]; rfl
    have hzi : ns[(12 : Int).toNat]? = some z := by
      rw [show (12 : Int).toNat = 12 from rfl, ← hzv, List.getD_eq_getElem?_getD, List.getElem?_eq_getElem (by rw [sx.ln]; omega)]; rfl
    k_steps
    · refine' SmallX.j_of _ ?p1 ?p2 ?p3 ?p4
      (case p1 => with_unfolding_all rfl)
      (case p2 => with_unfolding_all rfl)
      (case p3 => with_unfolding_all rfl)
      (case p4 => exact take_next hcv' (by omega) (by assumption))
    · refine' SmallX.j_of _ ?p1 ?p2 ?p3 ?p4
      (case p1 => with_unfolding_all rfl)
      (case p2 => with_unfolding_all rfl)
      (case p3 => with_unfolding_all rfl)
      (case p4 => exact take_next hcv' (by omega) (by assumption))
  case fin =>
    have sx : SmallX cs ns lc ln := by assumption
    unfold Hold
    intro m₁ news₁ h tk hJ F₁ N₁
    obtain ⟨D, n, ys, b, rfl, rfl, hy⟩ := hJ
    k_steps
    rw [List.take_of_length_le (by rw [sx.lc]; exact Nat.le_refl _)] at hy
    exact done_list (by assumption) (by assumption) (by k_mem) hy
end
end Mine
end
section
open PySem PySem.W PySem.Calls PyProof.Rows
set_option maxRecDepth 100000
set_option maxHeartbeats 2000000
namespace Mine
/-- a list of pairs of ints -/
def TiesAt (h : Heap) (l : Addr) (ps : List (Int × Int)) : Prop :=
  ∃ vs : List Value, h.IsList l vs.toArray ∧ vs.length = ps.length ∧ ∀ (i : Nat) (v : Value), vs[i]? = some v → ∃ (a : Addr) (lo hi : Int) (t1 t2 : Tok), ps[i]? = some (lo, hi) ∧ v = Value.ref a ∧ IsTup h a #[.int lo t1, .int hi t2]
theorem TiesAt.stays {h h' : Heap} {l : Addr} {ps : List (Int × Int)} (T : TiesAt h l ps) (k : h.StaysIn h') : TiesAt h' l ps := by
  obtain ⟨vs, hl, hn, hv⟩ := T
  refine ⟨vs, hl.at fun o e => k _ _ e, hn, fun i v e => ?_⟩
  obtain ⟨a, lo, hi, t1, t2, e1, e2, e3⟩ := hv i v e
  exact ⟨a, lo, hi, t1, t2, e1, e2, e3.keeps k⟩
section
variable {prog : Program} {w : World} {A : Around} {E : Value → Shared → Prop} {s : Shared} {env : Env} {h₀ : Heap} {target : PySem.Expr} {body : List Stmt} {Q : Flow → Shared → Prop}
/-- what a turn of the loop over the pairs ends with -/
def TieEnd (h₀ : Heap) (L : Addr) (s₁ : Shared) (I : Addr) (it : Obj) (rest : (Str → Option Value) → List (Addr × Obj) → Prop) (f : Flow) (s₂ : Shared) : Prop :=
  match f with
  | .next => UnrEnd h₀ L s₁ I it rest s₂
  | _ => False
theorem TieEnd.of {L I : Addr} {it : Obj} {rest : (Str → Option Value) → List (Addr × Obj) → Prop} {s₁ : Shared} {h' : Heap} {tk : Nat} {m' : Str → Option Value} {all nx : List (Addr × Obj)} (F : Fr h₀ L h' m') (N : News h₀ L h' all)
    (hI : (I, it) ∈ all) (hn : ∀ p ∈ nx, p ∈ all) (ho : ∀ p ∈ nx, p.1 ≠ I) (r : rest m' nx) : TieEnd h₀ L s₁ I it rest .next { s₁ with heap := h', toks := tk } :=
  UnrEnd.intro F N nx (fun p hp => by
    rcases List.mem_cons.mp hp with rfl | hp
    · exact hI
    · exact hn p hp) ho r
theorem ties_hold {l : Addr} {ps : List (Int × Int)} {m : Str → Option Value} {news : List (Addr × Obj)} (hh : A.handled = none) (T : TiesAt h₀ l ps) (F : Fr h₀ env.locals s.heap m) (N : News h₀ env.locals s.heap news)
    (J : Nat → (Str → Option Value) → List (Addr × Obj) → Prop) (hJ : Hold (J 0 m news))
    (turn : Hold (∀ i a lo hi t1 t2 m₁ news₁ I it (s₁ : Shared), ps[i]? = some (lo, hi) → IsTup h₀ a #[.int lo t1, .int hi t2] → it.cls = .type "list_iterator" → (∀ p ∈ news₁, p.1 ≠ I) → J i m₁ news₁ → Fr h₀ env.locals s₁.heap m₁ → News h₀ env.locals s₁.heap ((I, it) :: news₁) →
      wpAny (model prog w) A (assign target env (.ref a)) (fun _ s₃ => wpAny (model prog w) A (execs body env) (TieEnd h₀ env.locals s₁ I it (J (i + 1))) E s₃) E s₁))
    (fin : Hold (∀ m₁ news₁ h tk, J ps.length m₁ news₁ → Fr h₀ env.locals h m₁ → News h₀ env.locals h news₁ → Q .next { s with heap := h, toks := tk })) :
    wpAny (model prog w) A (pyIter (.ref l)) (fun it s₂ => LoopAtT prog w A h₀ env target body Q E it s₂) E s := by
  obtain ⟨vs, hl, hn, hv⟩ := T
  have hls : s.heap.IsList l vs.toArray := hl.at fun o e => F.keep l o e
  obtain ⟨ol, hol, _⟩ := id hl
  have hlt : l < h₀.objs.size := Heap.lt_size hol
  have hne : l ≠ s.heap.objs.size := Nat.ne_of_lt (Nat.lt_trans (Nat.lt_of_lt_of_le hlt F.above) F.ns.lt)
  refine wpAny_pyIter_list hls ?_
  have W := Walks.list (prog := prog) (w := w) hh s.heap.objs.size l hne vs.toArray
  have hlen : vs.toArray.size = ps.length := by simp [hn]
  rw [hlen] at W
  have hnew := next_is_new F
  refine ⟨_, _, _, ps.length, _, _, m, news, J, rfl, W, ?_, ?_, ?_, ⟨⟨_, Heap.get?_push_size _ rfl, rfl, rfl⟩, hls.at fun o e => Heap.get?_push_of_some _ e⟩, F.push _, (fun p hp => ⟨Heap.get?_push_of_some _ (N p hp).1, (N p hp).2⟩), (fun i s' v Q' st hQ' => letGo_listiter st.1 hQ'), hJ, ?_, ?_⟩
  · intro hm
    rcases List.mem_cons.mp hm with e | hm
    · exact absurd F.ns.lt (e ▸ Nat.lt_irrefl _)
    · exact absurd (Nat.lt_of_lt_of_le hlt F.above) ((List.mem_singleton.mp hm) ▸ Nat.lt_irrefl _)
  · intro b hb
    rw [List.mem_singleton.mp hb]
    exact hnew
  · intro p hp hI
    exact absurd (Heap.lt_size (N p hp).1) ((List.mem_singleton.mp hI) ▸ Nat.lt_irrefl _)
  · intro i v m₁ news₁ s₁ own hin hP hJ₁ hoff hown hget hall hst F₁ N₁
    obtain ⟨a, lo, hi, t1, t2, e1, rfl, e3⟩ := hv i v (by simpa using hP)
    obtain ⟨it, hit, hic, hid⟩ := hst.1
    have hmemI := hall s.heap.objs.size (List.mem_cons_self ..) hnew _ hit
    have N₂ : News h₀ env.locals s₁.heap ((s.heap.objs.size, it) :: news₁) := fun p hp => by
      rcases List.mem_cons.mp hp with rfl | hp
      · exact N₁ _ (List.mem_append_left _ hmemI)
      · exact N₁ _ (List.mem_append_right _ hp)
    have e3' : IsTup h₀ a #[.int lo t1, .int hi t2] := e3
    refine wpAny_mono (turn i a lo hi t1 t2 m₁ news₁ s.heap.objs.size it s₁ e1 e3' hic (fun p hp e => hoff p hp (by rw [e]; exact .head _)) hJ₁ F₁ N₂) (fun _ s₃ h₃ => wpAny_mono h₃ (fun f s₂ p => ?_) fun _ _ e => e) fun _ _ e => e
    cases f with
    | ret v => exact p.elim
    | brk => exact p.elim
    | cont => exact p.elim
    | next =>
      obtain ⟨h', tk, m', news', e, F', N', ho, r⟩ := p
      refine ⟨rfl, h', tk, m', news', e, F', fun p hp => ?_, fun p hp hI => ho p hp (List.mem_singleton.mp hI), r⟩
      rcases List.mem_append.mp hp with hp | hp
      · have h2 : s₁.heap.get? p.1 = some p.2 := hget p hp
        rcases List.mem_cons.mp (hown p hp) with h1 | h1
        · have h3 : p = (s.heap.objs.size, it) := by
            rw [h1, hit] at h2
            exact Prod.ext h1 (Option.some.inj h2).symm
          rw [h3]; exact N' _ (List.mem_cons_self ..)
        · have h1' : p.1 = l := List.mem_singleton.mp h1
          have hnone := (N₁ p (List.mem_append_left _ hp)).2.2
          rw [h1', hol] at hnone
          cases hnone
      · exact N' _ (List.mem_cons_of_mem _ hp)
  · intro h' tk m' news' F' N' _ hJ'
    exact fin m' news' h' tk hJ' F' N'
end
end Mine
end
section
open PySem PySem.W PySem.Calls PyProof.Rows
set_option Elab.async false
set_option maxRecDepth 100000
set_option maxHeartbeats 8000000
set_option pp.deepTerms false
set_option pp.maxSteps 3000
namespace Mine
structure TieX (cs : List Int) (ps : List (Int × Int)) : Prop where
  lc : cs.length = 5
  bp : ∀ (i : Nat) (lo hi : Int), ps[i]? = some (lo, hi) → 0 ≤ lo ∧ lo < 5 ∧ 0 ≤ hi ∧ hi < 5
def tieStep (σ : List Int × Int) (p : Int × Int) : List Int × Int :=
  if σ.1.getD p.2.toNat 0 < σ.1.getD p.1.toNat 0 then ((σ.1.set p.1.toNat (σ.1.getD p.2.toNat 0)).set p.2.toNat (σ.1.getD p.1.toNat 0), σ.2 + 1) else σ
def dueStep (σ : List Int × Int) (p : Int × Int) : List Int × Int :=
  ((σ.1.set p.1.toNat (min (σ.1.getD p.1.toNat 0) (σ.1.getD p.2.toNat 0))).set p.2.toNat (max (σ.1.getD p.1.toNat 0) (σ.1.getD p.2.toNat 0)), σ.2 + σ.1.getD p.1.toNat 0 - min (σ.1.getD p.1.toNat 0) (σ.1.getD p.2.toNat 0))
abbrev Step := List Int × Int → Int × Int → List Int × Int
def TieX.J {cs : List Int} {ps : List (Int × Int)} (_ : TieX cs ps) (f : Step) (i : Nat) (m : Str → Option Value) (nx : List (Addr × Obj)) : Prop :=
  ∃ D n ys t ls ch b, m = ov (Str.ofString "lines") (.ref D) (ov (Str.ofString "changes") (.int ch t) b) ∧ nx = [(D, ({ cls := .type "list", data := .seq (List.toArray ys) n } : Obj))] ∧ IntsAre ys ls ∧ ls.length = 5 ∧ (ls, ch) = (ps.take i).foldl f (cs, 0)
theorem TieX.j_of {cs : List Int} {ps : List (Int × Int)} (X : TieX cs ps) {f : Step} {i : Nat} {m : Str → Option Value} {D : Addr} {n : Nat} {ys : List Value} {ls : List Int} {ch : Int} {t : Tok} (h1 : m (Str.ofString "lines") = some (.ref D)) (h2 : m (Str.ofString "changes") = some (.int ch t))
    (hi : IntsAre ys ls) (hl : ls.length = 5) (he : (ls, ch) = (ps.take i).foldl f (cs, 0)) : Hold (X.J f i m [(D, ({ cls := .type "list", data := .seq ys.toArray n } : Obj))]) :=
  ⟨D, n, ys, t, ls, ch, m, by rw [ov_eq h2, ov_eq h1], rfl, hi, hl, he⟩
theorem ints_set {c : Int} {u : Tok} : ∀ {vs : List Value} {ns : List Int}, IntsAre vs ns → ∀ k : Nat, IntsAre (vs.set k (.int c u)) (ns.set k c)
  | _, _, .nil, _ => .nil
  | _, _, .cons _ _ h, 0 => .cons c u h
  | _, _, .cons a t h, k + 1 => .cons a t (ints_set h k)
theorem set_it {prog : Program} {w : World} {A : Around} {E : Value → Shared → Prop} {s : Shared} {h₀ : Heap} {L I D : Addr} {m : Str → Option Value} {it : Obj} {ys : List Value} {ls : List Int} {n : Nat} {k c : Int} {t u : Tok} {Q : Unit → Shared → Prop}
    (F : Fr h₀ L s.heap m) (N : News h₀ L s.heap [(I, it), (D, { cls := .type "list", data := .seq ys.toArray n })]) (hap : D ≠ I) (hi : IntsAre ys ls) (hl : ls.length = 5) (h0 : 0 ≤ k) (h1 : k < 5)
    (h : ∀ h', Fr h₀ L h' m → News h₀ L h' [(I, it), (D, { cls := .type "list", data := .seq (ys.set k.toNat (.int c u)).toArray n })] → IntsAre (ys.set k.toNat (.int c u)) (ls.set k.toNat c) → (ls.set k.toNat c).length = 5 → Q () { s with heap := h' }) :
    wpAny (model prog w) A (setItem (.ref D) (.int k t) (.int c u)) Q E s := by
  have z := N _ (.tail _ (.head _))
  have hs : ys.toArray.size = 5 := by rw [List.size_toArray, hi.length, hl]
  refine ki_setAt z.1 h0 (by omega) (by omega) (h _ (F.change (Heap.SameBut.update ..) z.2.1 z.2.2) (ki_turn (pre := [(I, it)]) (post := []) _ N (fun p hp => by rw [List.mem_singleton.mp hp]; exact Ne.symm hap) (fun p hp => by cases hp) ?_ ?_) (ints_set hi _) (by rw [List.length_set, hl]))
  · show ys.toArray.setIfInBounds k.toNat (.int c u) = (ys.set k.toNat (.int c u)).toArray
    apply Array.toList_inj.mp
    simp
  · simp
theorem tie_end {cs : List Int} {ps : List (Int × Int)} {X : TieX cs ps} {f : Step} {i : Nat} {h₀ h' : Heap} {L I D : Addr} {s₁ : Shared} {tk n : Nat} {m : Str → Option Value} {it : Obj} {ys : List Value} {ls : List Int} {ch : Int} {t : Tok}
    (F : Fr h₀ L h' m) (N : News h₀ L h' [(I, it), (D, { cls := .type "list", data := .seq ys.toArray n })]) (hap : D ≠ I) (h1 : m (Str.ofString "lines") = some (.ref D)) (h2 : m (Str.ofString "changes") = some (.int ch t))
    (hi : IntsAre ys ls) (hl : ls.length = 5) (he : (ls, ch) = (ps.take i).foldl f (cs, 0)) : TieEnd h₀ L s₁ I it (X.J f i) .next { s₁ with heap := h', toks := tk } :=
  TieEnd.of F N (.head _) (nx := [(D, ({ cls := .type "list", data := .seq ys.toArray n } : Obj))]) (fun p hp => by rw [List.mem_singleton.mp hp]; exact .tail _ (.head _)) (fun p hp => by rw [List.mem_singleton.mp hp]; exact hap) (X.j_of h1 h2 hi hl he)
theorem fold_next {f : Step} {ps : List (Int × Int)} {i : Nat} {p : Int × Int} {σ₀ σ : List Int × Int} (hp : ps[i]? = some p) (h : σ = (ps.take i).foldl f σ₀) : (ps.take (i + 1)).foldl f σ₀ = f σ p := by
  have e : ps.take (i + 1) = ps.take i ++ [p] := by rw [List.take_add_one, hp]; rfl
  rw [e, List.foldl_append, ← h]
  rfl
theorem tie_yes {ps : List (Int × Int)} {i : Nat} {lo hi x y : Int} {cs ls : List Int} {ch : Int} (hp : ps[i]? = some (lo, hi)) (h : (ls, ch) = (ps.take i).foldl tieStep (cs, 0)) (hx : ls.getD lo.toNat 0 = x) (hy : ls.getD hi.toNat 0 = y) (hlt : y < x) :
    ((ls.set lo.toNat y).set hi.toNat x, ch + 1) = (ps.take (i + 1)).foldl tieStep (cs, 0) := by
  rw [fold_next hp h]
  unfold tieStep
  simp only [hx, hy, hlt, if_true]
theorem tie_no {ps : List (Int × Int)} {i : Nat} {lo hi x y : Int} {cs ls : List Int} {ch : Int} (hp : ps[i]? = some (lo, hi)) (h : (ls, ch) = (ps.take i).foldl tieStep (cs, 0)) (hx : ls.getD lo.toNat 0 = x) (hy : ls.getD hi.toNat 0 = y) (hlt : ¬ y < x) :
    (ls, ch) = (ps.take (i + 1)).foldl tieStep (cs, 0) := by
  rw [fold_next hp h]
  unfold tieStep
  simp only [hx, hy, hlt, if_false]
theorem due_go {ps : List (Int × Int)} {i : Nat} {lo hi x y a b c : Int} {cs ls : List Int} {ch : Int} (hp : ps[i]? = some (lo, hi)) (h : (ls, ch) = (ps.take i).foldl dueStep (cs, 0)) (hx : ls.getD lo.toNat 0 = x) (hy : ls.getD hi.toNat 0 = y) (ha : a = min x y) (hb : b = max x y) (hc : c = ch + x - a) :
    ((ls.set lo.toNat a).set hi.toNat b, c) = (ps.take (i + 1)).foldl dueStep (cs, 0) := by
  subst ha hb hc
  rw [fold_next hp h]
  unfold dueStep
  simp only [hx, hy]
section
local macro_rules | `(tactic| walk_at "setItem ref int int") => `(tactic| (k_here; (with_reducible show wpAny _ _ (PySem.setItem (Value.ref _) (Value.int _ _) (Value.int _ _)) _ _ _); k_dflt (refine' Mine.set_it ?F ?N ?a ?hi ?hl ?h0 ?h1 ?_; (case F => k_asm); (case N => k_asm); (case a => assumption); (case hi => assumption); (case hl => assumption); (case h0 => omega); (case h1 => omega)); intro h' F' N' hY hL))
local macro_rules | `(tactic| ktr_enter) => `(tactic| (refine' enter ?k1 ?k2 ?k3 ?k5 ?kA ?kF ?kK ?k6 ?k7 ?k8 ?k9 ?kB ?kR ?_ ?c2 ?c3 ?c4 ?c5; (case kA => exact rfl); (case kF => exact rfl); (case kK => assumption); (case k1 => k_asm); (case k2 => k_asm); (case k3 => k_asm); (case k5 => k_asm); (case k6 => k_is); (case k7 => k_is); (case k8 => ktr_room); (case k9 => exact BindsTo.of_eq rfl); (case c5 => decide); (case kB => exact locs rfl); (case c2 => exact rfl); (case c3 => exact rfl); (case c4 => exact rfl); (case kR => assumption); k_whole; intro g' L' h' gE' F' N' B' X' T'; (try dsimp only); (try k_fold)))
local macro_rules | `(tactic| ktr_rel) => `(tactic| ((case u1 => first | k_asm | fail "use: below"); (case u2 => first | k_asm | fail "use: frame"); (case u3 => first | k_asm | fail "use: part"); (case u4 => first | k_asm | fail "use: ledger"); (case u5 => first | k_asm | fail "use: top"); (case u6 => first | exact rfl | assumption | fail "use: kind"); (case u7 => first | ktr_room | fail "use: room"); (case u8 => first | ktr_units | fail "use: units")))
local macro_rules | `(tactic| walk_at "subscriptTail Name Name ref int") => `(tactic| (k_here; (with_reducible show wpAny _ _ (subscriptTail _ _ (Value.ref _) (Value.int _ _)) _ _ _); (with_unfolding_all refine' Mine.item_at ?k1 ?k2 ?k3 ?k4 ?k5 ?_ ?k6 ?k7; (case k1 => is_list); (case k2 => l_ints); (case k3 => omega); (case k4 => omega); (case k5 => assumption); (case k6 => with_unfolding_all rfl); (case k7 => (intro _; with_unfolding_all rfl))); intro t'))
local macro_rules | `(tactic| walk_at "exec For Tuple Name cons nil") => `(tactic| (k_here; (rename Fr _ _ _ _ => lF'); (with_unfolding_all refine' For_invTF lF' ?_ ?hs ?hE); (case hs => (intro _; rfl)); (case hE => with_unfolding_all passes_own); k_whole))
local macro_rules | `(tactic| walk_at "pyIter ref") => `(tactic| (k_here; (rename TieX _ _ => sX); k_dflt (refine' Mine.ties_hold ?hh ?T ?F ?N (Mine.TieX.J sX Mine.tieStep) ?hJ ?turn ?fin; (case hh => exact rfl); (case T => assumption); (case F => k_asm); (case N => k_asm))))
theorem ist_ok {w : World} {mean : ExcName → Option Value} {mg mb : Str → Option Value} {x : Int} {t : Tok} :
    Fn 4 w mean mg mb 41 [.int x t] (fun _ => True) (fun _ _ v => v = .bool (decide (x < 256))) := by
  unfold Fn
  k_fill
  intro dp un gd cn cs a ccd cl outer A₀ base h₀ L m s Q E B F X T hk hd hu hpre hret
  k_dflt ktr_enter
  clear hret
  k_steps
  exact ⟨_, _, rfl, Fr.keep (by assumption), rfl⟩
local macro_rules | `(tactic| walk_at "call ref") => `(tactic| (k_here; (with_reducible show wpAny _ _ (call (Value.ref 41) _) _ _ _); (k_dflt (refine' Fn.use ist_ok ?u1 ?u2 ?u3 ?u4 ?u5 ?u6 ?u7 ?u8 trivial ?_; ktr_rel)); intro v9 h9 tk9 st9 F9 N9 hp9; (subst hp9); (try dsimp only); (try k_sweep); (try k_fold)))
theorem tied_ok {w : World} {mean : ExcName → Option Value} {mg mb : Str → Option Value} {lc lt : Addr} {vc : List Value} {cs : List Int} {ps : List (Int × Int)} (tx : TieX cs ps) (ic : IntsAre vc cs) :
    Fn 12 w mean mg mb 138 [.ref lc, .ref lt] (fun h => h.IsList lc vc.toArray ∧ TiesAt h lt ps) (fun h h' v => ∃ d n vs, v = .ref d ∧ h.get? d = none ∧ h'.get? d = some (lstO vs n) ∧ IntsAre vs.toList ((ps.foldl tieStep (cs, 0)).1 ++ [(ps.foldl tieStep (cs, 0)).2])) := by
  have h5 := tx.lc
  match cs, h5, ic, tx with
  | [c0, c1, c2, c3, c4], _, ic, tx =>
  obtain _ | ⟨_, t0, ic⟩ := ic
  obtain _ | ⟨_, t1, ic⟩ := ic
  obtain _ | ⟨_, t2, ic⟩ := ic
  obtain _ | ⟨_, t3, ic⟩ := ic
  obtain _ | ⟨_, t4, ic⟩ := ic
  obtain _ | _ := ic
  unfold Fn
  k_fill
  intro dp un gd cn cs' a ccd cl outer A₀ base h₀ L m s Q E B F X T hk hd hu hpre hret
  obtain ⟨lcB, ltB⟩ := hpre
  k_dflt ktr_enter
  clear hret
  subst_vars
  k_steps
  case hJ =>
    refine' TieX.j_of (ls := [c0, c1, c2, c3, c4]) _ ?p1 ?p2 ?p3 rfl rfl
    (case p1 => with_unfolding_all rfl)
    (case p2 => with_unfolding_all rfl)
    (case p3 => exact .cons _ _ (.cons _ _ (.cons _ _ (.cons _ _ (.cons _ _ .nil)))))
  case turn =>
    have sx : TieX [c0, c1, c2, c3, c4] ps := by assumption
    clear ltB
    unfold Hold
    intro i a lo hi t1 t2 m₁ news₁ I it s₁ hp ta hit hap hJ F₁ N₁
    obtain ⟨D, n, ys, t, ls, ch, b, rfl, rfl, hy, hl, hf⟩ := hJ
    obtain ⟨b1, b2, b3, b4⟩ := sx.bp i lo hi hp
    obtain ⟨x, hx⟩ : ∃ x, ls.getD lo.toNat 0 = x := ⟨_, rfl⟩
    obtain ⟨y, hyv⟩ : ∃ y, ls.getD hi.toNat 0 = y := ⟨_, rfl⟩
    have hlx : ls[lo.toNat]? = some x := by
      rw [← hx, List.getD_eq_getElem?_getD, List.getElem?_eq_getElem (by rw [hl]; omega)]; rfl
    have hly : ls[hi.toNat]? = some y := by
      rw [← hyv, List.getD_eq_getElem?_getD, List.getElem?_eq_getElem (by rw [hl]; omega)]; rfl
    have hDI : D ≠ I := hap _ (.head _)
    k_steps
    · refine' tie_end ?e1 ?e2 ?e3 ?e4 ?e5 ?e6 ?e7 (tie_yes hp hf hx hyv (by omega))
      (case e1 => k_asm)
      (case e2 => k_asm)
      (case e3 => assumption)
      (case e4 => with_unfolding_all rfl)
      (case e5 => with_unfolding_all rfl)
      (case e6 => assumption)
      (case e7 => assumption)
    · refine' tie_end ?e1 ?e2 ?e3 ?e4 ?e5 ?e6 ?e7 (tie_no hp hf hx hyv (by omega))
      (case e1 => k_asm)
      (case e2 => k_asm)
      (case e3 => assumption)
      (case e4 => with_unfolding_all rfl)
      (case e5 => with_unfolding_all rfl)
      (case e6 => assumption)
      (case e7 => assumption)
  case fin =>
    unfold Hold
    intro m₁ news₁ h tk hJ F₁ N₁
    obtain ⟨D, n, ys, t, ls, ch, b, rfl, rfl, hy, hl, hf⟩ := hJ
    rw [List.take_length] at hf
    match ls, hl, hy with
    | [d0, d1, d2, d3, d4], _, hy =>
    obtain _ | ⟨_, u0, hy⟩ := hy
    obtain _ | ⟨_, u1, hy⟩ := hy
    obtain _ | ⟨_, u2, hy⟩ := hy
    obtain _ | ⟨_, u3, hy⟩ := hy
    obtain _ | ⟨_, u4, hy⟩ := hy
    obtain _ | _ := hy
    k_steps
    exact done_list (by assumption) (by assumption) (by k_mem) (by rw [← hf]; exact .cons _ _ (.cons _ _ (.cons _ _ (.cons _ _ (.cons _ _ (.cons _ _ .nil))))))
local macro_rules | `(tactic| walk_at "pyIter ref") => `(tactic| (k_here; (rename TieX _ _ => sX); k_dflt (refine' Mine.ties_hold ?hh ?T ?F ?N (Mine.TieX.J sX Mine.dueStep) ?hJ ?turn ?fin; (case hh => exact rfl); (case T => assumption); (case F => k_asm); (case N => k_asm))))
theorem due_ok {w : World} {mean : ExcName → Option Value} {mg mb : Str → Option Value} {lc lt : Addr} {vc : List Value} {cs : List Int} {ps : List (Int × Int)} (tx : TieX cs ps) (ic : IntsAre vc cs) :
    Fn 12 w mean mg mb 145 [.ref lc, .ref lt] (fun h => h.IsList lc vc.toArray ∧ TiesAt h lt ps) (fun h h' v => ∃ d n vs, v = .ref d ∧ h.get? d = none ∧ h'.get? d = some (lstO vs n) ∧ IntsAre vs.toList ((ps.foldl dueStep (cs, 0)).1 ++ [(ps.foldl dueStep (cs, 0)).2])) := by
  have h5 := tx.lc
  match cs, h5, ic, tx with
  | [c0, c1, c2, c3, c4], _, ic, tx =>
  obtain _ | ⟨_, t0, ic⟩ := ic
  obtain _ | ⟨_, t1, ic⟩ := ic
  obtain _ | ⟨_, t2, ic⟩ := ic
  obtain _ | ⟨_, t3, ic⟩ := ic
  obtain _ | ⟨_, t4, ic⟩ := ic
  obtain _ | _ := ic
  unfold Fn
  k_fill
  intro dp un gd cn cs' a ccd cl outer A₀ base h₀ L m s Q E B F X T hk hd hu hpre hret
  obtain ⟨lcB, ltB⟩ := hpre
  k_dflt ktr_enter
  clear hret
  subst_vars
  k_steps
  case hJ =>
    refine' TieX.j_of (ls := [c0, c1, c2, c3, c4]) _ ?p1 ?p2 ?p3 rfl rfl
    (case p1 => with_unfolding_all rfl)
    (case p2 => with_unfolding_all rfl)
    (case p3 => exact .cons _ _ (.cons _ _ (.cons _ _ (.cons _ _ (.cons _ _ .nil)))))
  case turn =>
    have sx : TieX [c0, c1, c2, c3, c4] ps := by assumption
    clear ltB
    unfold Hold
    intro i a lo hi t1 t2 m₁ news₁ I it s₁ hp ta hit hap hJ F₁ N₁
    obtain ⟨D, n, ys, t, ls, ch, b, rfl, rfl, hy, hl, hf⟩ := hJ
    obtain ⟨b1, b2, b3, b4⟩ := sx.bp i lo hi hp
    obtain ⟨x, hx⟩ : ∃ x, ls.getD lo.toNat 0 = x := ⟨_, rfl⟩
    obtain ⟨y, hyv⟩ : ∃ y, ls.getD hi.toNat 0 = y := ⟨_, rfl⟩
    have hlx : ls[lo.toNat]? = some x := by
      rw [← hx, List.getD_eq_getElem?_getD, List.getElem?_eq_getElem (by rw [hl]; omega)]; rfl
    have hly : ls[hi.toNat]? = some y := by
      rw [← hyv, List.getD_eq_getElem?_getD, List.getElem?_eq_getElem (by rw [hl]; omega)]; rfl
    have hDI : D ≠ I := hap _ (.head _)
    k_steps
    refine' tie_end ?e1 ?e2 ?e3 ?e4 ?e5 ?e6 ?e7 (due_go hp hf hx hyv ?a1 ?a2 ?a3)
    (case e1 => k_asm)
    (case e2 => k_asm)
    (case e3 => assumption)
    (case e4 => with_unfolding_all rfl)
    (case e5 => with_unfolding_all rfl)
    (case e6 => assumption)
    (case e7 => assumption)
    (case a1 => (split <;> omega))
    (case a2 => (split <;> omega))
    (case a3 => rfl)
  case fin =>
    unfold Hold
    intro m₁ news₁ h tk hJ F₁ N₁
    obtain ⟨D, n, ys, t, ls, ch, b, rfl, rfl, hy, hl, hf⟩ := hJ
    rw [List.take_length] at hf
    match ls, hl, hy with
    | [d0, d1, d2, d3, d4], _, hy =>
    obtain _ | ⟨_, u0, hy⟩ := hy
    obtain _ | ⟨_, u1, hy⟩ := hy
    obtain _ | ⟨_, u2, hy⟩ := hy
    obtain _ | ⟨_, u3, hy⟩ := hy
    obtain _ | ⟨_, u4, hy⟩ := hy
    obtain _ | _ := hy
    k_steps
    exact done_list (by assumption) (by assumption) (by k_mem) (by rw [← hf]; exact .cons _ _ (.cons _ _ (.cons _ _ (.cons _ _ (.cons _ _ (.cons _ _ .nil))))))
end
end Mine
end
section
open PySem PySem.W PySem.Calls PyProof.Rows
set_option Elab.async false
set_option maxRecDepth 100000
set_option maxHeartbeats 8000000
set_option pp.deepTerms false
set_option pp.maxSteps 3000
namespace Mine
def dfl : List Int := [1756, 901, 1097, 2166, 597, 20, 22, 5, 6, 1, 3, 4, 0]
def numF (ns : List Int) : List Int := (ns.take 13).map (· % 1000000) ++ dfl.drop (ns.take 13).length
theorem numF_len (ns : List Int) : (numF ns).length = 13 := by
  unfold numF
  have h : (ns.take 13).length ≤ 13 := by rw [List.length_take]; omega
  rw [List.length_append, List.length_map, List.length_drop]
  show _ + (13 - _) = 13
  omega
theorem numF_is (ns : List Int) : (ns.take 13).map (fun k => k.fmod 1000000) ++ dfl.drop (((((ns.take 13).map fun k => k.fmod 1000000).length : Nat) : Int)).toNat = numF ns := by
  unfold numF
  rw [List.length_map, Int.toNat_natCast]
  congr 1
  exact List.map_congr_left fun k _ => Int.fmod_eq_emod_of_nonneg _ (by decide)
section
local macro_rules | `(tactic| walk_at "subscriptTail Name Slice ref ref") => `(tactic| (k_here; k_dflt (refine' PySem.W.kmk_slice_ints ?F ?N ?l ?p ?q ?i ?m rfl ?_ ?s ?t ?z; (case F => k_asm); (case N => k_asm); (case l => kmk_list); (case p => kmk_part); (case q => kmk_part); (case i => l_ints); (case m => first | exact PySem.W.kmk_from (by l_ints) (Int.natCast_nonneg _) | exact PySem.W.kmk_upto (by l_ints) (by decide)); (case s => with_unfolding_all rfl); (case t => (intro _; with_unfolding_all rfl)); (case z => kmk_size)); intro D' ws' h' F' N' l1 hI' _ hL'; (try simp only [Int.reduceNeg, Int.neg_neg, Int.reduceToNat] at hI' hL'); (try k_lt l1); (try k_sweep)))
local macro_rules | `(tactic| ktr_enter) => `(tactic| (refine' enter ?k1 ?k2 ?k3 ?k5 ?kA ?kF ?kK ?k6 ?k7 ?k8 ?k9 ?kB ?kR ?_ ?c2 ?c3 ?c4 ?c5; (case kA => exact rfl); (case kF => exact rfl); (case kK => assumption); (case k1 => k_asm); (case k2 => k_asm); (case k3 => k_asm); (case k5 => k_asm); (case k6 => k_is); (case k7 => k_is); (case k8 => ktr_room); (case k9 => exact BindsTo.of_eq rfl); (case c5 => decide); (case kB => exact locs rfl); (case c2 => exact rfl); (case c3 => exact rfl); (case c4 => exact rfl); (case kR => assumption); k_whole; intro g' L' h' gE' F' N' B' X' T'; (try dsimp only); (try k_fold)))
theorem num_ok {w : World} {mean : ExcName → Option Value} {mg mb : Str → Option Value} {l : Addr} {vs : List Value} {ns : List Int} (hi : IntsAre vs ns) (hn : ns.length ≤ 63) :
    Fn 4 w mean mg mb 95 [.ref l] (fun h => h.IsList l vs.toArray) (fun h h' v => ∃ d n vs, v = .ref d ∧ h.get? d = none ∧ h'.get? d = some (lstO vs n) ∧ IntsAre vs.toList (numF ns)) := by
  unfold Fn
  k_fill
  intro dp un gd cn cs a ccd cl outer A₀ base h₀ L m s Q E B F X T hk hd hu hpre hret
  k_dflt ktr_enter
  clear hret
  subst_vars
  k_steps
  exact done_list (by assumption) (by assumption) (by k_mem) (by rw [← numF_is]; assumption)
end
end Mine
end
section
open PySem PySem.W PySem.Calls PyProof.Rows
set_option Elab.async false
set_option maxRecDepth 100000
set_option maxHeartbeats 8000000
set_option pp.deepTerms false
set_option pp.maxSteps 3000
namespace Mine
def tieOf (n : Int) : Int × Int := (n.fmod 5, (n + 1 + (n.fdiv 5).fmod 4).fmod 5)
def tiesF (ns : List Int) : List (Int × Int) := ((ns.drop 5).take 7).map tieOf
/-- the pairs with what holds them -/
inductive TieEnts (ents : List (Addr × Obj)) : List Value → List (Int × Int) → Prop
  | nil : TieEnts ents [] []
  | cons {a : Addr} {lo hi : Int} {t1 t2 : Tok} {k : Nat} {vs : List Value} {ps : List (Int × Int)} : (a, tupO #[.int lo t1, .int hi t2] k) ∈ ents → TieEnts ents vs ps → TieEnts ents (.ref a :: vs) ((lo, hi) :: ps)
theorem TieEnts.at {ents : List (Addr × Obj)} {vs : List Value} {ps : List (Int × Int)} (T : TieEnts ents vs ps) : vs.length = ps.length ∧ ∀ (i : Nat) (v : Value), vs[i]? = some v → ∃ (a : Addr) (lo hi : Int) (t1 t2 : Tok) (k : Nat), ps[i]? = some (lo, hi) ∧ v = Value.ref a ∧ (a, tupO #[.int lo t1, .int hi t2] k) ∈ ents := by
  induction T with
  | nil => exact ⟨rfl, fun i v e => by simp at e⟩
  | cons hm _ ih =>
    refine ⟨by simp [ih.1], fun i v e => ?_⟩
    cases i with
    | zero =>
      rw [List.getElem?_cons_zero] at e
      exact ⟨_, _, _, _, _, _, rfl, (Option.some.inj e).symm, hm⟩
    | succ i =>
      rw [List.getElem?_cons_succ] at e
      obtain ⟨a, lo, hi, t1, t2, k, e1, e2, e3⟩ := ih.2 i v e
      exact ⟨a, lo, hi, t1, t2, k, by rw [List.getElem?_cons_succ]; exact e1, e2, e3⟩
theorem TieEnts.ties {ents : List (Addr × Obj)} {vs : List Value} {ps : List (Int × Int)} {h : Heap} {d : Addr} {n : Nat} (T : TieEnts ents vs ps) (hd : h.get? d = some (lstO (List.toArray vs) n)) (he : ∀ p ∈ ents, h.get? p.1 = some p.2) : TiesAt h d ps := by
  obtain ⟨hl, hv⟩ := T.at
  refine ⟨vs, ⟨_, hd, rfl, n, rfl⟩, hl, fun i v e => ?_⟩
  obtain ⟨a, lo, hi, t1, t2, k, e1, e2, e3⟩ := hv i v e
  exact ⟨a, lo, hi, t1, t2, e1, e2, ⟨_, he _ e3, rfl, k, rfl⟩⟩
theorem done_ties {g h' : Heap} {s : Shared} {L d : Addr} {m : Str → Option Value} {news : List (Addr × Obj)} {ys : List Value} {n tk : Nat} {ps : List (Int × Int)} (F : Fr g L h' m) (N : News g L h' news) (hm : (d, ({ cls := .type "list", data := .seq (List.toArray ys) n } : Obj)) ∈ news) (hi : TieEnts news ys ps) :
    Done g s (fun h' v => ∃ d n vs ents, v = .ref d ∧ g.get? d = none ∧ h'.get? d = some (lstO (List.toArray vs) n) ∧ TieEnts ents vs ps ∧ ∀ p ∈ ents, g.get? p.1 = none ∧ h'.get? p.1 = some p.2) (.ref d) { s with heap := h', toks := tk } :=
  ⟨h', tk, rfl, F.keep, d, n, ys, news, rfl, (N _ hm).2.2, (N _ hm).1, hi, fun p hp => ⟨(N p hp).2.2, (N p hp).1⟩⟩
section
local macro_rules | `(tactic| k_ne) => `(tactic| (refine neN ?_; (try dsimp only); first | assumption | (refine Ne.symm ?_; assumption) | (rename (_ ∧ _) ∧ _ => hkn; first | (simp only [hkn, ne_eq, not_false_eq_true]; done) | (refine Ne.symm ?_; simp only [hkn, ne_eq, not_false_eq_true]; done)) | (rename _ < _ ∧ _ => hkn; first | (refine Nat.ne_of_lt ?_; simp only [hkn]; done) | (refine Nat.ne_of_gt ?_; simp only [hkn]; done)) | omega))
local macro_rules | `(tactic| ktr_enter) => `(tactic| (refine' enter ?k1 ?k2 ?k3 ?k5 ?kA ?kF ?kK ?k6 ?k7 ?k8 ?k9 ?kB ?kR ?_ ?c2 ?c3 ?c4 ?c5; (case kA => exact rfl); (case kF => exact rfl); (case kK => assumption); (case k1 => k_asm); (case k2 => k_asm); (case k3 => k_asm); (case k5 => k_asm); (case k6 => k_is); (case k7 => k_is); (case k8 => ktr_room); (case k9 => exact BindsTo.of_eq rfl); (case c5 => decide); (case kB => exact locs rfl); (case c2 => exact rfl); (case c3 => exact rfl); (case c4 => exact rfl); (case kR => assumption); k_whole; intro g' L' h' gE' F' N' B' X' T'; (try dsimp only); (try k_fold)))
theorem mkties_ok {w : World} {mean : ExcName → Option Value} {mg mb : Str → Option Value} {ln : Addr} {vn : List Value} {ns : List Int} (hn : ns.length = 13) (jn : IntsAre vn ns) :
    Fn 4 w mean mg mb 131 [.ref ln] (fun h => h.IsList ln vn.toArray) (fun h h' v => ∃ d n vs ents, v = .ref d ∧ h.get? d = none ∧ h'.get? d = some (lstO (List.toArray vs) n) ∧ TieEnts ents vs (tiesF ns) ∧ ∀ p ∈ ents, h.get? p.1 = none ∧ h'.get? p.1 = some p.2) := by
  match ns, hn, jn with
  | [c0, c1, c2, c3, c4, c5, c6, c7, c8, c9, c10, c11, c12], _, jn =>
  obtain _ | ⟨_, t0, jn⟩ := jn
  obtain _ | ⟨_, t1, jn⟩ := jn
  obtain _ | ⟨_, t2, jn⟩ := jn
  obtain _ | ⟨_, t3, jn⟩ := jn
  obtain _ | ⟨_, t4, jn⟩ := jn
  obtain _ | ⟨_, t5, jn⟩ := jn
  obtain _ | ⟨_, t6, jn⟩ := jn
  obtain _ | ⟨_, t7, jn⟩ := jn
  obtain _ | ⟨_, t8, jn⟩ := jn
  obtain _ | ⟨_, t9, jn⟩ := jn
  obtain _ | ⟨_, t10, jn⟩ := jn
  obtain _ | ⟨_, t11, jn⟩ := jn
  obtain _ | ⟨_, t12, jn⟩ := jn
  obtain _ | _ := jn
  unfold Fn
  k_fill
  intro dp un gd cn cs a ccd cl outer A₀ base h₀ L m s Q E B F X T hk hd hu hpre hret
  k_dflt ktr_enter
  clear hret
  subst_vars
  k_steps
  exact done_ties (by assumption) (by assumption) (by k_mem) (by
    rw [show tiesF [c0, c1, c2, c3, c4, c5, c6, c7, c8, c9, c10, c11, c12] = [tieOf c5, tieOf c6, tieOf c7, tieOf c8, tieOf c9, tieOf c10, tieOf c11] from rfl]
    exact .cons (by k_mem) (.cons (by k_mem) (.cons (by k_mem) (.cons (by k_mem) (.cons (by k_mem) (.cons (by k_mem) (.cons (by k_mem) .nil)))))))
end
end Mine
end
section
open PySem PySem.W PySem.Calls PyProof.Rows
set_option Elab.async false
set_option maxRecDepth 100000
set_option maxHeartbeats 8000000
set_option pp.deepTerms false
set_option pp.maxSteps 3000
namespace Mine
structure StackX (cs ns : List Int) (ps : List (Int × Int)) : Prop where
  lc : cs.length = 5
  bc : ∀ j, j < 5 → 0 ≤ cs.getD j 0 ∧ cs.getD j 0 ≤ 5
  ln : ns.length = 13
  bn : ∀ j, j < 5 → 0 ≤ ns.getD j 0 ∧ ns.getD j 0 < 1000000
  bp : ∀ (i : Nat) (lo hi : Int), ps[i]? = some (lo, hi) → 0 ≤ lo ∧ lo < 5 ∧ 0 ≤ hi ∧ hi < 5
def toldF (cs : List Int) (ps : List (Int × Int)) (t : Nat) : List Int :=
  (ps.foldl tieStep (cs.map (fun c => (c + t + 1) / 6), 0)).1 ++ [(ps.foldl tieStep (cs.map (fun c => (c + t + 1) / 6), 0)).2]
def stackN (cs : List Int) (ps : List (Int × Int)) : Nat → List Int
  | 0 => [0, 0, 0, 0, 0, 0]
  | i + 1 => [0, 1, 2, 3, 4, 5].map fun p => (stackN cs ps i).getD p 0 + (toldF cs ps i).getD p 0
def AllNe (d : Nat) : List (Addr × Obj) → Prop
  | [] => True
  | p :: r => @Ne Nat p.1 d ∧ AllNe d r
theorem allNe_of {d : Addr} : ∀ {l : List (Addr × Obj)}, (∀ p ∈ l, p.1 ≠ d) → AllNe d l
  | [], _ => trivial
  | p :: _, h => ⟨h p (.head _), allNe_of fun q hq => h q (.tail _ hq)⟩
theorem news_add {h₀ h h' : Heap} {L d : Addr} {m : Str → Option Value} {news : List (Addr × Obj)} {o : Obj} (F : Fr h₀ L h m) (N : News h₀ L h' news) (e1 : h.get? d = none) (e2 : h'.get? d = some o) : News h₀ L h' ((d, o) :: news) := fun p hp => by
  rcases List.mem_cons.mp hp with rfl | hp
  · refine ⟨e2, fun e => ?_, ?_⟩
    · obtain ⟨o', es, ep, ho, _⟩ := F.ns
      have e' : d = L := e
      rw [e', ho] at e1
      cases e1
    · cases hq : h₀.get? d with
      | none => rfl
      | some o' =>
        have := F.keep d o' hq
        rw [e1] at this
        cases this
  · exact N p hp
/-- what a call leaves that makes a list of ints -/
abbrev ListPost (ns : List Int) (h h' : Heap) (v : Value) : Prop := ∃ d n vs, v = .ref d ∧ h.get? d = none ∧ h'.get? d = some (lstO vs n) ∧ IntsAre vs.toList ns
abbrev lst (ys : List Value) (n : Nat) : Obj := { cls := .type "list", data := .seq (List.toArray ys) n }
theorem Fn.useL {w : World} {mean : ExcName → Option Value} {mg mb : Str → Option Value} {f : Addr} {vs : List Value} {pre : Heap → Prop} {ns : List Int} {k : Nat} (C : Fn k w mean mg mb f vs pre (ListPost ns))
    {dp un : Nat} {gd : Option (List Code)} {cn : Str} {cs : Scope} {a : Addr} {ccd : Value} {cl : List (Str × Addr)} {outer : List Env} {A₀ : Around} {base h₀ : Heap} {L : Addr} {m : Str → Option Value} {news : List (Addr × Obj)} {s : Shared} {Q E : Value → Shared → Prop}
    (B : Below A₀ base outer h₀) (F : Fr h₀ L s.heap m) (X : (hd.heap_39 w.params).In h₀) (N : News h₀ L s.heap news) (T : Top hd.view_39 LO mean mg mb h₀) (hk : cs.kind = .function) (hd : dp + k < recursionLimit) (hu : un + 6 * k < cLine) (hpre : pre s.heap)
    (ret : ∀ d n ys h' tk', s.heap.StaysIn h' → Fr h₀ L h' m → News h₀ L h' ((d, lst ys n) :: news) → (∀ p ∈ news, p.1 ≠ d) → IntsAre ys ns → Q (.ref d) { s with heap := h', toks := tk' }) :
    wpAny (model PySem.Challenge.rw_tp0012_01.row.prog w) (ktrTop dp un gd cn cs L a ccd cl outer) (call (.ref f) vs) Q E s :=
  C.use B F X N T hk hd hu hpre fun v h' tk' st F' N' hp => by
    obtain ⟨d, n, ⟨ys⟩, rfl, e1, e2, hi⟩ := hp
    exact ret d n ys h' tk' st F' (news_add F N' e1 e2) (fun p hp e => by have h1 := (N p hp).1; rw [e, e1] at h1; cases h1) hi
section
variable {prog : Program} {w : World} {A : Around} {E : Value → Shared → Prop} {s : Shared} {env : Env} {h₀ : Heap} {x : Str} {body : List Stmt} {Q : Flow → Shared → Prop}
theorem range_hold2 {I : Addr} {a : Int} {n : Nat} {m : Str → Option Value} {news : List (Addr × Obj)} (J : Nat → (Str → Option Value) → List (Addr × Obj) → Prop) (hoff : ∀ p ∈ news, p.1 ≠ I) (hJ : Hold (J 0 m news))
    (turn : Hold (∀ i m₁ news₁ t h tk, i < n → J i m₁ news₁ → (∀ p ∈ news₁, p.1 ≠ I) → Fr h₀ env.locals h (fun y => if y = x then some (.int (a + (i : Int)) t) else m₁ y) → News h₀ env.locals h ((I, itR (a + ((i + 1 : Nat) : Int)) ((n : Int) - ((i + 1 : Nat) : Int))) :: news₁) →
      wpAny (model prog w) A (execs body env) (UnrPost h₀ env.locals { s with heap := h, toks := tk } I (itR (a + ((i + 1 : Nat) : Int)) ((n : Int) - ((i + 1 : Nat) : Int))) (J (i + 1)) Q) E { s with heap := h, toks := tk }))
    (fin : Hold (∀ m₁ news₁ h tk, J n m₁ news₁ → Fr h₀ env.locals h m₁ → News h₀ env.locals h news₁ → Q .next { s with heap := h, toks := tk })) :
    RangeRest prog w A E h₀ env x body Q s I a n n 0 m news := by
  have all : ∀ (k i : Nat) (m₁ : Str → Option Value) (news₁ : List (Addr × Obj)), i + k = n → (∀ p ∈ news₁, p.1 ≠ I) → J i m₁ news₁ → RangeRest prog w A E h₀ env x body Q s I a n k i m₁ news₁ := by
    intro k
    induction k with
    | zero =>
      intro i m₁ news₁ e _ hj
      have e' : i = n := e
      subst e'
      exact fun h tk F N => fin m₁ news₁ h tk hj F N
    | succ k ih =>
      intro i m₁ news₁ e ho hj t h tk F N
      refine wpAny_mono (turn i m₁ news₁ t h tk (by omega) hj ho F N) (fun f s₂ p => ?_) fun _ _ z => z
      cases f with
      | ret v => exact p
      | brk => exact p
      | next =>
        obtain ⟨h', tk', m', news', e', F', N', ho, r⟩ := p
        exact ⟨h', tk', m', news', e', F', N', ho, ih (i + 1) m' news' (by omega) ho r⟩
      | cont =>
        obtain ⟨h', tk', m', news', e', F', N', ho, r⟩ := p
        exact ⟨h', tk', m', news', e', F', N', ho, ih (i + 1) m' news' (by omega) ho r⟩
  exact all n 0 m news (Nat.zero_add n) hoff hJ
end
/-- between the turns: the list that came, the stack in its cell -/
def StackX.J {cs ns : List Int} {ps : List (Int × Int)} (_ : StackX cs ns ps) (h₀ : Heap) (L lt ln : Addr) (i : Nat) (m : Str → Option Value) (nx : List (Addr × Obj)) : Prop :=
  ∃ dc vc ds n ys o1 o2 x2 b, m = ov (Str.ofString "came") (.ref dc) (ov (Str.ofString "ties") (.ref lt) (ov (Str.ofString "numbers") (.ref ln) b)) ∧ IntsAre vc (cs.map fun c => c + (i : Int)) ∧ o1.data = .cell (some (.ref ds)) ∧ o2.data = .cell x2 ∧ IntsAre ys (stackN cs ps i) ∧ @Ne Nat (L + 1) ds ∧ @Ne Nat (L + 1 + 1) ds ∧
    ((h₀.IsList dc vc.toArray ∧ nx = [(ds, lst ys n), (L + 1 + 1, o2), (L + 1, o1)]) ∨ (∃ nc, nx = [(dc, lst vc nc), (ds, lst ys n), (L + 1 + 1, o2), (L + 1, o1)] ∧ @Ne Nat (L + 1) dc ∧ @Ne Nat (L + 1 + 1) dc))
theorem map_zero (cs : List Int) : (cs.map fun c => c + ((0 : Nat) : Int)) = cs := by
  have : (fun c : Int => c + ((0 : Nat) : Int)) = id := by funext c; simp
  rw [this, List.map_id]
theorem StackX.j_of {cs ns : List Int} {ps : List (Int × Int)} (X : StackX cs ns ps) {h₀ : Heap} {L lt ln : Addr} {i : Nat} {m : Str → Option Value} {nx : List (Addr × Obj)} {dc ds : Addr} {vc ys : List Value} {n : Nat} {o1 o2 : Obj} {x2 : Option Value}
    (h1 : m (Str.ofString "came") = some (.ref dc)) (h2 : m (Str.ofString "ties") = some (.ref lt)) (h3 : m (Str.ofString "numbers") = some (.ref ln)) (hc : IntsAre vc (cs.map fun c => c + (i : Int))) (ho : o1.data = .cell (some (.ref ds))) (ho2 : o2.data = .cell x2) (hy : IntsAre ys (stackN cs ps i))
    (hn1 : @Ne Nat (L + 1) ds) (hn2 : @Ne Nat (L + 1 + 1) ds) (hor : (h₀.IsList dc vc.toArray ∧ nx = [(ds, lst ys n), (L + 1 + 1, o2), (L + 1, o1)]) ∨ (∃ nc, nx = [(dc, lst vc nc), (ds, lst ys n), (L + 1 + 1, o2), (L + 1, o1)] ∧ @Ne Nat (L + 1) dc ∧ @Ne Nat (L + 1 + 1) dc)) : Hold (X.J h₀ L lt ln i m nx) :=
  ⟨dc, vc, ds, n, ys, o1, o2, x2, m, by rw [ov_eq h3, ov_eq h2, ov_eq h1], hc, ho, ho2, hy, hn1, hn2, hor⟩
theorem getD_map {f : Int → Int} {cs : List Int} {j : Nat} (h : j < cs.length) : (cs.map f).getD j 0 = f (cs.getD j 0) := by
  rw [List.getD_eq_getElem?_getD, List.getD_eq_getElem?_getD, List.getElem?_map, List.getElem?_eq_getElem h]
  rfl
theorem StackX.sent {cs ns : List Int} {ps : List (Int × Int)} (X : StackX cs ns ps) {i : Nat} (hi : i < 5) {lc ln : Addr} : SentX (cs.map fun c => c + (i : Int)) ns lc ln where
  lc := by rw [List.length_map, X.lc]
  ln := X.ln
  bc := fun j hj => by
    rw [getD_map (by rw [X.lc]; exact hj)]
    have := X.bc j hj
    omega
  bn := X.bn
theorem StackX.small {cs ns : List Int} {ps : List (Int × Int)} (X : StackX cs ns ps) {i : Nat} (hi : i < 5) {lc ln : Addr} : SmallX ((cs.map fun c => c + (i : Int)).map (· + 1)) ns lc ln where
  lc := by rw [List.length_map, List.length_map, X.lc]
  ln := X.ln
  bc := fun j hj => by
    rw [getD_map (by rw [List.length_map, X.lc]; exact hj), getD_map (by rw [X.lc]; exact hj)]
    have := X.bc j hj
    omega
  bn := X.bn
theorem StackX.tie {cs ns : List Int} {ps : List (Int × Int)} (X : StackX cs ns ps) {i : Nat} : TieX (((cs.map fun c => c + (i : Int)).map (· + 1)).map (· / 6)) ps where
  lc := by rw [List.length_map, List.length_map, List.length_map, X.lc]
  bp := X.bp
theorem tieStep_len {σ : List Int × Int} {p : Int × Int} : (tieStep σ p).1.length = σ.1.length := by
  unfold tieStep
  split
  · simp
  · rfl
theorem tie_len : ∀ (ps : List (Int × Int)) (σ : List Int × Int), (ps.foldl tieStep σ).1.length = σ.1.length
  | [], _ => rfl
  | p :: ps, σ => by rw [List.foldl_cons, tie_len ps, tieStep_len]
theorem StackX.told_len {cs ns : List Int} {ps : List (Int × Int)} (X : StackX cs ns ps) (t : Nat) : (toldF cs ps t).length = 6 := by
  unfold toldF
  rw [List.length_append, tie_len, List.length_map, X.lc]
  rfl
theorem stack_len (cs : List Int) (ps : List (Int × Int)) : ∀ i, (stackN cs ps i).length = 6
  | 0 => rfl
  | _ + 1 => rfl
theorem told_is (cs : List Int) (ps : List (Int × Int)) (i : Nat) : (ps.foldl tieStep (((cs.map fun c => c + (i : Int)).map (· + 1)).map (· / 6), 0)).1 ++ [(ps.foldl tieStep (((cs.map fun c => c + (i : Int)).map (· + 1)).map (· / 6), 0)).2] = toldF cs ps i := by
  unfold toldF
  rw [List.map_map, List.map_map]
  rfl
theorem item_six {prog : Program} {w : World} {A : Around} {E : Value → Shared → Prop} {s : Shared} {value slice : PySem.Expr} {l : Addr} {vs : List Value} {ns : List Int} {i : Int} {u : Tok} {Q : Value → Shared → Prop} (hl : s.heap.IsList l vs.toArray) (hi : IntsAre vs ns) (h6 : ns.length = 6) (h0 : 0 ≤ i) (h1 : i < 6)
    (h : ∀ t, Q (.int (ns.getD i.toNat 0) t) s)
    (hs : subscripted slice false (.ref l) (.int i u) = operate [.ref l, .int i u] (getItem (.ref l) (.int i u))) (hg : ∀ r, letTemporaryGo value (.ref l) r = pure ()) :
    wpAny (model prog w) A (subscriptTail value slice (.ref l) (.int i u)) Q E s :=
  item_list_ints hl hi h0 (by omega) (by omega) h hs hg
theorem came_next (cs : List Int) (i : Nat) : (cs.map fun c => c + ((i + 1 : Nat) : Int)) = (cs.map fun c => c + (i : Int)).map (· + 1) := by
  rw [List.map_map]
  refine List.map_congr_left fun c _ => ?_
  show c + ((i + 1 : Nat) : Int) = c + (i : Int) + 1
  omega
theorem stack_next (cs : List Int) (ps : List (Int × Int)) (i : Nat) : ((rangeKs 0 ((6 : Int) - 0).toNat).map fun k => (stackN cs ps i).getD k.toNat 0 + (toldF cs ps i).getD k.toNat 0) = stackN cs ps (i + 1) := rfl
theorem cell_ne {h₀ h : Heap} {L a b : Addr} {news : List (Addr × Obj)} {o : Obj} {ys : List Value} {n : Nat} {x : Option Value} (N : News h₀ L h news) (m1 : (a, o) ∈ news) (m2 : (b, lst ys n) ∈ news) (ho : o.data = .cell x) : @Ne Nat a b := fun e => by
  have h1 := (N _ m1).1
  have h2 := (N _ m2).1
  have e' : a = b := e
  rw [e'] at h1
  rw [h1] at h2
  have h3 : o = lst ys n := Option.some.inj h2
  rw [h3] at ho
  cases ho
theorem list_off {h₀ h : Heap} {L a I : Addr} {news : List (Addr × Obj)} {it : Obj} {ys : List Value} {n : Nat} (N : News h₀ L h news) (m1 : (a, lst ys n) ∈ news) (m2 : (I, it) ∈ news) (hc : it.cls ≠ .type "list") : a ≠ I := fun e => by
  have h1 := (N _ m1).1
  have h2 := (N _ m2).1
  have e' : a = I := e
  rw [e'] at h1
  rw [h1] at h2
  have h3 : lst ys n = it := Option.some.inj h2
  exact hc (by rw [← h3])
theorem stack_end {cs ns : List Int} {ps : List (Int × Int)} (X : StackX cs ns ps) {h₀ h' : Heap} {L lt ln I : Addr} {it : Obj} {s₁ : Shared} {tk i : Nat} {m : Str → Option Value} {all : List (Addr × Obj)} {dc ds : Addr} {vc ys : List Value} {n nc : Nat} {o1 o2 : Obj} {x2 : Option Value}
    (F : Fr h₀ L h' m) (N : News h₀ L h' all) (hI : (I, it) ∈ all) (m1 : (dc, lst vc nc) ∈ all) (m2 : (ds, lst ys n) ∈ all) (m3 : (L + 1 + 1, o2) ∈ all) (m4 : (L + 1, o1) ∈ all) (hit : it.cls ≠ .type "list") (x3 : @Ne Nat (L + 1 + 1) I) (x4 : @Ne Nat (L + 1) I)
    (h1 : m (Str.ofString "came") = some (.ref dc)) (h2 : m (Str.ofString "ties") = some (.ref lt)) (h3 : m (Str.ofString "numbers") = some (.ref ln)) (hc : IntsAre vc (cs.map fun c => c + (i : Int))) (ho : o1.data = .cell (some (.ref ds))) (ho2 : o2.data = .cell x2) (hy : IntsAre ys (stackN cs ps i)) :
    UnrEnd h₀ L s₁ I it (X.J h₀ L lt ln i) { s₁ with heap := h', toks := tk } := by
  refine UnrEnd.intro F N [(dc, lst vc nc), (ds, lst ys n), (L + 1 + 1, o2), (L + 1, o1)] (fun p hp => ?_) (fun p hp => ?_) (X.j_of h1 h2 h3 hc ho ho2 hy (cell_ne N m4 m2 ho) (cell_ne N m3 m2 ho2) (.inr ⟨nc, rfl, cell_ne N m4 m1 ho, cell_ne N m3 m1 ho2⟩))
  · simp only [List.mem_cons, List.not_mem_nil, or_false] at hp
    rcases hp with rfl | rfl | rfl | rfl | rfl
    · exact hI
    · exact m1
    · exact m2
    · exact m3
    · exact m4
  · simp only [List.mem_cons, List.not_mem_nil, or_false] at hp
    rcases hp with rfl | rfl | rfl | rfl
    · exact list_off N m1 hI hit
    · exact list_off N m2 hI hit
    · exact x3
    · exact x4
section
local macro_rules | `(tactic| walk_at "call ref") => `(tactic| (k_here; (with_reducible show wpAny _ _ (call (Value.ref 107) _) _ _ _); (rename SentX _ _ _ _ => xS); (k_dflt (refine' Fn.useL (sent_ok xS ?p1 ?p2) ?u1 ?u2 ?u3 ?u4 ?u5 ?u6 ?u7 ?u8 ⟨?p3, ?p4⟩ ?_; (case p3 => is_list); (case p4 => is_list); (case p1 => assumption); (case p2 => assumption); ktr_rel)); intro d9 n9 ys9 h9 tk9 st9 F9 N9 l9 hi9; (replace l9 := Mine.allNe_of l9); (simp only [Mine.AllNe, and_true] at l9); (first | (obtain ⟨_, _, _, _, _, _, _, _, _, _⟩ := l9) | (obtain ⟨_, _, _, _, _, _, _, _, _⟩ := l9) | (obtain ⟨_, _, _, _, _, _, _, _⟩ := l9) | (obtain ⟨_, _, _, _, _, _, _⟩ := l9) | (obtain ⟨_, _, _, _, _, _⟩ := l9) | (obtain ⟨_, _, _, _, _⟩ := l9) | (obtain ⟨_, _, _, _⟩ := l9) | (obtain ⟨_, _, _⟩ := l9) | (obtain ⟨_, _⟩ := l9) | skip); (try dsimp only); (try k_sweep); (try k_fold)))
local macro_rules | `(tactic| walk_at "call ref") => `(tactic| (k_here; (with_reducible show wpAny _ _ (call (Value.ref 126) _) _ _ _); (rename StackX _ _ _ => xK); (k_dflt (refine' Fn.useL (small_ok (StackX.small xK ?p0) ?p1 ?p2) ?u1 ?u2 ?u3 ?u4 ?u5 ?u6 ?u7 ?u8 ⟨?p3, ?p4⟩ ?_; (case p3 => is_list); (case p4 => is_list); (case p1 => assumption); (case p2 => assumption); (case p0 => assumption); ktr_rel)); intro d9 n9 ys9 h9 tk9 st9 F9 N9 l9 hi9; (replace l9 := Mine.allNe_of l9); (simp only [Mine.AllNe, and_true] at l9); (first | (obtain ⟨_, _, _, _, _, _, _, _, _, _⟩ := l9) | (obtain ⟨_, _, _, _, _, _, _, _, _⟩ := l9) | (obtain ⟨_, _, _, _, _, _, _, _⟩ := l9) | (obtain ⟨_, _, _, _, _, _, _⟩ := l9) | (obtain ⟨_, _, _, _, _, _⟩ := l9) | (obtain ⟨_, _, _, _, _⟩ := l9) | (obtain ⟨_, _, _, _⟩ := l9) | (obtain ⟨_, _, _⟩ := l9) | (obtain ⟨_, _⟩ := l9) | skip); (try dsimp only); (try k_sweep); (try k_fold)))
local macro_rules | `(tactic| walk_at "call ref") => `(tactic| (k_here; (with_reducible show wpAny _ _ (call (Value.ref 138) _) _ _ _); (rename StackX _ _ _ => xK); (k_dflt (refine' Fn.useL (tied_ok (StackX.tie xK) ?p1) ?u1 ?u2 ?u3 ?u4 ?u5 ?u6 ?u7 ?u8 ⟨?p3, ?p4⟩ ?_; (case p3 => is_list); (case p1 => assumption); (case p4 => exact TiesAt.stays (by assumption) (Fr.keep (by k_asm))); ktr_rel)); intro d9 n9 ys9 h9 tk9 st9 F9 N9 l9 hi9; (rw [Mine.told_is] at hi9); (replace l9 := Mine.allNe_of l9); (simp only [Mine.AllNe, and_true] at l9); (first | (obtain ⟨_, _, _, _, _, _, _, _, _, _⟩ := l9) | (obtain ⟨_, _, _, _, _, _, _, _, _⟩ := l9) | (obtain ⟨_, _, _, _, _, _, _, _⟩ := l9) | (obtain ⟨_, _, _, _, _, _, _⟩ := l9) | (obtain ⟨_, _, _, _, _, _⟩ := l9) | (obtain ⟨_, _, _, _, _⟩ := l9) | (obtain ⟨_, _, _, _⟩ := l9) | (obtain ⟨_, _, _⟩ := l9) | (obtain ⟨_, _⟩ := l9) | skip); (try dsimp only); (try k_sweep); (try k_fold)))
local macro_rules | `(tactic| walk_at "UnrEnd") => `(tactic| (k_here; (rename StackX _ _ _ => xK); k_dflt (refine' Mine.stack_end xK ?F ?N ?I ?m1 ?m2 ?m3 ?m4 ?c ?x3 ?x4 ?h1 ?h2 ?h3 ?hc ?ho ?ho2 ?hy; (case F => k_asm); (case N => k_asm); (case h1 => with_unfolding_all rfl); (case h2 => with_unfolding_all rfl); (case h3 => with_unfolding_all rfl); (case I => k_mem); (case m1 => k_mem); (case m4 => k_mem); (case ho => assumption); (case m2 => k_mem); (case m3 => k_mem); (case ho2 => assumption); (case c => (intro e; injection e with e; exact absurd e (by decide))); (case x3 => assumption); (case x4 => assumption); (case hc => (rw [Mine.came_next]; assumption)); (case hy => (rw [← Mine.stack_next]; assumption)))))
local macro_rules | `(tactic| k_ne) => `(tactic| (refine neN ?_; (try dsimp only); first | assumption | (refine Ne.symm ?_; assumption) | omega))
local macro_rules | `(tactic| walk_at "subscriptTail Name Name ref int") => `(tactic| (k_here; (with_reducible show wpAny _ _ (subscriptTail _ _ (Value.ref _) (Value.int _ _)) _ _ _); (rename StackX _ _ _ => xK); (with_unfolding_all refine' Mine.item_six ?k1 ?k2 ?k3 ?k4 ?k5 ?_ ?k6 ?k7; (case k1 => is_list); (case k2 => l_ints); (case k3 => first | exact Mine.stack_len _ _ _ | exact StackX.told_len xK _); (case k4 => assumption); (case k5 => (rename _ < (0 : Int) + _ => hq; exact hq)); (case k6 => with_unfolding_all rfl); (case k7 => (intro _; with_unfolding_all rfl))); intro t'))
local macro_rules | `(tactic| cell_enter) => `(tactic| (refine' enterC ?k1 ?k2 ?k3 ?k5 ?kA ?kF ?kK ?k6 ?k7 ?k8 ?k9 ?kB ?kD ?kR ?_ ?c2 ?c3 ?c4; (case kA => exact rfl); (case kF => exact rfl); (case kK => assumption); (case k1 => k_asm); (case k2 => k_asm); (case k3 => k_asm); (case k5 => k_asm); (case k6 => k_is); (case k7 => k_is); (case k8 => ktr_room); (case k9 => exact BindsTo.of_eq rfl); (case kB => exact rfl); (case kD => decide +kernel); (case c2 => exact rfl); (case c3 => exact rfl); (case c4 => exact rfl); (case kR => assumption); k_whole; intro g' L' h' tk' cells' gE' F' N' Y' B' X' T'; k_cells Y'; (try simp only [List.cons_append, List.nil_append] at N'); (try dsimp only); (try k_fold)))
local macro_rules | `(tactic| ktr_rel) => `(tactic| ((case u1 => first | k_asm | fail "use: below"); (case u2 => first | k_asm | fail "use: frame"); (case u3 => first | k_asm | fail "use: part"); (case u4 => first | k_asm | fail "use: ledger"); (case u5 => first | k_asm | fail "use: top"); (case u6 => first | exact rfl | assumption | fail "use: kind"); (case u7 => first | ktr_room | fail "use: room"); (case u8 => first | ktr_units | fail "use: units")))
local macro_rules | `(tactic| walk_at "RangeRest") => `(tactic| (k_here; (rename StackX _ _ _ => sX); k_dflt (refine' Mine.range_hold2 (Mine.StackX.J sX _ _ _ _) ?off ?hJ ?turn ?fin; (case off => k_all))))
theorem stack_ok {w : World} {mean : ExcName → Option Value} {mg mb : Str → Option Value} {lc lt ln : Addr} {vc vn : List Value} {cs ns : List Int} {ps : List (Int × Int)} (sx : StackX cs ns ps) (ic : IntsAre vc cs) (jn : IntsAre vn ns) :
    Fn 16 w mean mg mb 150 [.ref lc, .ref lt, .ref ln] (fun h => h.IsList lc vc.toArray ∧ TiesAt h lt ps ∧ h.IsList ln vn.toArray) (fun h h' v => ∃ d n vs, v = .ref d ∧ h.get? d = none ∧ h'.get? d = some (lstO vs n) ∧ IntsAre vs.toList (stackN cs ps 5)) := by
  unfold Fn
  k_fill
  intro dp un gd cn cs' a ccd cl outer A₀ base h₀ L m s Q E B F X T hk hd hu hpre hret
  obtain ⟨lcB, ltB, lnB⟩ := hpre
  k_dflt cell_enter
  clear hret
  subst_vars
  k_steps
  case hJ =>
    refine' StackX.j_of _ ?a1 ?a2 ?a3 ?a4 ?a5 ?b5 ?a6 ?a7 ?a8 (.inl ⟨?a9, rfl⟩)
    (case a1 => with_unfolding_all rfl)
    (case a2 => with_unfolding_all rfl)
    (case a3 => with_unfolding_all rfl)
    (case a4 => rw [map_zero]; exact ic)
    (case a5 => assumption)
    (case b5 => assumption)
    (case a6 => exact .cons _ _ (.cons _ _ (.cons _ _ (.cons _ _ (.cons _ _ (.cons _ _ .nil))))))
    (case a7 => omega)
    (case a8 => omega)
    (case a9 => assumption)
  case turn =>
    have sx : StackX cs ns ps := by assumption
    unfold Hold
    intro i m₁ news₁ t h tk hi hJ hap F₁ N₁
    obtain ⟨dc, vc', ds, n, ys, o1, o2, x2, b, rfl, hvc, ho1, ho2, hys, hn1, hn2, hor⟩ := hJ
    have hx1 : SentX (cs.map fun c => c + (i : Int)) ns dc ln := sx.sent hi
    rcases hor with ⟨hb, rfl⟩ | ⟨nc, rfl, hn3, hn4⟩
    · replace hap := allNe_of hap
      simp only [AllNe, and_true] at hap
      obtain ⟨_, _, _⟩ := hap
      k_steps
    · replace hap := allNe_of hap
      simp only [AllNe, and_true] at hap
      obtain ⟨_, _, _, _⟩ := hap
      k_steps
  case fin =>
    unfold Hold
    intro m₁ news₁ h tk hJ F₁ N₁
    obtain ⟨dc, vc', ds, n, ys, o1, o2, x2, b, rfl, hvc, ho1, ho2, hys, hn1, hn2, hor⟩ := hJ
    rcases hor with ⟨hb, rfl⟩ | ⟨nc, rfl, hn3, hn4⟩
    · k_steps
      exact done_list (by assumption) (by assumption) (by k_mem) hys
    · k_steps
      exact done_list (by assumption) (by assumption) (by k_mem) hys
end
end Mine
end
section
open PySem PySem.W PySem.Calls PyProof.Rows
set_option maxRecDepth 100000
set_option maxHeartbeats 2000000
namespace Mine
def thr (t : Nat) (c : Int) : Int := (c + t + 1) / 6
theorem thr_mono {t : Nat} {x y : Int} (h : x ≤ y) : thr t x ≤ thr t y := by
  unfold thr
  omega
def hit (t : Nat) (x y : Int) : Int := if thr t y < thr t x then 1 else 0
theorem hits {x y : Int} (hx : 0 ≤ x ∧ x ≤ 5) (hy : 0 ≤ y ∧ y ≤ 5) : hit 0 x y + hit 1 x y + hit 2 x y + hit 3 x y + hit 4 x y = x - min x y := by
  have h1 : x = 0 ∨ x = 1 ∨ x = 2 ∨ x = 3 ∨ x = 4 ∨ x = 5 := by omega
  have h2 : y = 0 ∨ y = 1 ∨ y = 2 ∨ y = 3 ∨ y = 4 ∨ y = 5 := by omega
  rcases h1 with rfl | rfl | rfl | rfl | rfl | rfl <;> rcases h2 with rfl | rfl | rfl | rfl | rfl | rfl <;> decide
theorem thrs {x : Int} (hx : 0 ≤ x ∧ x ≤ 5) : thr 0 x + thr 1 x + thr 2 x + thr 3 x + thr 4 x = x := by
  have h1 : x = 0 ∨ x = 1 ∨ x = 2 ∨ x = 3 ∨ x = 4 ∨ x = 5 := by omega
  rcases h1 with rfl | rfl | rfl | rfl | rfl | rfl <;> decide
theorem set_same {l : List Int} {a : Nat} (h : a < l.length) : l.set a (l.getD a 0) = l := by
  rw [List.getD_eq_getElem?_getD, List.getElem?_eq_getElem h]
  simp
theorem tie_row {t : Nat} {l : List Int} {ch : Int} {p : Int × Int} (ha : p.1.toNat < l.length) (hb : p.2.toNat < l.length) :
    tieStep (l.map (thr t), ch) p = ((dueStep (l, 0) p).1.map (thr t), ch + hit t (l.getD p.1.toNat 0) (l.getD p.2.toNat 0)) := by
  have e1 : (l.map (thr t)).getD p.1.toNat 0 = thr t (l.getD p.1.toNat 0) := getD_map ha
  have e2 : (l.map (thr t)).getD p.2.toNat 0 = thr t (l.getD p.2.toNat 0) := getD_map hb
  have s1 := set_same ha
  have s2 := set_same hb
  unfold tieStep dueStep hit
  simp only [e1, e2]
  obtain ⟨x, hx⟩ : ∃ x, l.getD p.1.toNat 0 = x := ⟨_, rfl⟩
  obtain ⟨y, hy⟩ : ∃ y, l.getD p.2.toNat 0 = y := ⟨_, rfl⟩
  rw [hx] at s1 ⊢
  rw [hy] at s2 ⊢
  by_cases h : thr t y < thr t x
  · rw [if_pos h, if_pos h]
    have hyx : y < x := by
      false_or_by_contra
      have := thr_mono (t := t) (show x ≤ y by omega)
      omega
    rw [show min x y = y by omega, show max x y = x by omega, List.map_set, List.map_set]
  · rw [if_neg h, if_neg h, Int.add_zero]
    congr 1
    by_cases hle : x ≤ y
    · rw [show min x y = x by omega, show max x y = y by omega, s1, s2]
    · have he : thr t x = thr t y := by
        have := thr_mono (t := t) (show y ≤ x by omega)
        omega
      rw [show min x y = y by omega, show max x y = x by omega, List.map_set, List.map_set, ← he, ← List.map_set, s1, he, ← List.map_set, s2]
theorem due_ch (l : List Int) (ch : Int) (p : Int × Int) : dueStep (l, ch) p = ((dueStep (l, 0) p).1, ch + (l.getD p.1.toNat 0 - min (l.getD p.1.toNat 0) (l.getD p.2.toNat 0))) := by
  unfold dueStep
  simp only [Prod.mk.injEq, true_and]
  omega
def Ok (l : List Int) : Prop := l.length = 5 ∧ ∀ j, j < 5 → 0 ≤ l.getD j 0 ∧ l.getD j 0 ≤ 5
theorem ok_set {l : List Int} {a : Nat} {x : Int} (h : Ok l) (hx : 0 ≤ x ∧ x ≤ 5) : Ok (l.set a x) := by
  refine ⟨by rw [List.length_set]; exact h.1, fun j hj => ?_⟩
  rw [List.getD_eq_getElem?_getD, List.getElem?_set]
  have h2 := h.2 j hj
  rw [List.getD_eq_getElem?_getD] at h2
  split
  · split
    · exact hx
    · exact ⟨Int.le_refl _, by decide⟩
  · exact h2
theorem ok_due {l : List Int} {p : Int × Int} (h : Ok l) (ha : p.1.toNat < 5) (hb : p.2.toNat < 5) : Ok (dueStep (l, 0) p).1 := by
  have h1 := h.2 _ ha
  have h2 := h.2 _ hb
  unfold dueStep
  refine ok_set (ok_set h ?_) ?_
  · show 0 ≤ min (l.getD p.1.toNat 0) (l.getD p.2.toNat 0) ∧ min (l.getD p.1.toNat 0) (l.getD p.2.toNat 0) ≤ 5
    omega
  · show 0 ≤ max (l.getD p.1.toNat 0) (l.getD p.2.toNat 0) ∧ max (l.getD p.1.toNat 0) (l.getD p.2.toNat 0) ≤ 5
    omega
theorem all_rows : ∀ (ps : List (Int × Int)) (l : List Int) (ch k0 k1 k2 k3 k4 : Int), (∀ p ∈ ps, p.1.toNat < 5 ∧ p.2.toNat < 5) → Ok l → k0 + k1 + k2 + k3 + k4 = ch →
    ∃ (d : List Int) (c j0 j1 j2 j3 j4 : Int), ps.foldl dueStep (l, ch) = (d, c) ∧ Ok d ∧ j0 + j1 + j2 + j3 + j4 = c ∧
      ps.foldl tieStep (l.map (thr 0), k0) = (d.map (thr 0), j0) ∧ ps.foldl tieStep (l.map (thr 1), k1) = (d.map (thr 1), j1) ∧ ps.foldl tieStep (l.map (thr 2), k2) = (d.map (thr 2), j2) ∧
      ps.foldl tieStep (l.map (thr 3), k3) = (d.map (thr 3), j3) ∧ ps.foldl tieStep (l.map (thr 4), k4) = (d.map (thr 4), j4)
  | [], l, ch, k0, k1, k2, k3, k4, _, ok, e => ⟨l, ch, k0, k1, k2, k3, k4, rfl, ok, e, rfl, rfl, rfl, rfl, rfl⟩
  | p :: ps, l, ch, k0, k1, k2, k3, k4, hp, ok, e => by
    obtain ⟨ha, hb⟩ := hp p (.head _)
    have ha' : p.1.toNat < l.length := by rw [ok.1]; exact ha
    have hb' : p.2.toNat < l.length := by rw [ok.1]; exact hb
    simp only [List.foldl_cons]
    rw [due_ch, tie_row ha' hb', tie_row ha' hb', tie_row ha' hb', tie_row ha' hb', tie_row ha' hb']
    have hs := hits (ok.2 _ ha) (ok.2 _ hb)
    exact all_rows ps _ _ _ _ _ _ _ (fun q hq => hp q (.tail _ hq)) (ok_due ok ha hb) (by omega)
theorem law_plain {cs ns : List Int} {ps : List (Int × Int)} (X : StackX cs ns ps) : stackN cs ps 5 = (ps.foldl dueStep (cs, 0)).1 ++ [(ps.foldl dueStep (cs, 0)).2] := by
  have hp : ∀ p ∈ ps, p.1.toNat < 5 ∧ p.2.toNat < 5 := fun p hp => by
    obtain ⟨i, hi⟩ := List.mem_iff_getElem?.mp hp
    have := X.bp i p.1 p.2 hi
    omega
  obtain ⟨d, c, j0, j1, j2, j3, j4, e, ok, es, e0, e1, e2, e3, e4⟩ := all_rows ps cs 0 0 0 0 0 0 hp ⟨X.lc, X.bc⟩ rfl
  have t0 : toldF cs ps 0 = d.map (thr 0) ++ [j0] := by
    show (ps.foldl tieStep (cs.map (thr 0), 0)).1 ++ [(ps.foldl tieStep (cs.map (thr 0), 0)).2] = _
    rw [e0]
  have t1 : toldF cs ps 1 = d.map (thr 1) ++ [j1] := by
    show (ps.foldl tieStep (cs.map (thr 1), 0)).1 ++ [(ps.foldl tieStep (cs.map (thr 1), 0)).2] = _
    rw [e1]
  have t2 : toldF cs ps 2 = d.map (thr 2) ++ [j2] := by
    show (ps.foldl tieStep (cs.map (thr 2), 0)).1 ++ [(ps.foldl tieStep (cs.map (thr 2), 0)).2] = _
    rw [e2]
  have t3 : toldF cs ps 3 = d.map (thr 3) ++ [j3] := by
    show (ps.foldl tieStep (cs.map (thr 3), 0)).1 ++ [(ps.foldl tieStep (cs.map (thr 3), 0)).2] = _
    rw [e3]
  have t4 : toldF cs ps 4 = d.map (thr 4) ++ [j4] := by
    show (ps.foldl tieStep (cs.map (thr 4), 0)).1 ++ [(ps.foldl tieStep (cs.map (thr 4), 0)).2] = _
    rw [e4]
  rw [e]
  obtain ⟨hl, hb⟩ := ok
  match d, hl with
  | [d0, d1, d2, d3, d4], _ =>
    have b0 := thrs (hb 0 (by decide))
    have b1 := thrs (hb 1 (by decide))
    have b2 := thrs (hb 2 (by decide))
    have b3 := thrs (hb 3 (by decide))
    have b4 := thrs (hb 4 (by decide))
    simp only [List.getD_cons_zero, List.getD_cons_succ] at b0 b1 b2 b3 b4
    simp only [stackN, t0, t1, t2, t3, t4, List.map_cons, List.map_nil, List.cons_append, List.nil_append, List.getD_cons_zero, List.getD_cons_succ, List.cons.injEq, and_true]
    omega
end Mine
end
section
open PySem PySem.W PySem.Calls PyProof.Rows
set_option maxRecDepth 100000
set_option maxHeartbeats 2000000
namespace Mine
theorem numF_mem {ns : List Int} {x : Int} (h : x ∈ numF ns) : 0 ≤ x ∧ x < 1000000 := by
  unfold numF at h
  rcases List.mem_append.mp h with h | h
  · obtain ⟨y, _, rfl⟩ := List.mem_map.mp h
    show 0 ≤ y % 1000000 ∧ y % 1000000 < 1000000
    omega
  · have h2 : x ∈ dfl := List.mem_of_mem_drop h
    have h3 : ∀ y ∈ dfl, 0 ≤ y ∧ y < 1000000 := by decide
    exact h3 x h2
theorem numF_at (ns : List Int) {j : Nat} (h : j < 13) : 0 ≤ (numF ns).getD j 0 ∧ (numF ns).getD j 0 < 1000000 := by
  rw [List.getD_eq_getElem?_getD, List.getElem?_eq_getElem (by rw [numF_len]; exact h)]
  exact numF_mem (List.getElem_mem _)
abbrev cntF (ns : List Int) : List Int := ((numF ns).take 5).map fun k => k.fmod 6
theorem stackX_law (ns : List Int) : StackX (cntF ns) (numF ns) (tiesF (numF ns)) where
  lc := by rw [List.length_map, List.length_take, numF_len]; rfl
  bc := fun j hj => by
    rw [getD_map (by rw [List.length_take, numF_len]; omega), Int.fmod_eq_emod_of_nonneg _ (by decide)]
    omega
  ln := numF_len ns
  bn := fun j hj => numF_at ns (by omega)
  bp := fun i lo hi h => by
    unfold tiesF at h
    rw [List.getElem?_map] at h
    obtain ⟨n, hn, e⟩ := Option.map_eq_some_iff.mp h
    unfold tieOf at e
    injection e with e1 e2
    rw [Int.fmod_eq_emod_of_nonneg _ (by decide)] at e1 e2
    omega
def TieSeven (ps : List (Int × Int)) (h h' : Heap) (v : Value) : Prop := ∃ d n vs ents, v = .ref d ∧ h.get? d = none ∧ h'.get? d = some (lstO (List.toArray vs) n) ∧ TieEnts ents vs ps ∧ ∀ p ∈ ents, h.get? p.1 = none ∧ h'.get? p.1 = some p.2
theorem ents_news {h₀ h h' : Heap} {L : Addr} {m : Str → Option Value} {news : List (Addr × Obj)} (F : Fr h₀ L h m) (N : News h₀ L h' news) : ∀ (es : List (Addr × Obj)), (∀ p ∈ es, h.get? p.1 = none ∧ h'.get? p.1 = some p.2) → News h₀ L h' (es ++ news)
  | [], _ => N
  | e :: es, he => news_add F (ents_news F N es fun p hp => he p (.tail _ hp)) (he e (.head _)).1 (he e (.head _)).2
theorem TieEnts.mono {es fs : List (Addr × Obj)} {vs : List Value} {ps : List (Int × Int)} (T : TieEnts es vs ps) (h : ∀ p ∈ es, p ∈ fs) : TieEnts fs vs ps := by
  induction T with
  | nil => exact .nil
  | cons hm _ ih => exact .cons (h _ hm) ih
/-- what holds the pairs, and nothing else -/
theorem TieEnts.own {ents : List (Addr × Obj)} {vs : List Value} {ps : List (Int × Int)} (T : TieEnts ents vs ps) : ∃ es : List (Addr × Obj), es.length = ps.length ∧ vs = es.map (fun p => Value.ref p.1) ∧ TieEnts es vs ps ∧ ∀ p ∈ es, p ∈ ents := by
  induction T with
  | nil => exact ⟨[], rfl, rfl, .nil, fun p hp => by simp at hp⟩
  | @cons a lo hi t1 t2 k vs ps hm _ ih =>
    obtain ⟨es, e1, e2, e3, e4⟩ := ih
    refine ⟨(a, tupO #[.int lo t1, .int hi t2] k) :: es, by rw [List.length_cons, List.length_cons, e1], by rw [List.map_cons, ← e2], .cons (.head _) (e3.mono fun p hp => .tail _ hp), fun p hp => ?_⟩
    rcases List.mem_cons.mp hp with rfl | hp
    · exact hm
    · exact e4 p hp
theorem tiesF_len (ns : List Int) : (tiesF (numF ns)).length = 7 := by
  unfold tiesF
  rw [List.length_map, List.length_take, List.length_drop, numF_len]
  rfl
theorem cons_of {α : Type} {l : List α} {n : Nat} (h : l.length = n + 1) : ∃ x r, l = x :: r ∧ r.length = n := by
  cases l with
  | nil => cases h
  | cons x r => exact ⟨x, r, rfl, Nat.succ.inj h⟩
theorem len7 {es : List (Addr × Obj)} (h : es.length = 7) : ∃ a0 o0 a1 o1 a2 o2 a3 o3 a4 o4 a5 o5 a6 o6, es = [(a0, o0), (a1, o1), (a2, o2), (a3, o3), (a4, o4), (a5, o5), (a6, o6)] := by
  obtain ⟨⟨a0, o0⟩, r0, rfl, g0⟩ := cons_of h
  obtain ⟨⟨a1, o1⟩, r1, rfl, g1⟩ := cons_of g0
  obtain ⟨⟨a2, o2⟩, r2, rfl, g2⟩ := cons_of g1
  obtain ⟨⟨a3, o3⟩, r3, rfl, g3⟩ := cons_of g2
  obtain ⟨⟨a4, o4⟩, r4, rfl, g4⟩ := cons_of g3
  obtain ⟨⟨a5, o5⟩, r5, rfl, g5⟩ := cons_of g4
  obtain ⟨⟨a6, o6⟩, r6, rfl, g6⟩ := cons_of g5
  cases r6 with
  | nil => exact ⟨a0, o0, a1, o1, a2, o2, a3, o3, a4, o4, a5, o5, a6, o6, rfl⟩
  | cons x r => cases g6
theorem Fn.useT {w : World} {mean : ExcName → Option Value} {mg mb : Str → Option Value} {f : Addr} {vs : List Value} {pre : Heap → Prop} {ns : List Int} {k : Nat} (C : Fn k w mean mg mb f vs pre (TieSeven (tiesF (numF ns))))
    {dp un : Nat} {gd : Option (List Code)} {cn : Str} {cs : Scope} {a : Addr} {ccd : Value} {cl : List (Str × Addr)} {outer : List Env} {A₀ : Around} {base h₀ : Heap} {L : Addr} {m : Str → Option Value} {news : List (Addr × Obj)} {s : Shared} {Q E : Value → Shared → Prop}
    (B : Below A₀ base outer h₀) (F : Fr h₀ L s.heap m) (X : (hd.heap_39 w.params).In h₀) (N : News h₀ L s.heap news) (T : Top hd.view_39 LO mean mg mb h₀) (hk : cs.kind = .function) (hd : dp + k < recursionLimit) (hu : un + 6 * k < cLine) (hpre : pre s.heap)
    (ret : ∀ d n a0 o0 a1 o1 a2 o2 a3 o3 a4 o4 a5 o5 a6 o6 h' tk', s.heap.StaysIn h' → Fr h₀ L h' m → News h₀ L h' ((d, lst [.ref a0, .ref a1, .ref a2, .ref a3, .ref a4, .ref a5, .ref a6] n) :: (a0, o0) :: (a1, o1) :: (a2, o2) :: (a3, o3) :: (a4, o4) :: (a5, o5) :: (a6, o6) :: news) →
      TieEnts [(a0, o0), (a1, o1), (a2, o2), (a3, o3), (a4, o4), (a5, o5), (a6, o6)] [.ref a0, .ref a1, .ref a2, .ref a3, .ref a4, .ref a5, .ref a6] (tiesF (numF ns)) → Q (.ref d) { s with heap := h', toks := tk' }) :
    wpAny (model PySem.Challenge.rw_tp0012_01.row.prog w) (ktrTop dp un gd cn cs L a ccd cl outer) (call (.ref f) vs) Q E s :=
  C.use B F X N T hk hd hu hpre fun v h' tk' st F' N' hp => by
    obtain ⟨d, n, ys, ents, rfl, e1, e2, te, hq⟩ := hp
    obtain ⟨es, l7, hv, te', hs⟩ := te.own
    rw [tiesF_len] at l7
    obtain ⟨a0, o0, a1, o1, a2, o2, a3, o3, a4, o4, a5, o5, a6, o6, rfl⟩ := len7 l7
    subst hv
    exact ret d n a0 o0 a1 o1 a2 o2 a3 o3 a4 o4 a5 o5 a6 o6 h' tk' st F' (news_add F (ents_news F N' _ fun p hp => hq p (hs p hp)) e1 e2) te'
theorem ties_here {h₀ h : Heap} {L d : Addr} {news es : List (Addr × Obj)} {vs : List Value} {n : Nat} {ps : List (Int × Int)} (N : News h₀ L h news) (T : TieEnts es vs ps) (hm : (d, lst vs n) ∈ news) (hs : SubL es news) : TiesAt h d ps :=
  T.ties (N _ hm).1 fun p hp => (N p (SubL.mem hs p hp)).1
theorem num_ties {w : World} {mean : ExcName → Option Value} {mg mb : Str → Option Value} {ln : Addr} {vn : List Value} {ns : List Int} (jn : IntsAre vn (numF ns)) :
    Fn 4 w mean mg mb 131 [.ref ln] (fun h => h.IsList ln vn.toArray) (TieSeven (tiesF (numF ns))) := mkties_ok (numF_len ns) jn
end Mine
end
section
local macro_rules | `(tactic| walk_at "Pad") => `(tactic| fail "pad")
open PySem PySem.W PySem.Calls PyProof.Rows
set_option Elab.async false
set_option maxRecDepth 100000
set_option maxHeartbeats 8000000
set_option pp.deepTerms false
set_option pp.maxSteps 3000
namespace Mine
theorem eq_true {prog : Program} {w : World} {A : Around} {E : Value → Shared → Prop} {s : Shared} {a b : Addr} {vs us : List Value} {ns ms : List Int} {Q : Value → Shared → Prop} (hl : s.heap.IsList a vs.toArray) (hi : IntsAre vs ns) (hl' : s.heap.IsList b us.toArray) (hi' : IntsAre us ms) (hu : A.units + 64 < cLine) (e : ns = ms)
    (h : Q (.bool true) s) : wpAny (model prog w) A (compareOp .Eq (.ref a) (.ref b)) Q E s :=
  eq_intsK hl hi hl' hi' hu (by rw [decide_eq_true e]; exact h)
section
local macro_rules | `(tactic| k_qdec) => `(tactic| decide +kernel)
local macro_rules | `(tactic| ktr_rel) => `(tactic| ((case u1 => first | k_asm | fail "use: below"); (case u2 => first | k_asm | fail "use: frame"); (case u3 => first | k_asm | fail "use: part"); (case u4 => first | k_asm | fail "use: ledger"); (case u5 => first | k_asm | fail "use: top"); (case u6 => first | exact rfl | assumption | fail "use: kind"); (case u7 => first | ktr_room | decide | fail "use: room"); (case u8 => first | ktr_units | decide | fail "use: units")))
local macro_rules | `(tactic| walk_at "call ref") => `(tactic| (k_here; (with_reducible show wpAny _ _ (call (Value.ref 95) _) _ _ _); ((k_dflt (refine' Fn.useL (num_ok ?p1 ?p2) ?u1 ?u2 ?u3 ?u4 ?u5 ?u6 ?u7 ?u8 ?p3 ?_; (case p3 => is_list); (case p1 => assumption); (case p2 => omega); ktr_rel))); intro d9 n9 ys9 h9 tk9 st9 F9 N9 l9 hi9; (replace l9 := Mine.allNe_of l9); (simp only [Mine.AllNe, and_true] at l9); (try dsimp only); (try k_sweep); (try k_fold)))
local macro_rules | `(tactic| walk_at "call ref") => `(tactic| (k_here; (with_reducible show wpAny _ _ (call (Value.ref 131) _) _ _ _); ((k_dflt (refine' Fn.useT (num_ties ?p1) ?u1 ?u2 ?u3 ?u4 ?u5 ?u6 ?u7 ?u8 ?p3 ?_; (case p3 => is_list); (case p1 => assumption); ktr_rel))); intro d9 n9 a0 o0 a1 o1 a2 o2 a3 o3 a4 o4 a5 o5 a6 o6 h9 tk9 st9 F9 N9 te9; (try dsimp only); (try k_sweep); (try k_fold)))
local macro_rules | `(tactic| walk_at "call ref") => `(tactic| (k_here; (with_reducible show wpAny _ _ (call (Value.ref 150) _) _ _ _); ((k_dflt (refine' Fn.useL (stack_ok (stackX_law _) ?p1 ?p2) ?u1 ?u2 ?u3 ?u4 ?u5 ?u6 ?u7 ?u8 ⟨?p3, ?p4, ?p5⟩ ?_; (case p3 => is_list); (case p5 => is_list); (case p1 => assumption); (case p2 => assumption); (case p4 => exact ties_here (by k_asm) (by assumption) (by k_mem) (by k_subL)); ktr_rel))); intro d9 n9 ys9 h9 tk9 st9 F9 N9 l9 hi9; (try dsimp only); (try k_sweep); (try k_fold)))
local macro_rules | `(tactic| walk_at "call ref") => `(tactic| (k_here; (with_reducible show wpAny _ _ (call (Value.ref 145) _) _ _ _); ((k_dflt (refine' Fn.useL (due_ok (cs := cntF _) (ps := tiesF (numF _)) ⟨(stackX_law _).lc, (stackX_law _).bp⟩ ?p1) ?u1 ?u2 ?u3 ?u4 ?u5 ?u6 ?u7 ?u8 ⟨?p3, ?p4⟩ ?_; (case p3 => is_list); (case p1 => assumption); (case p4 => exact ties_here (by k_asm) (by assumption) (by k_mem) (by k_subL)); ktr_rel))); intro d9 n9 ys9 h9 tk9 st9 F9 N9 l9 hi9; (try dsimp only); (try k_sweep); (try k_fold)))
local macro_rules | `(tactic| walk_at "compareOp Eq ref ref") => `(tactic| (k_here; (with_reducible show wpAny _ _ (compareOp CmpOp.Eq (Value.ref _) (Value.ref _)) _ _ _); (with_unfolding_all refine' Mine.eq_true ?k1 ?k2 ?k3 ?k4 ?k5 ?k6 ?_; (case k1 => is_list); (case k2 => assumption); (case k3 => is_list); (case k4 => assumption); (case k5 => units_room); (case k6 => exact Mine.law_plain (Mine.stackX_law _)); k_whole)))
local macro_rules | `(tactic| walk_at "subscriptTail Name Slice ref ref") => `(tactic| (k_here; (k_dflt (refine' PySem.W.kmk_slice_ints ?F ?N ?l ?p ?q ?i ?m rfl ?_ ?s ?t ?z; (case F => k_asm); (case N => k_asm); (case l => kmk_list); (case p => kmk_part); (case q => kmk_part); (case i => assumption); (case m => exact PySem.W.kmk_upto (by assumption) (by decide)); (case s => with_unfolding_all rfl); (case t => (intro _; with_unfolding_all rfl)); (case z => (refine PySem.W.kmk_sz (by assumption) ?_; (rw [Mine.numF_len]); decide)))); intro D' ws' h' F' N' l1 hI' _ hL'; (try simp only [Int.reduceNeg, Int.neg_neg, Int.reduceToNat] at hI' hL'); (try k_lt l1); (try k_sweep)))
theorem law_good : PySem.Challenge.rw_tp0012_01.Holds := by
  apply Mine.hd
  w_strict (k_go0; (all_goals try k_fold); k_steps)
end
end Mine
theorem PySem.Challenge.cw_tp0012_01_holds : PySem.Challenge.rw_tp0012_01.Holds := by
  exact Mine.law_good
end
