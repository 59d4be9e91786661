import PyProof.Rows.All
import Wide.All
import OpenK.AllK
import Wide.FinOn
import KE.KOpsOwn
import PyProof.ListRange
import PyProof.IsiH_tuple
import PyProof.FactsAll.range
import PyProof.Rows.ListMulArg
import KE.KxPercentT
import PyProof.Rows.Catch
import PyProof.ExcFactsAll.IndexError
import PyProof.StationsW
import PyProof.FString5
import PyProof.ReprRoom
import PyProof.Rows.FStr
import PyProof.ZipIter
import PyProof.ForAny
import PyProof.RangeFor
import PyProof.IsRules
import PySem.Challenge.RW_nc0017_01
section
open PySem PySem.W PyProof.Rows
set_option Elab.async false
set_option maxRecDepth 100000
set_option maxHeartbeats 0
set_option linter.unusedVariables false
namespace Mine
/-! the defs of the row's program, by their places -/
def top (i : Nat) : Option Stmt := PySem.Challenge.pw_nc0017_01.main.body[i]?
def own (i j : Nat) : Option Stmt := match top i with | some (.ClassDef _ _ _ body _ _ _ _ _ _ _) => body[j]? | _ => none
def prm : Option Stmt → Arguments | some (.FunctionDef _ a _ _ _ _ _ _ _ _) => a | _ => ⟨[], [], none, [], [], none, []⟩
def bod : Option Stmt → List Stmt | some (.FunctionDef _ _ b _ _ _ _ _ _ _) => b | _ => []
def scp : Option Stmt → Scope | some (.FunctionDef _ _ _ _ _ _ s _ _ _) => s | _ => { kind := .function, names := [], isGenerator := false, isCoroutine := false }
/-- an entry of a namespace -/
def kv (P : Params) (s : String) (k : Nat) (v : Value) : DictEntry := { hash := PyData.keyHash P (Str.ofString s), key := Value.str (Str.ofString s) k, val := v }
/-- a def that is not made yet -/
def fn0 (name qual : PySem.Str) (params : Arguments) (body : List Stmt) (scope : Scope) (cl : List (PySem.Str × Addr)) (dV kV doc pm : Value) (an : Option Addr) (cdv ct : Value) : FuncData := { fnX name qual params body scope cl dV kV doc pm an cdv ct with globals := 0, builtins := 0 }
noncomputable def tree_623 (P : Params) : BT := BT.nil
noncomputable def o_640 (P : Params) : Obj := { cls := Value.type "dict", data := Data.dict #[kv P "__name__" 1 (Value.str (Str.ofString "builtins") 160), kv P "__doc__" 2 (Value.builtin "builtins.__doc__:str#opaque"), kv P "__package__" 3 (Value.builtin "builtins.__package__:str#opaque"), kv P "__loader__" 4 (Value.builtin "builtins.__loader__:shared#opaque"), kv P "__spec__" 5 (Value.builtin "builtins.__spec__#opaque"), kv P "__build_class__" 6 (Value.builtin "__build_class__"), kv P "__import__" 7 (Value.builtin "__import__"), kv P "abs" 8 (Value.builtin "abs"), kv P "all" 9 (Value.builtin "all"), kv P "any" 10 (Value.builtin "any"), kv P "ascii" 11 (Value.builtin "ascii"), kv P "bin" 12 (Value.builtin "bin"), kv P "breakpoint" 13 (Value.builtin "breakpoint"), kv P "callable" 14 (Value.builtin "callable"), kv P "chr" 15 (Value.builtin "chr"), kv P "compile" 16 (Value.builtin "compile"), kv P "delattr" 17 (Value.builtin "delattr"), kv P "dir" 18 (Value.builtin "dir"), kv P "divmod" 19 (Value.builtin "divmod"), kv P "eval" 20 (Value.builtin "eval"), kv P "exec" 21 (Value.builtin "exec"), kv P "format" 22 (Value.builtin "format"), kv P "getattr" 23 (Value.builtin "getattr"), kv P "globals" 24 (Value.builtin "globals"), kv P "hasattr" 25 (Value.builtin "hasattr"), kv P "hash" 26 (Value.builtin "hash"), kv P "hex" 27 (Value.builtin "hex"), kv P "id" 28 (Value.builtin "id"), kv P "input" 29 (Value.builtin "input"), kv P "isinstance" 30 (Value.builtin "isinstance"), kv P "issubclass" 31 (Value.builtin "issubclass"), kv P "iter" 32 (Value.builtin "iter"), kv P "aiter" 33 (Value.builtin "aiter"), kv P "len" 34 (Value.builtin "len"), kv P "locals" 35 (Value.builtin "locals"), kv P "max" 36 (Value.builtin "max"), kv P "min" 37 (Value.builtin "min"), kv P "next" 38 (Value.builtin "next"), kv P "anext" 39 (Value.builtin "anext"), kv P "oct" 40 (Value.builtin "oct"), kv P "ord" 41 (Value.builtin "ord"), kv P "pow" 42 (Value.builtin "pow"), kv P "print" 43 (Value.builtin "print"), kv P "repr" 44 (Value.builtin "repr"), kv P "round" 45 (Value.builtin "round"), kv P "setattr" 46 (Value.builtin "setattr"), kv P "sorted" 47 (Value.builtin "sorted"), kv P "sum" 48 (Value.builtin "sum"), kv P "vars" 49 (Value.builtin "vars"), kv P "None" 50 (Value.none), kv P "Ellipsis" 51 (Value.ellipsis), kv P "NotImplemented" 52 (Value.notImplemented), kv P "False" 53 (Value.bool false), kv P "True" 54 (Value.bool true), kv P "bool" 55 (Value.type "bool"), kv P "memoryview" 56 (Value.type "memoryview"), kv P "bytearray" 57 (Value.type "bytearray"), kv P "bytes" 58 (Value.type "bytes"), kv P "classmethod" 59 (Value.type "classmethod"), kv P "complex" 60 (Value.type "complex"), kv P "dict" 61 (Value.type "dict"), kv P "enumerate" 62 (Value.type "enumerate"), kv P "filter" 63 (Value.type "filter"), kv P "float" 64 (Value.type "float"), kv P "frozenset" 65 (Value.type "frozenset"), kv P "property" 66 (Value.type "property"), kv P "int" 67 (Value.type "int"), kv P "list" 68 (Value.type "list"), kv P "map" 69 (Value.type "map"), kv P "object" 70 (Value.type "object"), kv P "range" 71 (Value.type "range"), kv P "reversed" 72 (Value.type "reversed"), kv P "set" 73 (Value.type "set"), kv P "slice" 74 (Value.type "slice"), kv P "staticmethod" 75 (Value.type "staticmethod"), kv P "str" 76 (Value.type "str"), kv P "super" 77 (Value.type "super"), kv P "tuple" 78 (Value.type "tuple"), kv P "type" 79 (Value.type "type"), kv P "zip" 80 (Value.type "zip"), kv P "__debug__" 81 (Value.bool true), kv P "BaseException" 82 (Value.type "BaseException"), kv P "BaseExceptionGroup" 83 (Value.type "BaseExceptionGroup"), kv P "Exception" 84 (Value.type "Exception"), kv P "GeneratorExit" 85 (Value.type "GeneratorExit"), kv P "KeyboardInterrupt" 86 (Value.type "KeyboardInterrupt"), kv P "SystemExit" 87 (Value.type "SystemExit"), kv P "ArithmeticError" 88 (Value.type "ArithmeticError"), kv P "AssertionError" 89 (Value.type "AssertionError"), kv P "AttributeError" 90 (Value.type "AttributeError"), kv P "BufferError" 91 (Value.type "BufferError"), kv P "EOFError" 92 (Value.type "EOFError"), kv P "ImportError" 93 (Value.type "ImportError"), kv P "LookupError" 94 (Value.type "LookupError"), kv P "MemoryError" 95 (Value.type "MemoryError"), kv P "NameError" 96 (Value.type "NameError"), kv P "OSError" 97 (Value.type "OSError"), kv P "ReferenceError" 98 (Value.type "ReferenceError"), kv P "RuntimeError" 99 (Value.type "RuntimeError"), kv P "StopAsyncIteration" 100 (Value.type "StopAsyncIteration"), kv P "StopIteration" 101 (Value.type "StopIteration"), kv P "SyntaxError" 102 (Value.type "SyntaxError"), kv P "SystemError" 103 (Value.type "SystemError"), kv P "TypeError" 104 (Value.type "TypeError"), kv P "ValueError" 105 (Value.type "ValueError"), kv P "Warning" 106 (Value.type "Warning"), kv P "FloatingPointError" 107 (Value.type "FloatingPointError"), kv P "OverflowError" 108 (Value.type "OverflowError"), kv P "ZeroDivisionError" 109 (Value.type "ZeroDivisionError"), kv P "BytesWarning" 110 (Value.type "BytesWarning"), kv P "DeprecationWarning" 111 (Value.type "DeprecationWarning"), kv P "EncodingWarning" 112 (Value.type "EncodingWarning"), kv P "FutureWarning" 113 (Value.type "FutureWarning"), kv P "ImportWarning" 114 (Value.type "ImportWarning"), kv P "PendingDeprecationWarning" 115 (Value.type "PendingDeprecationWarning"), kv P "ResourceWarning" 116 (Value.type "ResourceWarning"), kv P "RuntimeWarning" 117 (Value.type "RuntimeWarning"), kv P "SyntaxWarning" 118 (Value.type "SyntaxWarning"), kv P "UnicodeWarning" 119 (Value.type "UnicodeWarning"), kv P "UserWarning" 120 (Value.type "UserWarning"), kv P "BlockingIOError" 121 (Value.type "BlockingIOError"), kv P "ChildProcessError" 122 (Value.type "ChildProcessError"), kv P "ConnectionError" 123 (Value.type "ConnectionError"), kv P "FileExistsError" 124 (Value.type "FileExistsError"), kv P "FileNotFoundError" 125 (Value.type "FileNotFoundError"), kv P "InterruptedError" 126 (Value.type "InterruptedError"), kv P "IsADirectoryError" 127 (Value.type "IsADirectoryError"), kv P "NotADirectoryError" 128 (Value.type "NotADirectoryError"), kv P "PermissionError" 129 (Value.type "PermissionError"), kv P "ProcessLookupError" 130 (Value.type "ProcessLookupError"), kv P "TimeoutError" 131 (Value.type "TimeoutError"), kv P "IndentationError" 132 (Value.type "IndentationError"), kv P "_IncompleteInputError" 133 (Value.type "_IncompleteInputError"), kv P "IndexError" 134 (Value.type "IndexError"), kv P "KeyError" 135 (Value.type "KeyError"), kv P "ModuleNotFoundError" 136 (Value.type "ModuleNotFoundError"), kv P "NotImplementedError" 137 (Value.type "NotImplementedError"), kv P "PythonFinalizationError" 138 (Value.type "PythonFinalizationError"), kv P "RecursionError" 139 (Value.type "RecursionError"), kv P "UnboundLocalError" 140 (Value.type "UnboundLocalError"), kv P "UnicodeError" 141 (Value.type "UnicodeError"), kv P "BrokenPipeError" 142 (Value.type "BrokenPipeError"), kv P "ConnectionAbortedError" 143 (Value.type "ConnectionAbortedError"), kv P "ConnectionRefusedError" 144 (Value.type "ConnectionRefusedError"), kv P "ConnectionResetError" 145 (Value.type "ConnectionResetError"), kv P "TabError" 146 (Value.type "TabError"), kv P "UnicodeDecodeError" 147 (Value.type "UnicodeDecodeError"), kv P "UnicodeEncodeError" 148 (Value.type "UnicodeEncodeError"), kv P "UnicodeTranslateError" 149 (Value.type "UnicodeTranslateError"), kv P "ExceptionGroup" 150 (Value.type "ExceptionGroup"), kv P "EnvironmentError" 151 (Value.type "OSError"), kv P "IOError" 152 (Value.type "OSError"), kv P "open" 153 (Value.builtin "open"), kv P "quit" 154 (Value.builtin "builtins.quit#opaque"), kv P "exit" 155 (Value.builtin "builtins.exit#opaque"), kv P "copyright" 156 (Value.builtin "builtins.copyright#opaque"), kv P "credits" 157 (Value.builtin "builtins.credits#opaque"), kv P "license" 158 (Value.builtin "builtins.license#opaque"), kv P "help" 159 (Value.builtin "builtins.help#opaque")] 159 }
noncomputable def o_641 (P : Params) : Obj := { cls := Value.type "dict", data := Data.dict #[kv P "builtins" 162 (Value.ref 4), kv P "__main__" 163 (Value.ref 5)] 2 }
noncomputable def o_642 (P : Params) : Obj := { cls := Value.type "dict", data := Data.dict #[kv P "__name__" 165 (Value.str (Str.ofString "__main__") 164), kv P "__doc__" 166 (Value.none), kv P "__package__" 167 (Value.none), kv P "__loader__" 168 (Value.builtin "__main__.__loader__#opaque"), kv P "__spec__" 169 (Value.none)] 5 }
noncomputable def o_644 (P : Params) : Obj := { cls := Value.type "module", dict := some 3 }
noncomputable def o_625 (P : Params) : Obj := { cls := Value.none, data := Data.dict #[] }
noncomputable def o_643 (P : Params) : Obj := { cls := Value.type "module", dict := some 0 }
noncomputable def o_645 (P : Params) : Obj := { cls := Value.type "dict", data := Data.dict #[] }
noncomputable def tree_645 (P : Params) : BT := BT.node (o_640 P) (BT.node (o_641 P) (BT.node (o_642 P) BT.nil BT.nil) (BT.node (o_644 P) BT.nil BT.nil)) (BT.node (o_625 P) (BT.node (o_643 P) BT.nil BT.nil) (BT.node (o_645 P) BT.nil BT.nil))
noncomputable def o_646 (P : Params) : Obj := { cls := Value.type "dict", data := Data.dict #[kv P "__name__" 165 (Value.str (Str.ofString "__main__") 164), kv P "__doc__" 166 (Value.none), kv P "__package__" 167 (Value.none), kv P "__loader__" 168 (Value.builtin "__main__.__loader__#opaque"), kv P "__spec__" 169 (Value.none), kv P "__annotations__" 170 (Value.ref 6), kv P "__builtins__" 171 (Value.ref 4), kv P "__file__" 173 (Value.str (Str.ofString "/claim/cut.py") 172), kv P "__cached__" 174 (Value.none)] 9 }
noncomputable def o_647 (P : Params) : Obj := { cls := Value.type "tuple", data := Data.seq #[] }
noncomputable def o_657 (P : Params) : Obj := { cls := Value.type "type", data := Data.cls { name := Str.ofString "BuiltinImporter", bases := [Value.type "object"], mro := [Value.ref 15, Value.type "object"], ns := 14, qualname := Str.ofString "BuiltinImporter" } }
noncomputable def o_651 (P : Params) : Obj := { cls := Value.type "tuple", data := Data.seq #[Value.str (Str.ofString "eq") 182, Value.str (Str.ofString "ge") 183, Value.str (Str.ofString "gt") 184, Value.str (Str.ofString "le") 185, Value.str (Str.ofString "lt") 186] }
noncomputable def o_649 (P : Params) : Obj := { cls := Value.type "code", data := Data.fields #[Value.str (Str.ofString "<module>") 176, Value.str (Str.ofString "<module>") 177, Value.str (Str.ofString "/claim/cut.py") 178, Value.int 1 0, Value.int 0 0, Value.int 0 0, Value.int 0 0, Value.int 0 0, Value.ref 7, Value.bool false, Value.int 175 0, Value.ref 8, Value.none, Value.none, Value.none, Value.none, Value.int 179 0, Value.int 1 0, Value.str (Str.ofString "/claim/cut.py") 180] }
noncomputable def o_654 (P : Params) : Obj := { cls := Value.type "module", dict := some 12 }
noncomputable def o_655 (P : Params) : Obj := { cls := Value.none, data := Data.dict #[kv P "\x69mport.loaded._operator" 189 (Value.bool true), kv P "class._frozen_importlib.BuiltinImporter" 191 (Value.ref 15)] 2 }
noncomputable def o_648 (P : Params) : Obj := { cls := Value.none, data := Data.fields #[] }
noncomputable def o_650 (P : Params) : Obj := { cls := Value.type "frame", slots := #[some (Value.ref 9), some (Value.ref 3), some (Value.ref 3), none, some (Value.str (Str.ofString "__main__") 164), none, some (Value.ref 0)] }
noncomputable def o_656 (P : Params) : Obj := { cls := Value.type "dict", data := Data.dict #[kv P "__module__" 195 (Value.str (Str.ofString "_frozen_importlib") 192), kv P "__firstlineno__" 196 (Value.int 971 193), kv P "__doc__" 197 (Value.builtin "_frozen_importlib.BuiltinImporter.__doc__:str#opaque"), kv P "_ORIGIN" 198 (Value.str (Str.ofString "built-in") 194), kv P "find_spec" 199 (Value.builtin "_frozen_importlib.BuiltinImporter.find_spec#opaque"), kv P "create_module" 200 (Value.builtin "_frozen_importlib.BuiltinImporter.create_module#opaque")] 6 }
noncomputable def tree_658 (P : Params) : BT := BT.node (o_640 P) (BT.node (o_641 P) (BT.node (o_646 P) (BT.node (o_647 P) (BT.node (o_657 P) BT.nil BT.nil) BT.nil) (BT.node (o_651 P) BT.nil BT.nil)) (BT.node (o_644 P) (BT.node (o_649 P) BT.nil BT.nil) (BT.node (o_654 P) BT.nil BT.nil))) (BT.node (o_655 P) (BT.node (o_643 P) (BT.node (o_648 P) (BT.node (o_647 P) BT.nil BT.nil) BT.nil) (BT.node (o_645 P) BT.nil BT.nil)) (BT.node (o_645 P) (BT.node (o_650 P) BT.nil BT.nil) (BT.node (o_656 P) BT.nil BT.nil)))
noncomputable def o_668 (P : Params) : Obj := { cls := Value.type "type", data := Data.cls { name := Str.ofString "ModuleSpec", bases := [Value.type "object"], mro := [Value.ref 23, Value.type "object"], ns := 22, qualname := Str.ofString "ModuleSpec" } }
noncomputable def o_662 (P : Params) : Obj := { cls := Value.none, data := Data.seq #[Value.int 14 0, Value.str (Str.mk ⟨[nat_lit 6, nat_lit 195, nat_lit 10, nat_lit 95, nat_lit 95, nat_lit 109, nat_lit 111, nat_lit 100, nat_lit 117, nat_lit 108, nat_lit 101, nat_lit 95, nat_lit 95, nat_lit 6, nat_lit 192, nat_lit 17, nat_lit 95, nat_lit 102, nat_lit 114, nat_lit 111, nat_lit 122, nat_lit 101, nat_lit 110, nat_lit 95, nat_lit 105, nat_lit 109, nat_lit 112, nat_lit 111, nat_lit 114, nat_lit 116, nat_lit 108, nat_lit 105, nat_lit 98, nat_lit 6, nat_lit 196, nat_lit 15, nat_lit 95, nat_lit 95, nat_lit 102, nat_lit 105, nat_lit 114, nat_lit 115, nat_lit 116, nat_lit 108, nat_lit 105, nat_lit 110, nat_lit 101, nat_lit 110, nat_lit 111, nat_lit 95, nat_lit 95, nat_lit 4, nat_lit 193, nat_lit 0, nat_lit 971, nat_lit 6, nat_lit 197, nat_lit 7, nat_lit 95, nat_lit 95, nat_lit 100, nat_lit 111, nat_lit 99, nat_lit 95, nat_lit 95, nat_lit 9, nat_lit 52, nat_lit 95, nat_lit 102, nat_lit 114, nat_lit 111, nat_lit 122, nat_lit 101, nat_lit 110, nat_lit 95, nat_lit 105, nat_lit 109, nat_lit 112, nat_lit 111, nat_lit 114, nat_lit 116, nat_lit 108, nat_lit 105, nat_lit 98, nat_lit 46, nat_lit 66, nat_lit 117, nat_lit 105, nat_lit 108, nat_lit 116, nat_lit 105, nat_lit 110, nat_lit 73, nat_lit 109, nat_lit 112, nat_lit 111, nat_lit 114, nat_lit 116, nat_lit 101, nat_lit 114, nat_lit 46, nat_lit 95, nat_lit 95, nat_lit 100, nat_lit 111, nat_lit 99, nat_lit 95, nat_lit 95, nat_lit 58, nat_lit 115, nat_lit 116, nat_lit 114, nat_lit 35, nat_lit 111, nat_lit 112, nat_lit 97, nat_lit 113, nat_lit 117, nat_lit 101, nat_lit 6, nat_lit 198, nat_lit 7, nat_lit 95, nat_lit 79, nat_lit 82, nat_lit 73, nat_lit 71, nat_lit 73, nat_lit 78, nat_lit 6, nat_lit 194, nat_lit 8, nat_lit 98, nat_lit 117, nat_lit 105, nat_lit 108, nat_lit 116, nat_lit 45, nat_lit 105, nat_lit 110, nat_lit 6, nat_lit 199, nat_lit 9, nat_lit 102, nat_lit 105, nat_lit 110, nat_lit 100, nat_lit 95, nat_lit 115, nat_lit 112, nat_lit 101, nat_lit 99, nat_lit 9, nat_lit 50, nat_lit 95, nat_lit 102, nat_lit 114, nat_lit 111, nat_lit 122, nat_lit 101, nat_lit 110, nat_lit 95, nat_lit 105, nat_lit 109, nat_lit 112, nat_lit 111, nat_lit 114, nat_lit 116, nat_lit 108, nat_lit 105, nat_lit 98, nat_lit 46, nat_lit 66, nat_lit 117, nat_lit 105, nat_lit 108, nat_lit 116, nat_lit 105, nat_lit 110, nat_lit 73, nat_lit 109, nat_lit 112, nat_lit 111, nat_lit 114, nat_lit 116, nat_lit 101, nat_lit 114, nat_lit 46, nat_lit 102, nat_lit 105, nat_lit 110, nat_lit 100, nat_lit 95, nat_lit 115, nat_lit 112, nat_lit 101, nat_lit 99, nat_lit 35, nat_lit 111, nat_lit 112, nat_lit 97, nat_lit 113, nat_lit 117, nat_lit 101, nat_lit 6, nat_lit 200, nat_lit 13, nat_lit 99, nat_lit 114, nat_lit 101, nat_lit 97, nat_lit 116, nat_lit 101, nat_lit 95, nat_lit 109, nat_lit 111, nat_lit 100, nat_lit 117, nat_lit 108, nat_lit 101, nat_lit 9, nat_lit 54, nat_lit 95, nat_lit 102, nat_lit 114, nat_lit 111, nat_lit 122, nat_lit 101, nat_lit 110, nat_lit 95, nat_lit 105, nat_lit 109, nat_lit 112, nat_lit 111, nat_lit 114, nat_lit 116, nat_lit 108, nat_lit 105, nat_lit 98, nat_lit 46, nat_lit 66, nat_lit 117, nat_lit 105, nat_lit 108, nat_lit 116, nat_lit 105, nat_lit 110, nat_lit 73, nat_lit 109, nat_lit 112, nat_lit 111, nat_lit 114, nat_lit 116, nat_lit 101, nat_lit 114, nat_lit 46, nat_lit 99, nat_lit 114, nat_lit 101, nat_lit 97, nat_lit 116, nat_lit 101, nat_lit 95, nat_lit 109, nat_lit 111, nat_lit 100, nat_lit 117, nat_lit 108, nat_lit 101, nat_lit 35, nat_lit 111, nat_lit 112, nat_lit 97, nat_lit 113, nat_lit 117, nat_lit 101, nat_lit 6, nat_lit 201, nat_lit 11, nat_lit 101, nat_lit 120, nat_lit 101, nat_lit 99, nat_lit 95, nat_lit 109, nat_lit 111, nat_lit 100, nat_lit 117, nat_lit 108, nat_lit 101, nat_lit 9, nat_lit 52, nat_lit 95, nat_lit 102, nat_lit 114, nat_lit 111, nat_lit 122, nat_lit 101, nat_lit 110, nat_lit 95, nat_lit 105, nat_lit 109, nat_lit 112, nat_lit 111, nat_lit 114, nat_lit 116, nat_lit 108, nat_lit 105, nat_lit 98, nat_lit 46, nat_lit 66, nat_lit 117, nat_lit 105, nat_lit 108, nat_lit 116, nat_lit 105, nat_lit 110, nat_lit 73, nat_lit 109, nat_lit 112, nat_lit 111, nat_lit 114, nat_lit 116, nat_lit 101, nat_lit 114, nat_lit 46, nat_lit 101, nat_lit 120, nat_lit 101, nat_lit 99, nat_lit 95, nat_lit 109, nat_lit 111, nat_lit 100, nat_lit 117, nat_lit 108, nat_lit 101, nat_lit 35, nat_lit 111, nat_lit 112, nat_lit 97, nat_lit 113, nat_lit 117, nat_lit 101, nat_lit 6, nat_lit 202, nat_lit 8, nat_lit 103, nat_lit 101, nat_lit 116, nat_lit 95, nat_lit 99, nat_lit 111, nat_lit 100, nat_lit 101, nat_lit 9, nat_lit 49, nat_lit 95, nat_lit 102, nat_lit 114, nat_lit 111, nat_lit 122, nat_lit 101, nat_lit 110, nat_lit 95, nat_lit 105, nat_lit 109, nat_lit 112, nat_lit 111, nat_lit 114, nat_lit 116, nat_lit 108, nat_lit 105, nat_lit 98, nat_lit 46, nat_lit 66, nat_lit 117, nat_lit 105, nat_lit 108, nat_lit 116, nat_lit 105, nat_lit 110, nat_lit 73, nat_lit 109, nat_lit 112, nat_lit 111, nat_lit 114, nat_lit 116, nat_lit 101, nat_lit 114, nat_lit 46, nat_lit 103, nat_lit 101, nat_lit 116, nat_lit 95, nat_lit 99, nat_lit 111, nat_lit 100, nat_lit 101, nat_lit 35, nat_lit 111, nat_lit 112, nat_lit 97, nat_lit 113, nat_lit 117, nat_lit 101, nat_lit 6, nat_lit 203, nat_lit 10, nat_lit 103, nat_lit 101, nat_lit 116, nat_lit 95, nat_lit 115, nat_lit 111, nat_lit 117, nat_lit 114, nat_lit 99, nat_lit 101, nat_lit 9, nat_lit 51, nat_lit 95, nat_lit 102, nat_lit 114, nat_lit 111, nat_lit 122, nat_lit 101, nat_lit 110, nat_lit 95, nat_lit 105, nat_lit 109, nat_lit 112, nat_lit 111, nat_lit 114, nat_lit 116, nat_lit 108, nat_lit 105, nat_lit 98, nat_lit 46, nat_lit 66, nat_lit 117, nat_lit 105, nat_lit 108, nat_lit 116, nat_lit 105, nat_lit 110, nat_lit 73, nat_lit 109, nat_lit 112, nat_lit 111, nat_lit 114, nat_lit 116, nat_lit 101, nat_lit 114, nat_lit 46, nat_lit 103, nat_lit 101, nat_lit 116, nat_lit 95, nat_lit 115, nat_lit 111, nat_lit 117, nat_lit 114, nat_lit 99, nat_lit 101, nat_lit 35, nat_lit 111, nat_lit 112, nat_lit 97, nat_lit 113, nat_lit 117, nat_lit 101, nat_lit 6, nat_lit 204, nat_lit 10, nat_lit 105, nat_lit 115, nat_lit 95, nat_lit 112, nat_lit 97, nat_lit 99, nat_lit 107, nat_lit 97, nat_lit 103, nat_lit 101, nat_lit 9, nat_lit 51, nat_lit 95, nat_lit 102, nat_lit 114, nat_lit 111, nat_lit 122, nat_lit 101, nat_lit 110, nat_lit 95, nat_lit 105, nat_lit 109, nat_lit 112, nat_lit 111, nat_lit 114, nat_lit 116, nat_lit 108, nat_lit 105, nat_lit 98, nat_lit 46, nat_lit 66, nat_lit 117, nat_lit 105, nat_lit 108, nat_lit 116, nat_lit 105, nat_lit 110, nat_lit 73, nat_lit 109, nat_lit 112, nat_lit 111, nat_lit 114, nat_lit 116, nat_lit 101, nat_lit 114, nat_lit 46, nat_lit 105, nat_lit 115, nat_lit 95, nat_lit 112, nat_lit 97, nat_lit 99, nat_lit 107, nat_lit 97, nat_lit 103, nat_lit 101, nat_lit 35, nat_lit 111, nat_lit 112, nat_lit 97, nat_lit 113, nat_lit 117, nat_lit 101, nat_lit 6, nat_lit 205, nat_lit 11, nat_lit 108, nat_lit 111, nat_lit 97, nat_lit 100, nat_lit 95, nat_lit 109, nat_lit 111, nat_lit 100, nat_lit 117, nat_lit 108, nat_lit 101, nat_lit 9, nat_lit 52, nat_lit 95, nat_lit 102, nat_lit 114, nat_lit 111, nat_lit 122, nat_lit 101, nat_lit 110, nat_lit 95, nat_lit 105, nat_lit 109, nat_lit 112, nat_lit 111, nat_lit 114, nat_lit 116, nat_lit 108, nat_lit 105, nat_lit 98, nat_lit 46, nat_lit 66, nat_lit 117, nat_lit 105, nat_lit 108, nat_lit 116, nat_lit 105, nat_lit 110, nat_lit 73, nat_lit 109, nat_lit 112, nat_lit 111, nat_lit 114, nat_lit 116, nat_lit 101, nat_lit 114, nat_lit 46, nat_lit 108, nat_lit 111, nat_lit 97, nat_lit 100, nat_lit 95, nat_lit 109, nat_lit 111, nat_lit 100, nat_lit 117, nat_lit 108, nat_lit 101, nat_lit 35, nat_lit 111, nat_lit 112, nat_lit 97, nat_lit 113, nat_lit 117, nat_lit 101, nat_lit 6, nat_lit 206, nat_lit 21, nat_lit 95, nat_lit 95, nat_lit 115, nat_lit 116, nat_lit 97, nat_lit 116, nat_lit 105, nat_lit 99, nat_lit 95, nat_lit 97, nat_lit 116, nat_lit 116, nat_lit 114, nat_lit 105, nat_lit 98, nat_lit 117, nat_lit 116, nat_lit 101, nat_lit 115, nat_lit 95, nat_lit 95, nat_lit 4, nat_lit 0, nat_lit 0, nat_lit 16, nat_lit 6, nat_lit 208, nat_lit 8, nat_lit 95, nat_lit 95, nat_lit 100, nat_lit 105, nat_lit 99, nat_lit 116, nat_lit 95, nat_lit 95, nat_lit 4, nat_lit 0, nat_lit 0, nat_lit 17, nat_lit 6, nat_lit 210, nat_lit 11, nat_lit 95, nat_lit 95, nat_lit 119, nat_lit 101, nat_lit 97, nat_lit 107, nat_lit 114, nat_lit 101, nat_lit 102, nat_lit 95, nat_lit 95, nat_lit 4, nat_lit 0, nat_lit 0, nat_lit 18]⟩) 0, Value.bool true, Value.bool true, Value.str (Str.ofString "") 211] }
noncomputable def o_660 (P : Params) : Obj := { cls := Value.type "getset_descriptor", data := Data.fields #[Value.str (Str.ofString "__dict__") 207, Value.ref 15, Value.builtin "function.__dict__", Value.builtin "function.__dict__#set"] }
noncomputable def o_665 (P : Params) : Obj := { cls := Value.type "dict", data := Data.dict #[kv P "name" 214 (Value.str (Str.ofString "_operator") 213), kv P "loader" 215 (Value.ref 15), kv P "origin" 216 (Value.str (Str.ofString "built-in") 190), kv P "loader_state" 217 (Value.none), kv P "submodule_search_locations" 218 (Value.none), kv P "_uninitialized_submodules" 219 (Value.ref 20), kv P "_set_fileattr" 220 (Value.bool false), kv P "_cached" 221 (Value.none)] 8 }
noncomputable def o_666 (P : Params) : Obj := { cls := Value.none, data := Data.dict #[kv P "\x69mport.loaded._operator" 189 (Value.bool true), kv P "class._frozen_importlib.BuiltinImporter" 191 (Value.ref 15), kv P "watched.\x69mport" 212 (Value.ref 19), kv P "class._frozen_importlib.ModuleSpec" 222 (Value.ref 23)] 4 }
noncomputable def o_669 (P : Params) : Obj := { cls := Value.type "tuple", data := Data.seq #[Value.str (Str.ofString "_cached") 225, Value.str (Str.ofString "_set_fileattr") 226, Value.str (Str.ofString "_uninitialized_submodules") 227, Value.str (Str.ofString "loader") 228, Value.str (Str.ofString "loader_state") 229, Value.str (Str.ofString "name") 230, Value.str (Str.ofString "origin") 231, Value.str (Str.ofString "submodule_search_locations") 232] }
noncomputable def o_664 (P : Params) : Obj := { cls := Value.type "list", data := Data.seq #[] }
noncomputable def o_661 (P : Params) : Obj := { cls := Value.type "getset_descriptor", data := Data.fields #[Value.str (Str.ofString "__weakref__") 209, Value.ref 15, Value.builtin "ExceptionGroup.__weakref__", Value.none] }
noncomputable def o_659 (P : Params) : Obj := { cls := Value.type "dict", data := Data.dict #[kv P "__module__" 195 (Value.str (Str.ofString "_frozen_importlib") 192), kv P "__firstlineno__" 196 (Value.int 971 193), kv P "__doc__" 197 (Value.builtin "_frozen_importlib.BuiltinImporter.__doc__:str#opaque"), kv P "_ORIGIN" 198 (Value.str (Str.ofString "built-in") 194), kv P "find_spec" 199 (Value.builtin "_frozen_importlib.BuiltinImporter.find_spec#opaque"), kv P "create_module" 200 (Value.builtin "_frozen_importlib.BuiltinImporter.create_module#opaque"), kv P "exec_module" 201 (Value.builtin "_frozen_importlib.BuiltinImporter.exec_module#opaque"), kv P "get_code" 202 (Value.builtin "_frozen_importlib.BuiltinImporter.get_code#opaque"), kv P "get_source" 203 (Value.builtin "_frozen_importlib.BuiltinImporter.get_source#opaque"), kv P "is_package" 204 (Value.builtin "_frozen_importlib.BuiltinImporter.is_package#opaque"), kv P "load_module" 205 (Value.builtin "_frozen_importlib.BuiltinImporter.load_module#opaque"), kv P "__static_attributes__" 206 (Value.ref 16), kv P "__dict__" 208 (Value.ref 17), kv P "__weakref__" 210 (Value.ref 18)] 14 }
noncomputable def o_667 (P : Params) : Obj := { cls := Value.type "dict", data := Data.dict #[kv P "__module__" 233 (Value.str (Str.ofString "_frozen_importlib") 223), kv P "__firstlineno__" 234 (Value.int 562 224), kv P "__doc__" 235 (Value.builtin "_frozen_importlib.ModuleSpec.__doc__:str#opaque"), kv P "__init__" 236 (Value.builtin "_frozen_importlib.ModuleSpec.__init__#opaque")] 4 }
noncomputable def tree_669 (P : Params) : BT := BT.node (o_640 P) (BT.node (o_641 P) (BT.node (o_646 P) (BT.node (o_647 P) (BT.node (o_657 P) BT.nil BT.nil) (BT.node (o_668 P) BT.nil BT.nil)) (BT.node (o_651 P) (BT.node (o_662 P) BT.nil BT.nil) BT.nil)) (BT.node (o_644 P) (BT.node (o_649 P) (BT.node (o_660 P) BT.nil BT.nil) BT.nil) (BT.node (o_654 P) (BT.node (o_665 P) BT.nil BT.nil) BT.nil))) (BT.node (o_666 P) (BT.node (o_643 P) (BT.node (o_648 P) (BT.node (o_647 P) BT.nil BT.nil) (BT.node (o_669 P) BT.nil BT.nil)) (BT.node (o_645 P) (BT.node (o_664 P) BT.nil BT.nil) BT.nil)) (BT.node (o_645 P) (BT.node (o_650 P) (BT.node (o_661 P) BT.nil BT.nil) BT.nil) (BT.node (o_659 P) (BT.node (o_667 P) BT.nil BT.nil) BT.nil)))
noncomputable def o_673 (P : Params) : Obj := { cls := Value.type "dict", data := Data.dict #[kv P "builtins" 162 (Value.ref 4), kv P "__main__" 163 (Value.ref 5), kv P "_operator" 250 (Value.ref 13)] 3 }
noncomputable def o_675 (P : Params) : Obj := { cls := Value.none, data := Data.seq #[Value.int 14 0, Value.str (Str.mk ⟨[nat_lit 6, nat_lit 195, nat_lit 10, nat_lit 95, nat_lit 95, nat_lit 109, nat_lit 111, nat_lit 100, nat_lit 117, nat_lit 108, nat_lit 101, nat_lit 95, nat_lit 95, nat_lit 6, nat_lit 192, nat_lit 17, nat_lit 95, nat_lit 102, nat_lit 114, nat_lit 111, nat_lit 122, nat_lit 101, nat_lit 110, nat_lit 95, nat_lit 105, nat_lit 109, nat_lit 112, nat_lit 111, nat_lit 114, nat_lit 116, nat_lit 108, nat_lit 105, nat_lit 98, nat_lit 6, nat_lit 196, nat_lit 15, nat_lit 95, nat_lit 95, nat_lit 102, nat_lit 105, nat_lit 114, nat_lit 115, nat_lit 116, nat_lit 108, nat_lit 105, nat_lit 110, nat_lit 101, nat_lit 110, nat_lit 111, nat_lit 95, nat_lit 95, nat_lit 4, nat_lit 193, nat_lit 0, nat_lit 971, nat_lit 6, nat_lit 197, nat_lit 7, nat_lit 95, nat_lit 95, nat_lit 100, nat_lit 111, nat_lit 99, nat_lit 95, nat_lit 95, nat_lit 9, nat_lit 52, nat_lit 95, nat_lit 102, nat_lit 114, nat_lit 111, nat_lit 122, nat_lit 101, nat_lit 110, nat_lit 95, nat_lit 105, nat_lit 109, nat_lit 112, nat_lit 111, nat_lit 114, nat_lit 116, nat_lit 108, nat_lit 105, nat_lit 98, nat_lit 46, nat_lit 66, nat_lit 117, nat_lit 105, nat_lit 108, nat_lit 116, nat_lit 105, nat_lit 110, nat_lit 73, nat_lit 109, nat_lit 112, nat_lit 111, nat_lit 114, nat_lit 116, nat_lit 101, nat_lit 114, nat_lit 46, nat_lit 95, nat_lit 95, nat_lit 100, nat_lit 111, nat_lit 99, nat_lit 95, nat_lit 95, nat_lit 58, nat_lit 115, nat_lit 116, nat_lit 114, nat_lit 35, nat_lit 111, nat_lit 112, nat_lit 97, nat_lit 113, nat_lit 117, nat_lit 101, nat_lit 6, nat_lit 198, nat_lit 7, nat_lit 95, nat_lit 79, nat_lit 82, nat_lit 73, nat_lit 71, nat_lit 73, nat_lit 78, nat_lit 6, nat_lit 194, nat_lit 8, nat_lit 98, nat_lit 117, nat_lit 105, nat_lit 108, nat_lit 116, nat_lit 45, nat_lit 105, nat_lit 110, nat_lit 6, nat_lit 199, nat_lit 9, nat_lit 102, nat_lit 105, nat_lit 110, nat_lit 100, nat_lit 95, nat_lit 115, nat_lit 112, nat_lit 101, nat_lit 99, nat_lit 9, nat_lit 50, nat_lit 95, nat_lit 102, nat_lit 114, nat_lit 111, nat_lit 122, nat_lit 101, nat_lit 110, nat_lit 95, nat_lit 105, nat_lit 109, nat_lit 112, nat_lit 111, nat_lit 114, nat_lit 116, nat_lit 108, nat_lit 105, nat_lit 98, nat_lit 46, nat_lit 66, nat_lit 117, nat_lit 105, nat_lit 108, nat_lit 116, nat_lit 105, nat_lit 110, nat_lit 73, nat_lit 109, nat_lit 112, nat_lit 111, nat_lit 114, nat_lit 116, nat_lit 101, nat_lit 114, nat_lit 46, nat_lit 102, nat_lit 105, nat_lit 110, nat_lit 100, nat_lit 95, nat_lit 115, nat_lit 112, nat_lit 101, nat_lit 99, nat_lit 35, nat_lit 111, nat_lit 112, nat_lit 97, nat_lit 113, nat_lit 117, nat_lit 101, nat_lit 6, nat_lit 200, nat_lit 13, nat_lit 99, nat_lit 114, nat_lit 101, nat_lit 97, nat_lit 116, nat_lit 101, nat_lit 95, nat_lit 109, nat_lit 111, nat_lit 100, nat_lit 117, nat_lit 108, nat_lit 101, nat_lit 9, nat_lit 54, nat_lit 95, nat_lit 102, nat_lit 114, nat_lit 111, nat_lit 122, nat_lit 101, nat_lit 110, nat_lit 95, nat_lit 105, nat_lit 109, nat_lit 112, nat_lit 111, nat_lit 114, nat_lit 116, nat_lit 108, nat_lit 105, nat_lit 98, nat_lit 46, nat_lit 66, nat_lit 117, nat_lit 105, nat_lit 108, nat_lit 116, nat_lit 105, nat_lit 110, nat_lit 73, nat_lit 109, nat_lit 112, nat_lit 111, nat_lit 114, nat_lit 116, nat_lit 101, nat_lit 114, nat_lit 46, nat_lit 99, nat_lit 114, nat_lit 101, nat_lit 97, nat_lit 116, nat_lit 101, nat_lit 95, nat_lit 109, nat_lit 111, nat_lit 100, nat_lit 117, nat_lit 108, nat_lit 101, nat_lit 35, nat_lit 111, nat_lit 112, nat_lit 97, nat_lit 113, nat_lit 117, nat_lit 101, nat_lit 6, nat_lit 201, nat_lit 11, nat_lit 101, nat_lit 120, nat_lit 101, nat_lit 99, nat_lit 95, nat_lit 109, nat_lit 111, nat_lit 100, nat_lit 117, nat_lit 108, nat_lit 101, nat_lit 9, nat_lit 52, nat_lit 95, nat_lit 102, nat_lit 114, nat_lit 111, nat_lit 122, nat_lit 101, nat_lit 110, nat_lit 95, nat_lit 105, nat_lit 109, nat_lit 112, nat_lit 111, nat_lit 114, nat_lit 116, nat_lit 108, nat_lit 105, nat_lit 98, nat_lit 46, nat_lit 66, nat_lit 117, nat_lit 105, nat_lit 108, nat_lit 116, nat_lit 105, nat_lit 110, nat_lit 73, nat_lit 109, nat_lit 112, nat_lit 111, nat_lit 114, nat_lit 116, nat_lit 101, nat_lit 114, nat_lit 46, nat_lit 101, nat_lit 120, nat_lit 101, nat_lit 99, nat_lit 95, nat_lit 109, nat_lit 111, nat_lit 100, nat_lit 117, nat_lit 108, nat_lit 101, nat_lit 35, nat_lit 111, nat_lit 112, nat_lit 97, nat_lit 113, nat_lit 117, nat_lit 101, nat_lit 6, nat_lit 202, nat_lit 8, nat_lit 103, nat_lit 101, nat_lit 116, nat_lit 95, nat_lit 99, nat_lit 111, nat_lit 100, nat_lit 101, nat_lit 9, nat_lit 49, nat_lit 95, nat_lit 102, nat_lit 114, nat_lit 111, nat_lit 122, nat_lit 101, nat_lit 110, nat_lit 95, nat_lit 105, nat_lit 109, nat_lit 112, nat_lit 111, nat_lit 114, nat_lit 116, nat_lit 108, nat_lit 105, nat_lit 98, nat_lit 46, nat_lit 66, nat_lit 117, nat_lit 105, nat_lit 108, nat_lit 116, nat_lit 105, nat_lit 110, nat_lit 73, nat_lit 109, nat_lit 112, nat_lit 111, nat_lit 114, nat_lit 116, nat_lit 101, nat_lit 114, nat_lit 46, nat_lit 103, nat_lit 101, nat_lit 116, nat_lit 95, nat_lit 99, nat_lit 111, nat_lit 100, nat_lit 101, nat_lit 35, nat_lit 111, nat_lit 112, nat_lit 97, nat_lit 113, nat_lit 117, nat_lit 101, nat_lit 6, nat_lit 203, nat_lit 10, nat_lit 103, nat_lit 101, nat_lit 116, nat_lit 95, nat_lit 115, nat_lit 111, nat_lit 117, nat_lit 114, nat_lit 99, nat_lit 101, nat_lit 9, nat_lit 51, nat_lit 95, nat_lit 102, nat_lit 114, nat_lit 111, nat_lit 122, nat_lit 101, nat_lit 110, nat_lit 95, nat_lit 105, nat_lit 109, nat_lit 112, nat_lit 111, nat_lit 114, nat_lit 116, nat_lit 108, nat_lit 105, nat_lit 98, nat_lit 46, nat_lit 66, nat_lit 117, nat_lit 105, nat_lit 108, nat_lit 116, nat_lit 105, nat_lit 110, nat_lit 73, nat_lit 109, nat_lit 112, nat_lit 111, nat_lit 114, nat_lit 116, nat_lit 101, nat_lit 114, nat_lit 46, nat_lit 103, nat_lit 101, nat_lit 116, nat_lit 95, nat_lit 115, nat_lit 111, nat_lit 117, nat_lit 114, nat_lit 99, nat_lit 101, nat_lit 35, nat_lit 111, nat_lit 112, nat_lit 97, nat_lit 113, nat_lit 117, nat_lit 101, nat_lit 6, nat_lit 204, nat_lit 10, nat_lit 105, nat_lit 115, nat_lit 95, nat_lit 112, nat_lit 97, nat_lit 99, nat_lit 107, nat_lit 97, nat_lit 103, nat_lit 101, nat_lit 9, nat_lit 51, nat_lit 95, nat_lit 102, nat_lit 114, nat_lit 111, nat_lit 122, nat_lit 101, nat_lit 110, nat_lit 95, nat_lit 105, nat_lit 109, nat_lit 112, nat_lit 111, nat_lit 114, nat_lit 116, nat_lit 108, nat_lit 105, nat_lit 98, nat_lit 46, nat_lit 66, nat_lit 117, nat_lit 105, nat_lit 108, nat_lit 116, nat_lit 105, nat_lit 110, nat_lit 73, nat_lit 109, nat_lit 112, nat_lit 111, nat_lit 114, nat_lit 116, nat_lit 101, nat_lit 114, nat_lit 46, nat_lit 105, nat_lit 115, nat_lit 95, nat_lit 112, nat_lit 97, nat_lit 99, nat_lit 107, nat_lit 97, nat_lit 103, nat_lit 101, nat_lit 35, nat_lit 111, nat_lit 112, nat_lit 97, nat_lit 113, nat_lit 117, nat_lit 101, nat_lit 6, nat_lit 205, nat_lit 11, nat_lit 108, nat_lit 111, nat_lit 97, nat_lit 100, nat_lit 95, nat_lit 109, nat_lit 111, nat_lit 100, nat_lit 117, nat_lit 108, nat_lit 101, nat_lit 9, nat_lit 52, nat_lit 95, nat_lit 102, nat_lit 114, nat_lit 111, nat_lit 122, nat_lit 101, nat_lit 110, nat_lit 95, nat_lit 105, nat_lit 109, nat_lit 112, nat_lit 111, nat_lit 114, nat_lit 116, nat_lit 108, nat_lit 105, nat_lit 98, nat_lit 46, nat_lit 66, nat_lit 117, nat_lit 105, nat_lit 108, nat_lit 116, nat_lit 105, nat_lit 110, nat_lit 73, nat_lit 109, nat_lit 112, nat_lit 111, nat_lit 114, nat_lit 116, nat_lit 101, nat_lit 114, nat_lit 46, nat_lit 108, nat_lit 111, nat_lit 97, nat_lit 100, nat_lit 95, nat_lit 109, nat_lit 111, nat_lit 100, nat_lit 117, nat_lit 108, nat_lit 101, nat_lit 35, nat_lit 111, nat_lit 112, nat_lit 97, nat_lit 113, nat_lit 117, nat_lit 101, nat_lit 6, nat_lit 206, nat_lit 21, nat_lit 95, nat_lit 95, nat_lit 115, nat_lit 116, nat_lit 97, nat_lit 116, nat_lit 105, nat_lit 99, nat_lit 95, nat_lit 97, nat_lit 116, nat_lit 116, nat_lit 114, nat_lit 105, nat_lit 98, nat_lit 117, nat_lit 116, nat_lit 101, nat_lit 115, nat_lit 95, nat_lit 95, nat_lit 4, nat_lit 0, nat_lit 0, nat_lit 16, nat_lit 6, nat_lit 208, nat_lit 8, nat_lit 95, nat_lit 95, nat_lit 100, nat_lit 105, nat_lit 99, nat_lit 116, nat_lit 95, nat_lit 95, nat_lit 4, nat_lit 0, nat_lit 0, nat_lit 17, nat_lit 6, nat_lit 210, nat_lit 11, nat_lit 95, nat_lit 95, nat_lit 119, nat_lit 101, nat_lit 97, nat_lit 107, nat_lit 114, nat_lit 101, nat_lit 102, nat_lit 95, nat_lit 95, nat_lit 4, nat_lit 0, nat_lit 0, nat_lit 18]⟩) 0, Value.bool true, Value.bool true, Value.str (Str.ofString "") 211, Value.int 22 0, Value.str (Str.mk ⟨[nat_lit 6, nat_lit 233, nat_lit 10, nat_lit 95, nat_lit 95, nat_lit 109, nat_lit 111, nat_lit 100, nat_lit 117, nat_lit 108, nat_lit 101, nat_lit 95, nat_lit 95, nat_lit 6, nat_lit 223, nat_lit 17, nat_lit 95, nat_lit 102, nat_lit 114, nat_lit 111, nat_lit 122, nat_lit 101, nat_lit 110, nat_lit 95, nat_lit 105, nat_lit 109, nat_lit 112, nat_lit 111, nat_lit 114, nat_lit 116, nat_lit 108, nat_lit 105, nat_lit 98, nat_lit 6, nat_lit 234, nat_lit 15, nat_lit 95, nat_lit 95, nat_lit 102, nat_lit 105, nat_lit 114, nat_lit 115, nat_lit 116, nat_lit 108, nat_lit 105, nat_lit 110, nat_lit 101, nat_lit 110, nat_lit 111, nat_lit 95, nat_lit 95, nat_lit 4, nat_lit 224, nat_lit 0, nat_lit 562, nat_lit 6, nat_lit 235, nat_lit 7, nat_lit 95, nat_lit 95, nat_lit 100, nat_lit 111, nat_lit 99, nat_lit 95, nat_lit 95, nat_lit 9, nat_lit 47, nat_lit 95, nat_lit 102, nat_lit 114, nat_lit 111, nat_lit 122, nat_lit 101, nat_lit 110, nat_lit 95, nat_lit 105, nat_lit 109, nat_lit 112, nat_lit 111, nat_lit 114, nat_lit 116, nat_lit 108, nat_lit 105, nat_lit 98, nat_lit 46, nat_lit 77, nat_lit 111, nat_lit 100, nat_lit 117, nat_lit 108, nat_lit 101, nat_lit 83, nat_lit 112, nat_lit 101, nat_lit 99, nat_lit 46, nat_lit 95, nat_lit 95, nat_lit 100, nat_lit 111, nat_lit 99, nat_lit 95, nat_lit 95, nat_lit 58, nat_lit 115, nat_lit 116, nat_lit 114, nat_lit 35, nat_lit 111, nat_lit 112, nat_lit 97, nat_lit 113, nat_lit 117, nat_lit 101, nat_lit 6, nat_lit 236, nat_lit 8, nat_lit 95, nat_lit 95, nat_lit 105, nat_lit 110, nat_lit 105, nat_lit 116, nat_lit 95, nat_lit 95, nat_lit 9, nat_lit 44, nat_lit 95, nat_lit 102, nat_lit 114, nat_lit 111, nat_lit 122, nat_lit 101, nat_lit 110, nat_lit 95, nat_lit 105, nat_lit 109, nat_lit 112, nat_lit 111, nat_lit 114, nat_lit 116, nat_lit 108, nat_lit 105, nat_lit 98, nat_lit 46, nat_lit 77, nat_lit 111, nat_lit 100, nat_lit 117, nat_lit 108, nat_lit 101, nat_lit 83, nat_lit 112, nat_lit 101, nat_lit 99, nat_lit 46, nat_lit 95, nat_lit 95, nat_lit 105, nat_lit 110, nat_lit 105, nat_lit 116, nat_lit 95, nat_lit 95, nat_lit 35, nat_lit 111, nat_lit 112, nat_lit 97, nat_lit 113, nat_lit 117, nat_lit 101, nat_lit 6, nat_lit 237, nat_lit 8, nat_lit 95, nat_lit 95, nat_lit 114, nat_lit 101, nat_lit 112, nat_lit 114, nat_lit 95, nat_lit 95, nat_lit 9, nat_lit 44, nat_lit 95, nat_lit 102, nat_lit 114, nat_lit 111, nat_lit 122, nat_lit 101, nat_lit 110, nat_lit 95, nat_lit 105, nat_lit 109, nat_lit 112, nat_lit 111, nat_lit 114, nat_lit 116, nat_lit 108, nat_lit 105, nat_lit 98, nat_lit 46, nat_lit 77, nat_lit 111, nat_lit 100, nat_lit 117, nat_lit 108, nat_lit 101, nat_lit 83, nat_lit 112, nat_lit 101, nat_lit 99, nat_lit 46, nat_lit 95, nat_lit 95, nat_lit 114, nat_lit 101, nat_lit 112, nat_lit 114, nat_lit 95, nat_lit 95, nat_lit 35, nat_lit 111, nat_lit 112, nat_lit 97, nat_lit 113, nat_lit 117, nat_lit 101, nat_lit 6, nat_lit 238, nat_lit 6, nat_lit 95, nat_lit 95, nat_lit 101, nat_lit 113, nat_lit 95, nat_lit 95, nat_lit 9, nat_lit 42, nat_lit 95, nat_lit 102, nat_lit 114, nat_lit 111, nat_lit 122, nat_lit 101, nat_lit 110, nat_lit 95, nat_lit 105, nat_lit 109, nat_lit 112, nat_lit 111, nat_lit 114, nat_lit 116, nat_lit 108, nat_lit 105, nat_lit 98, nat_lit 46, nat_lit 77, nat_lit 111, nat_lit 100, nat_lit 117, nat_lit 108, nat_lit 101, nat_lit 83, nat_lit 112, nat_lit 101, nat_lit 99, nat_lit 46, nat_lit 95, nat_lit 95, nat_lit 101, nat_lit 113, nat_lit 95, nat_lit 95, nat_lit 35, nat_lit 111, nat_lit 112, nat_lit 97, nat_lit 113, nat_lit 117, nat_lit 101, nat_lit 6, nat_lit 239, nat_lit 6, nat_lit 99, nat_lit 97, nat_lit 99, nat_lit 104, nat_lit 101, nat_lit 100, nat_lit 9, nat_lit 42, nat_lit 95, nat_lit 102, nat_lit 114, nat_lit 111, nat_lit 122, nat_lit 101, nat_lit 110, nat_lit 95, nat_lit 105, nat_lit 109, nat_lit 112, nat_lit 111, nat_lit 114, nat_lit 116, nat_lit 108, nat_lit 105, nat_lit 98, nat_lit 46, nat_lit 77, nat_lit 111, nat_lit 100, nat_lit 117, nat_lit 108, nat_lit 101, nat_lit 83, nat_lit 112, nat_lit 101, nat_lit 99, nat_lit 46, nat_lit 99, nat_lit 97, nat_lit 99, nat_lit 104, nat_lit 101, nat_lit 100, nat_lit 35, nat_lit 111, nat_lit 112, nat_lit 97, nat_lit 113, nat_lit 117, nat_lit 101, nat_lit 6, nat_lit 240, nat_lit 6, nat_lit 112, nat_lit 97, nat_lit 114, nat_lit 101, nat_lit 110, nat_lit 116, nat_lit 9, nat_lit 42, nat_lit 95, nat_lit 102, nat_lit 114, nat_lit 111, nat_lit 122, nat_lit 101, nat_lit 110, nat_lit 95, nat_lit 105, nat_lit 109, nat_lit 112, nat_lit 111, nat_lit 114, nat_lit 116, nat_lit 108, nat_lit 105, nat_lit 98, nat_lit 46, nat_lit 77, nat_lit 111, nat_lit 100, nat_lit 117, nat_lit 108, nat_lit 101, nat_lit 83, nat_lit 112, nat_lit 101, nat_lit 99, nat_lit 46, nat_lit 112, nat_lit 97, nat_lit 114, nat_lit 101, nat_lit 110, nat_lit 116, nat_lit 35, nat_lit 111, nat_lit 112, nat_lit 97, nat_lit 113, nat_lit 117, nat_lit 101, nat_lit 6, nat_lit 241, nat_lit 12, nat_lit 104, nat_lit 97, nat_lit 115, nat_lit 95, nat_lit 108, nat_lit 111, nat_lit 99, nat_lit 97, nat_lit 116, nat_lit 105, nat_lit 111, nat_lit 110, nat_lit 9, nat_lit 48, nat_lit 95, nat_lit 102, nat_lit 114, nat_lit 111, nat_lit 122, nat_lit 101, nat_lit 110, nat_lit 95, nat_lit 105, nat_lit 109, nat_lit 112, nat_lit 111, nat_lit 114, nat_lit 116, nat_lit 108, nat_lit 105, nat_lit 98, nat_lit 46, nat_lit 77, nat_lit 111, nat_lit 100, nat_lit 117, nat_lit 108, nat_lit 101, nat_lit 83, nat_lit 112, nat_lit 101, nat_lit 99, nat_lit 46, nat_lit 104, nat_lit 97, nat_lit 115, nat_lit 95, nat_lit 108, nat_lit 111, nat_lit 99, nat_lit 97, nat_lit 116, nat_lit 105, nat_lit 111, nat_lit 110, nat_lit 35, nat_lit 111, nat_lit 112, nat_lit 97, nat_lit 113, nat_lit 117, nat_lit 101, nat_lit 6, nat_lit 242, nat_lit 21, nat_lit 95, nat_lit 95, nat_lit 115, nat_lit 116, nat_lit 97, nat_lit 116, nat_lit 105, nat_lit 99, nat_lit 95, nat_lit 97, nat_lit 116, nat_lit 116, nat_lit 114, nat_lit 105, nat_lit 98, nat_lit 117, nat_lit 116, nat_lit 101, nat_lit 115, nat_lit 95, nat_lit 95, nat_lit 4, nat_lit 0, nat_lit 0, nat_lit 24, nat_lit 6, nat_lit 244, nat_lit 8, nat_lit 95, nat_lit 95, nat_lit 100, nat_lit 105, nat_lit 99, nat_lit 116, nat_lit 95, nat_lit 95, nat_lit 4, nat_lit 0, nat_lit 0, nat_lit 25, nat_lit 6, nat_lit 246, nat_lit 11, nat_lit 95, nat_lit 95, nat_lit 119, nat_lit 101, nat_lit 97, nat_lit 107, nat_lit 114, nat_lit 101, nat_lit 102, nat_lit 95, nat_lit 95, nat_lit 4, nat_lit 0, nat_lit 0, nat_lit 26, nat_lit 6, nat_lit 247, nat_lit 8, nat_lit 95, nat_lit 95, nat_lit 104, nat_lit 97, nat_lit 115, nat_lit 104, nat_lit 95, nat_lit 95, nat_lit 0]⟩) 0, Value.bool true, Value.bool true, Value.str (Str.ofString "") 248] 1 }
noncomputable def o_677 (P : Params) : Obj := { cls := Value.ref 23, dict := some 21 }
noncomputable def o_671 (P : Params) : Obj := { cls := Value.type "getset_descriptor", data := Data.fields #[Value.str (Str.ofString "__dict__") 243, Value.ref 23, Value.builtin "function.__dict__", Value.builtin "function.__dict__#set"] }
noncomputable def o_676 (P : Params) : Obj := { cls := Value.type "dict", data := Data.dict #[kv P "name" 214 (Value.str (Str.ofString "_operator") 213), kv P "loader" 215 (Value.ref 15), kv P "origin" 216 (Value.str (Str.ofString "built-in") 190), kv P "loader_state" 217 (Value.none), kv P "submodule_search_locations" 218 (Value.none), kv P "_uninitialized_submodules" 219 (Value.ref 20), kv P "_set_fileattr" 220 (Value.bool false), kv P "_cached" 221 (Value.none), kv P "_initializing" 249 (Value.bool true)] 9 }
noncomputable def o_678 (P : Params) : Obj := { cls := Value.none, data := Data.dict #[kv P "\x69mport.loaded._operator" 189 (Value.bool true), kv P "class._frozen_importlib.BuiltinImporter" 191 (Value.ref 15), kv P "watched.\x69mport" 212 (Value.ref 19), kv P "class._frozen_importlib.ModuleSpec" 222 (Value.ref 23), kv P "sys.modules.booked-epoch" 251 (Value.int 3 0), kv P "sys.modules.landed._operator" 252 (Value.bool true)] 6 }
noncomputable def o_672 (P : Params) : Obj := { cls := Value.type "getset_descriptor", data := Data.fields #[Value.str (Str.ofString "__weakref__") 245, Value.ref 23, Value.builtin "ExceptionGroup.__weakref__", Value.none] }
noncomputable def o_670 (P : Params) : Obj := { cls := Value.type "dict", data := Data.dict #[kv P "__module__" 233 (Value.str (Str.ofString "_frozen_importlib") 223), kv P "__firstlineno__" 234 (Value.int 562 224), kv P "__doc__" 235 (Value.builtin "_frozen_importlib.ModuleSpec.__doc__:str#opaque"), kv P "__init__" 236 (Value.builtin "_frozen_importlib.ModuleSpec.__init__#opaque"), kv P "__repr__" 237 (Value.builtin "_frozen_importlib.ModuleSpec.__repr__#opaque"), kv P "__eq__" 238 (Value.builtin "_frozen_importlib.ModuleSpec.__eq__#opaque"), kv P "cached" 239 (Value.builtin "_frozen_importlib.ModuleSpec.cached#opaque"), kv P "parent" 240 (Value.builtin "_frozen_importlib.ModuleSpec.parent#opaque"), kv P "has_location" 241 (Value.builtin "_frozen_importlib.ModuleSpec.has_location#opaque"), kv P "__static_attributes__" 242 (Value.ref 24), kv P "__dict__" 244 (Value.ref 25), kv P "__weakref__" 246 (Value.ref 26), kv P "__hash__" 247 (Value.none)] 13 }
noncomputable def tree_678 (P : Params) : BT := BT.node (o_640 P) (BT.node (o_673 P) (BT.node (o_646 P) (BT.node (o_647 P) (BT.node (o_657 P) BT.nil BT.nil) (BT.node (o_668 P) BT.nil BT.nil)) (BT.node (o_651 P) (BT.node (o_675 P) BT.nil BT.nil) (BT.node (o_677 P) BT.nil BT.nil))) (BT.node (o_644 P) (BT.node (o_649 P) (BT.node (o_660 P) BT.nil BT.nil) (BT.node (o_671 P) BT.nil BT.nil)) (BT.node (o_654 P) (BT.node (o_676 P) BT.nil BT.nil) BT.nil))) (BT.node (o_678 P) (BT.node (o_643 P) (BT.node (o_648 P) (BT.node (o_647 P) BT.nil BT.nil) (BT.node (o_669 P) BT.nil BT.nil)) (BT.node (o_645 P) (BT.node (o_664 P) BT.nil BT.nil) BT.nil)) (BT.node (o_645 P) (BT.node (o_650 P) (BT.node (o_661 P) BT.nil BT.nil) (BT.node (o_672 P) BT.nil BT.nil)) (BT.node (o_659 P) (BT.node (o_670 P) BT.nil BT.nil) BT.nil)))
noncomputable def tree_680 (P : Params) : BT := BT.node (o_640 P) (BT.node (o_673 P) (BT.node (o_646 P) (BT.node (o_647 P) (BT.node (o_657 P) BT.nil BT.nil) (BT.node (o_668 P) BT.nil BT.nil)) (BT.node (o_651 P) (BT.node (o_675 P) BT.nil BT.nil) (BT.node (o_677 P) BT.nil BT.nil))) (BT.node (o_644 P) (BT.node (o_649 P) (BT.node (o_660 P) BT.nil BT.nil) (BT.node (o_671 P) BT.nil BT.nil)) (BT.node (o_654 P) (BT.node (o_676 P) BT.nil BT.nil) BT.nil))) (BT.node (o_678 P) (BT.node (o_643 P) (BT.node (o_648 P) (BT.node (o_647 P) BT.nil BT.nil) (BT.node (o_669 P) BT.nil BT.nil)) (BT.node (o_645 P) (BT.node (o_664 P) BT.nil BT.nil) BT.nil)) (BT.node (o_645 P) (BT.node (o_650 P) (BT.node (o_661 P) BT.nil BT.nil) (BT.node (o_672 P) BT.nil BT.nil)) (BT.node (o_659 P) (BT.node (o_670 P) BT.nil BT.nil) BT.nil)))
noncomputable def tree_682 (P : Params) : BT := BT.node (o_640 P) (BT.node (o_673 P) (BT.node (o_646 P) (BT.node (o_647 P) (BT.node (o_657 P) BT.nil BT.nil) (BT.node (o_668 P) BT.nil BT.nil)) (BT.node (o_651 P) (BT.node (o_675 P) BT.nil BT.nil) (BT.node (o_677 P) BT.nil BT.nil))) (BT.node (o_644 P) (BT.node (o_649 P) (BT.node (o_660 P) BT.nil BT.nil) (BT.node (o_671 P) BT.nil BT.nil)) (BT.node (o_654 P) (BT.node (o_676 P) BT.nil BT.nil) BT.nil))) (BT.node (o_678 P) (BT.node (o_643 P) (BT.node (o_648 P) (BT.node (o_647 P) BT.nil BT.nil) (BT.node (o_669 P) BT.nil BT.nil)) (BT.node (o_645 P) (BT.node (o_664 P) BT.nil BT.nil) BT.nil)) (BT.node (o_645 P) (BT.node (o_650 P) (BT.node (o_661 P) BT.nil BT.nil) (BT.node (o_672 P) BT.nil BT.nil)) (BT.node (o_659 P) (BT.node (o_670 P) BT.nil BT.nil) BT.nil)))
noncomputable def o_684 (P : Params) : Obj := { cls := Value.none, data := Data.dict #[kv P "\x69mport.loaded._operator" 189 (Value.bool true), kv P "class._frozen_importlib.BuiltinImporter" 191 (Value.ref 15), kv P "watched.\x69mport" 212 (Value.ref 19), kv P "class._frozen_importlib.ModuleSpec" 222 (Value.ref 23), kv P "sys.modules.booked-epoch" 251 (Value.int 3 0), kv P "sys.modules.landed._operator" 252 (Value.bool true), kv P "\x69mport.later-laid._operator" 316 (Value.bool true), kv P "watched.library" 318 (Value.ref 28), kv P "watched.library-objects" 0 (Value.str (Str.mk ⟨[nat_lit 13]⟩) 0), kv P "watched.library-deep._operator" 319 (Value.str (Str.mk ⟨[nat_lit 4, nat_lit 0, nat_lit 0, nat_lit 12, nat_lit 4, nat_lit 0, nat_lit 0, nat_lit 12, nat_lit 4, nat_lit 0, nat_lit 0, nat_lit 3, nat_lit 4, nat_lit 0, nat_lit 0, nat_lit 12, nat_lit 8, nat_lit 4, nat_lit 100, nat_lit 105, nat_lit 99, nat_lit 116, nat_lit 2]⟩) 0)] 10 }
noncomputable def o_685 (P : Params) : Obj := { cls := Value.type "dict", data := Data.dict #[kv P "__name__" 254 (Value.str (Str.ofString "_operator") 253), kv P "__doc__" 255 (Value.builtin "_operator.__doc__:str#opaque"), kv P "__package__" 257 (Value.str (Str.ofString "") 256), kv P "__loader__" 258 (Value.ref 15), kv P "__spec__" 259 (Value.ref 27), kv P "truth" 260 (Value.builtin "_operator.truth"), kv P "contains" 261 (Value.builtin "_operator.contains"), kv P "indexOf" 262 (Value.builtin "_operator.indexOf"), kv P "countOf" 263 (Value.builtin "_operator.countOf"), kv P "is_" 264 (Value.builtin "_operator.is_"), kv P "is_not" 265 (Value.builtin "_operator.is_not"), kv P "index" 266 (Value.builtin "_operator.index"), kv P "add" 267 (Value.builtin "_operator.add"), kv P "sub" 268 (Value.builtin "_operator.sub"), kv P "mul" 269 (Value.builtin "_operator.mul"), kv P "matmul" 270 (Value.builtin "_operator.matmul"), kv P "floordiv" 271 (Value.builtin "_operator.floordiv"), kv P "truediv" 272 (Value.builtin "_operator.truediv"), kv P "mod" 273 (Value.builtin "_operator.mod"), kv P "neg" 274 (Value.builtin "_operator.neg"), kv P "pos" 275 (Value.builtin "_operator.pos"), kv P "abs" 276 (Value.builtin "_operator.abs"), kv P "inv" 277 (Value.builtin "_operator.inv"), kv P "invert" 278 (Value.builtin "_operator.invert"), kv P "lshift" 279 (Value.builtin "_operator.lshift"), kv P "rshift" 280 (Value.builtin "_operator.rshift"), kv P "not_" 281 (Value.builtin "_operator.not_"), kv P "and_" 282 (Value.builtin "_operator.and_"), kv P "xor" 283 (Value.builtin "_operator.xor"), kv P "or_" 284 (Value.builtin "_operator.or_"), kv P "iadd" 285 (Value.builtin "_operator.iadd"), kv P "isub" 286 (Value.builtin "_operator.isub"), kv P "imul" 287 (Value.builtin "_operator.imul"), kv P "imatmul" 288 (Value.builtin "_operator.imatmul"), kv P "ifloordiv" 289 (Value.builtin "_operator.ifloordiv"), kv P "itruediv" 290 (Value.builtin "_operator.itruediv"), kv P "imod" 291 (Value.builtin "_operator.imod"), kv P "ilshift" 292 (Value.builtin "_operator.ilshift"), kv P "irshift" 293 (Value.builtin "_operator.irshift"), kv P "iand" 294 (Value.builtin "_operator.iand"), kv P "ixor" 295 (Value.builtin "_operator.ixor"), kv P "ior" 296 (Value.builtin "_operator.ior"), kv P "concat" 297 (Value.builtin "_operator.concat"), kv P "iconcat" 298 (Value.builtin "_operator.iconcat"), kv P "getitem" 299 (Value.builtin "_operator.getitem"), kv P "setitem" 300 (Value.builtin "_operator.setitem"), kv P "delitem" 301 (Value.builtin "_operator.delitem"), kv P "pow" 302 (Value.builtin "_operator.pow"), kv P "ipow" 303 (Value.builtin "_operator.ipow"), kv P "eq" 304 (Value.builtin "_operator.eq"), kv P "ne" 305 (Value.builtin "_operator.ne"), kv P "lt" 306 (Value.builtin "_operator.lt"), kv P "le" 307 (Value.builtin "_operator.le"), kv P "gt" 308 (Value.builtin "_operator.gt"), kv P "ge" 309 (Value.builtin "_operator.ge"), kv P "_compare_digest" 310 (Value.builtin "_operator._compare_digest"), kv P "length_hint" 311 (Value.builtin "_operator.length_hint"), kv P "call" 312 (Value.builtin "_operator.call"), kv P "attrgetter" 313 (Value.type "operator.attrgetter"), kv P "itemgetter" 314 (Value.type "operator.itemgetter"), kv P "methodcaller" 315 (Value.type "operator.methodcaller")] 61 }
noncomputable def o_686 (P : Params) : Obj := { cls := Value.none, data := Data.seq #[Value.int 12 0, Value.str (Str.mk ⟨[nat_lit 6, nat_lit 254, nat_lit 8, nat_lit 95, nat_lit 95, nat_lit 110, nat_lit 97, nat_lit 109, nat_lit 101, nat_lit 95, nat_lit 95, nat_lit 6, nat_lit 253, nat_lit 9, nat_lit 95, nat_lit 111, nat_lit 112, nat_lit 101, nat_lit 114, nat_lit 97, nat_lit 116, nat_lit 111, nat_lit 114, nat_lit 6, nat_lit 255, nat_lit 7, nat_lit 95, nat_lit 95, nat_lit 100, nat_lit 111, nat_lit 99, nat_lit 95, nat_lit 95, nat_lit 9, nat_lit 28, nat_lit 95, nat_lit 111, nat_lit 112, nat_lit 101, nat_lit 114, nat_lit 97, nat_lit 116, nat_lit 111, nat_lit 114, nat_lit 46, nat_lit 95, nat_lit 95, nat_lit 100, nat_lit 111, nat_lit 99, nat_lit 95, nat_lit 95, nat_lit 58, nat_lit 115, nat_lit 116, nat_lit 114, nat_lit 35, nat_lit 111, nat_lit 112, nat_lit 97, nat_lit 113, nat_lit 117, nat_lit 101, nat_lit 6, nat_lit 257, nat_lit 11, nat_lit 95, nat_lit 95, nat_lit 112, nat_lit 97, nat_lit 99, nat_lit 107, nat_lit 97, nat_lit 103, nat_lit 101, nat_lit 95, nat_lit 95, nat_lit 6, nat_lit 256, nat_lit 0, nat_lit 6, nat_lit 258, nat_lit 10, nat_lit 95, nat_lit 95, nat_lit 108, nat_lit 111, nat_lit 97, nat_lit 100, nat_lit 101, nat_lit 114, nat_lit 95, nat_lit 95, nat_lit 4, nat_lit 0, nat_lit 0, nat_lit 15, nat_lit 6, nat_lit 259, nat_lit 8, nat_lit 95, nat_lit 95, nat_lit 115, nat_lit 112, nat_lit 101, nat_lit 99, nat_lit 95, nat_lit 95, nat_lit 4, nat_lit 0, nat_lit 0, nat_lit 27, nat_lit 6, nat_lit 260, nat_lit 5, nat_lit 116, nat_lit 114, nat_lit 117, nat_lit 116, nat_lit 104, nat_lit 9, nat_lit 15, nat_lit 95, nat_lit 111, nat_lit 112, nat_lit 101, nat_lit 114, nat_lit 97, nat_lit 116, nat_lit 111, nat_lit 114, nat_lit 46, nat_lit 116, nat_lit 114, nat_lit 117, nat_lit 116, nat_lit 104, nat_lit 6, nat_lit 261, nat_lit 8, nat_lit 99, nat_lit 111, nat_lit 110, nat_lit 116, nat_lit 97, nat_lit 105, nat_lit 110, nat_lit 115, nat_lit 9, nat_lit 18, nat_lit 95, nat_lit 111, nat_lit 112, nat_lit 101, nat_lit 114, nat_lit 97, nat_lit 116, nat_lit 111, nat_lit 114, nat_lit 46, nat_lit 99, nat_lit 111, nat_lit 110, nat_lit 116, nat_lit 97, nat_lit 105, nat_lit 110, nat_lit 115, nat_lit 6, nat_lit 262, nat_lit 7, nat_lit 105, nat_lit 110, nat_lit 100, nat_lit 101, nat_lit 120, nat_lit 79, nat_lit 102, nat_lit 9, nat_lit 17, nat_lit 95, nat_lit 111, nat_lit 112, nat_lit 101, nat_lit 114, nat_lit 97, nat_lit 116, nat_lit 111, nat_lit 114, nat_lit 46, nat_lit 105, nat_lit 110, nat_lit 100, nat_lit 101, nat_lit 120, nat_lit 79, nat_lit 102, nat_lit 6, nat_lit 263, nat_lit 7, nat_lit 99, nat_lit 111, nat_lit 117, nat_lit 110, nat_lit 116, nat_lit 79, nat_lit 102, nat_lit 9, nat_lit 17, nat_lit 95, nat_lit 111, nat_lit 112, nat_lit 101, nat_lit 114, nat_lit 97, nat_lit 116, nat_lit 111, nat_lit 114, nat_lit 46, nat_lit 99, nat_lit 111, nat_lit 117, nat_lit 110, nat_lit 116, nat_lit 79, nat_lit 102, nat_lit 6, nat_lit 264, nat_lit 3, nat_lit 105, nat_lit 115, nat_lit 95, nat_lit 9, nat_lit 13, nat_lit 95, nat_lit 111, nat_lit 112, nat_lit 101, nat_lit 114, nat_lit 97, nat_lit 116, nat_lit 111, nat_lit 114, nat_lit 46, nat_lit 105, nat_lit 115, nat_lit 95, nat_lit 6, nat_lit 265, nat_lit 6, nat_lit 105, nat_lit 115, nat_lit 95, nat_lit 110, nat_lit 111, nat_lit 116, nat_lit 9, nat_lit 16, nat_lit 95, nat_lit 111, nat_lit 112, nat_lit 101, nat_lit 114, nat_lit 97, nat_lit 116, nat_lit 111, nat_lit 114, nat_lit 46, nat_lit 105, nat_lit 115, nat_lit 95, nat_lit 110, nat_lit 111, nat_lit 116, nat_lit 6, nat_lit 266, nat_lit 5, nat_lit 105, nat_lit 110, nat_lit 100, nat_lit 101, nat_lit 120, nat_lit 9, nat_lit 15, nat_lit 95, nat_lit 111, nat_lit 112, nat_lit 101, nat_lit 114, nat_lit 97, nat_lit 116, nat_lit 111, nat_lit 114, nat_lit 46, nat_lit 105, nat_lit 110, nat_lit 100, nat_lit 101, nat_lit 120, nat_lit 6, nat_lit 267, nat_lit 3, nat_lit 97, nat_lit 100, nat_lit 100, nat_lit 9, nat_lit 13, nat_lit 95, nat_lit 111, nat_lit 112, nat_lit 101, nat_lit 114, nat_lit 97, nat_lit 116, nat_lit 111, nat_lit 114, nat_lit 46, nat_lit 97, nat_lit 100, nat_lit 100, nat_lit 6, nat_lit 268, nat_lit 3, nat_lit 115, nat_lit 117, nat_lit 98, nat_lit 9, nat_lit 13, nat_lit 95, nat_lit 111, nat_lit 112, nat_lit 101, nat_lit 114, nat_lit 97, nat_lit 116, nat_lit 111, nat_lit 114, nat_lit 46, nat_lit 115, nat_lit 117, nat_lit 98, nat_lit 6, nat_lit 269, nat_lit 3, nat_lit 109, nat_lit 117, nat_lit 108, nat_lit 9, nat_lit 13, nat_lit 95, nat_lit 111, nat_lit 112, nat_lit 101, nat_lit 114, nat_lit 97, nat_lit 116, nat_lit 111, nat_lit 114, nat_lit 46, nat_lit 109, nat_lit 117, nat_lit 108, nat_lit 6, nat_lit 270, nat_lit 6, nat_lit 109, nat_lit 97, nat_lit 116, nat_lit 109, nat_lit 117, nat_lit 108, nat_lit 9, nat_lit 16, nat_lit 95, nat_lit 111, nat_lit 112, nat_lit 101, nat_lit 114, nat_lit 97, nat_lit 116, nat_lit 111, nat_lit 114, nat_lit 46, nat_lit 109, nat_lit 97, nat_lit 116, nat_lit 109, nat_lit 117, nat_lit 108, nat_lit 6, nat_lit 271, nat_lit 8, nat_lit 102, nat_lit 108, nat_lit 111, nat_lit 111, nat_lit 114, nat_lit 100, nat_lit 105, nat_lit 118, nat_lit 9, nat_lit 18, nat_lit 95, nat_lit 111, nat_lit 112, nat_lit 101, nat_lit 114, nat_lit 97, nat_lit 116, nat_lit 111, nat_lit 114, nat_lit 46, nat_lit 102, nat_lit 108, nat_lit 111, nat_lit 111, nat_lit 114, nat_lit 100, nat_lit 105, nat_lit 118, nat_lit 6, nat_lit 272, nat_lit 7, nat_lit 116, nat_lit 114, nat_lit 117, nat_lit 101, nat_lit 100, nat_lit 105, nat_lit 118, nat_lit 9, nat_lit 17, nat_lit 95, nat_lit 111, nat_lit 112, nat_lit 101, nat_lit 114, nat_lit 97, nat_lit 116, nat_lit 111, nat_lit 114, nat_lit 46, nat_lit 116, nat_lit 114, nat_lit 117, nat_lit 101, nat_lit 100, nat_lit 105, nat_lit 118, nat_lit 6, nat_lit 273, nat_lit 3, nat_lit 109, nat_lit 111, nat_lit 100, nat_lit 9, nat_lit 13, nat_lit 95, nat_lit 111, nat_lit 112, nat_lit 101, nat_lit 114, nat_lit 97, nat_lit 116, nat_lit 111, nat_lit 114, nat_lit 46, nat_lit 109, nat_lit 111, nat_lit 100, nat_lit 6, nat_lit 274, nat_lit 3, nat_lit 110, nat_lit 101, nat_lit 103, nat_lit 9, nat_lit 13, nat_lit 95, nat_lit 111, nat_lit 112, nat_lit 101, nat_lit 114, nat_lit 97, nat_lit 116, nat_lit 111, nat_lit 114, nat_lit 46, nat_lit 110, nat_lit 101, nat_lit 103, nat_lit 6, nat_lit 275, nat_lit 3, nat_lit 112, nat_lit 111, nat_lit 115, nat_lit 9, nat_lit 13, nat_lit 95, nat_lit 111, nat_lit 112, nat_lit 101, nat_lit 114, nat_lit 97, nat_lit 116, nat_lit 111, nat_lit 114, nat_lit 46, nat_lit 112, nat_lit 111, nat_lit 115, nat_lit 6, nat_lit 276, nat_lit 3, nat_lit 97, nat_lit 98, nat_lit 115, nat_lit 9, nat_lit 13, nat_lit 95, nat_lit 111, nat_lit 112, nat_lit 101, nat_lit 114, nat_lit 97, nat_lit 116, nat_lit 111, nat_lit 114, nat_lit 46, nat_lit 97, nat_lit 98, nat_lit 115, nat_lit 6, nat_lit 277, nat_lit 3, nat_lit 105, nat_lit 110, nat_lit 118, nat_lit 9, nat_lit 13, nat_lit 95, nat_lit 111, nat_lit 112, nat_lit 101, nat_lit 114, nat_lit 97, nat_lit 116, nat_lit 111, nat_lit 114, nat_lit 46, nat_lit 105, nat_lit 110, nat_lit 118, nat_lit 6, nat_lit 278, nat_lit 6, nat_lit 105, nat_lit 110, nat_lit 118, nat_lit 101, nat_lit 114, nat_lit 116, nat_lit 9, nat_lit 16, nat_lit 95, nat_lit 111, nat_lit 112, nat_lit 101, nat_lit 114, nat_lit 97, nat_lit 116, nat_lit 111, nat_lit 114, nat_lit 46, nat_lit 105, nat_lit 110, nat_lit 118, nat_lit 101, nat_lit 114, nat_lit 116, nat_lit 6, nat_lit 279, nat_lit 6, nat_lit 108, nat_lit 115, nat_lit 104, nat_lit 105, nat_lit 102, nat_lit 116, nat_lit 9, nat_lit 16, nat_lit 95, nat_lit 111, nat_lit 112, nat_lit 101, nat_lit 114, nat_lit 97, nat_lit 116, nat_lit 111, nat_lit 114, nat_lit 46, nat_lit 108, nat_lit 115, nat_lit 104, nat_lit 105, nat_lit 102, nat_lit 116, nat_lit 6, nat_lit 280, nat_lit 6, nat_lit 114, nat_lit 115, nat_lit 104, nat_lit 105, nat_lit 102, nat_lit 116, nat_lit 9, nat_lit 16, nat_lit 95, nat_lit 111, nat_lit 112, nat_lit 101, nat_lit 114, nat_lit 97, nat_lit 116, nat_lit 111, nat_lit 114, nat_lit 46, nat_lit 114, nat_lit 115, nat_lit 104, nat_lit 105, nat_lit 102, nat_lit 116, nat_lit 6, nat_lit 281, nat_lit 4, nat_lit 110, nat_lit 111, nat_lit 116, nat_lit 95, nat_lit 9, nat_lit 14, nat_lit 95, nat_lit 111, nat_lit 112, nat_lit 101, nat_lit 114, nat_lit 97, nat_lit 116, nat_lit 111, nat_lit 114, nat_lit 46, nat_lit 110, nat_lit 111, nat_lit 116, nat_lit 95, nat_lit 6, nat_lit 282, nat_lit 4, nat_lit 97, nat_lit 110, nat_lit 100, nat_lit 95, nat_lit 9, nat_lit 14, nat_lit 95, nat_lit 111, nat_lit 112, nat_lit 101, nat_lit 114, nat_lit 97, nat_lit 116, nat_lit 111, nat_lit 114, nat_lit 46, nat_lit 97, nat_lit 110, nat_lit 100, nat_lit 95, nat_lit 6, nat_lit 283, nat_lit 3, nat_lit 120, nat_lit 111, nat_lit 114, nat_lit 9, nat_lit 13, nat_lit 95, nat_lit 111, nat_lit 112, nat_lit 101, nat_lit 114, nat_lit 97, nat_lit 116, nat_lit 111, nat_lit 114, nat_lit 46, nat_lit 120, nat_lit 111, nat_lit 114, nat_lit 6, nat_lit 284, nat_lit 3, nat_lit 111, nat_lit 114, nat_lit 95, nat_lit 9, nat_lit 13, nat_lit 95, nat_lit 111, nat_lit 112, nat_lit 101, nat_lit 114, nat_lit 97, nat_lit 116, nat_lit 111, nat_lit 114, nat_lit 46, nat_lit 111, nat_lit 114, nat_lit 95, nat_lit 6, nat_lit 285, nat_lit 4, nat_lit 105, nat_lit 97, nat_lit 100, nat_lit 100, nat_lit 9, nat_lit 14, nat_lit 95, nat_lit 111, nat_lit 112, nat_lit 101, nat_lit 114, nat_lit 97, nat_lit 116, nat_lit 111, nat_lit 114, nat_lit 46, nat_lit 105, nat_lit 97, nat_lit 100, nat_lit 100, nat_lit 6, nat_lit 286, nat_lit 4, nat_lit 105, nat_lit 115, nat_lit 117, nat_lit 98, nat_lit 9, nat_lit 14, nat_lit 95, nat_lit 111, nat_lit 112, nat_lit 101, nat_lit 114, nat_lit 97, nat_lit 116, nat_lit 111, nat_lit 114, nat_lit 46, nat_lit 105, nat_lit 115, nat_lit 117, nat_lit 98, nat_lit 6, nat_lit 287, nat_lit 4, nat_lit 105, nat_lit 109, nat_lit 117, nat_lit 108, nat_lit 9, nat_lit 14, nat_lit 95, nat_lit 111, nat_lit 112, nat_lit 101, nat_lit 114, nat_lit 97, nat_lit 116, nat_lit 111, nat_lit 114, nat_lit 46, nat_lit 105, nat_lit 109, nat_lit 117, nat_lit 108, nat_lit 6, nat_lit 288, nat_lit 7, nat_lit 105, nat_lit 109, nat_lit 97, nat_lit 116, nat_lit 109, nat_lit 117, nat_lit 108, nat_lit 9, nat_lit 17, nat_lit 95, nat_lit 111, nat_lit 112, nat_lit 101, nat_lit 114, nat_lit 97, nat_lit 116, nat_lit 111, nat_lit 114, nat_lit 46, nat_lit 105, nat_lit 109, nat_lit 97, nat_lit 116, nat_lit 109, nat_lit 117, nat_lit 108, nat_lit 6, nat_lit 289, nat_lit 9, nat_lit 105, nat_lit 102, nat_lit 108, nat_lit 111, nat_lit 111, nat_lit 114, nat_lit 100, nat_lit 105, nat_lit 118, nat_lit 9, nat_lit 19, nat_lit 95, nat_lit 111, nat_lit 112, nat_lit 101, nat_lit 114, nat_lit 97, nat_lit 116, nat_lit 111, nat_lit 114, nat_lit 46, nat_lit 105, nat_lit 102, nat_lit 108, nat_lit 111, nat_lit 111, nat_lit 114, nat_lit 100, nat_lit 105, nat_lit 118, nat_lit 6, nat_lit 290, nat_lit 8, nat_lit 105, nat_lit 116, nat_lit 114, nat_lit 117, nat_lit 101, nat_lit 100, nat_lit 105, nat_lit 118, nat_lit 9, nat_lit 18, nat_lit 95, nat_lit 111, nat_lit 112, nat_lit 101, nat_lit 114, nat_lit 97, nat_lit 116, nat_lit 111, nat_lit 114, nat_lit 46, nat_lit 105, nat_lit 116, nat_lit 114, nat_lit 117, nat_lit 101, nat_lit 100, nat_lit 105, nat_lit 118, nat_lit 6, nat_lit 291, nat_lit 4, nat_lit 105, nat_lit 109, nat_lit 111, nat_lit 100, nat_lit 9, nat_lit 14, nat_lit 95, nat_lit 111, nat_lit 112, nat_lit 101, nat_lit 114, nat_lit 97, nat_lit 116, nat_lit 111, nat_lit 114, nat_lit 46, nat_lit 105, nat_lit 109, nat_lit 111, nat_lit 100, nat_lit 6, nat_lit 292, nat_lit 7, nat_lit 105, nat_lit 108, nat_lit 115, nat_lit 104, nat_lit 105, nat_lit 102, nat_lit 116, nat_lit 9, nat_lit 17, nat_lit 95, nat_lit 111, nat_lit 112, nat_lit 101, nat_lit 114, nat_lit 97, nat_lit 116, nat_lit 111, nat_lit 114, nat_lit 46, nat_lit 105, nat_lit 108, nat_lit 115, nat_lit 104, nat_lit 105, nat_lit 102, nat_lit 116, nat_lit 6, nat_lit 293, nat_lit 7, nat_lit 105, nat_lit 114, nat_lit 115, nat_lit 104, nat_lit 105, nat_lit 102, nat_lit 116, nat_lit 9, nat_lit 17, nat_lit 95, nat_lit 111, nat_lit 112, nat_lit 101, nat_lit 114, nat_lit 97, nat_lit 116, nat_lit 111, nat_lit 114, nat_lit 46, nat_lit 105, nat_lit 114, nat_lit 115, nat_lit 104, nat_lit 105, nat_lit 102, nat_lit 116, nat_lit 6, nat_lit 294, nat_lit 4, nat_lit 105, nat_lit 97, nat_lit 110, nat_lit 100, nat_lit 9, nat_lit 14, nat_lit 95, nat_lit 111, nat_lit 112, nat_lit 101, nat_lit 114, nat_lit 97, nat_lit 116, nat_lit 111, nat_lit 114, nat_lit 46, nat_lit 105, nat_lit 97, nat_lit 110, nat_lit 100, nat_lit 6, nat_lit 295, nat_lit 4, nat_lit 105, nat_lit 120, nat_lit 111, nat_lit 114, nat_lit 9, nat_lit 14, nat_lit 95, nat_lit 111, nat_lit 112, nat_lit 101, nat_lit 114, nat_lit 97, nat_lit 116, nat_lit 111, nat_lit 114, nat_lit 46, nat_lit 105, nat_lit 120, nat_lit 111, nat_lit 114, nat_lit 6, nat_lit 296, nat_lit 3, nat_lit 105, nat_lit 111, nat_lit 114, nat_lit 9, nat_lit 13, nat_lit 95, nat_lit 111, nat_lit 112, nat_lit 101, nat_lit 114, nat_lit 97, nat_lit 116, nat_lit 111, nat_lit 114, nat_lit 46, nat_lit 105, nat_lit 111, nat_lit 114, nat_lit 6, nat_lit 297, nat_lit 6, nat_lit 99, nat_lit 111, nat_lit 110, nat_lit 99, nat_lit 97, nat_lit 116, nat_lit 9, nat_lit 16, nat_lit 95, nat_lit 111, nat_lit 112, nat_lit 101, nat_lit 114, nat_lit 97, nat_lit 116, nat_lit 111, nat_lit 114, nat_lit 46, nat_lit 99, nat_lit 111, nat_lit 110, nat_lit 99, nat_lit 97, nat_lit 116, nat_lit 6, nat_lit 298, nat_lit 7, nat_lit 105, nat_lit 99, nat_lit 111, nat_lit 110, nat_lit 99, nat_lit 97, nat_lit 116, nat_lit 9, nat_lit 17, nat_lit 95, nat_lit 111, nat_lit 112, nat_lit 101, nat_lit 114, nat_lit 97, nat_lit 116, nat_lit 111, nat_lit 114, nat_lit 46, nat_lit 105, nat_lit 99, nat_lit 111, nat_lit 110, nat_lit 99, nat_lit 97, nat_lit 116, nat_lit 6, nat_lit 299, nat_lit 7, nat_lit 103, nat_lit 101, nat_lit 116, nat_lit 105, nat_lit 116, nat_lit 101, nat_lit 109, nat_lit 9, nat_lit 17, nat_lit 95, nat_lit 111, nat_lit 112, nat_lit 101, nat_lit 114, nat_lit 97, nat_lit 116, nat_lit 111, nat_lit 114, nat_lit 46, nat_lit 103, nat_lit 101, nat_lit 116, nat_lit 105, nat_lit 116, nat_lit 101, nat_lit 109, nat_lit 6, nat_lit 300, nat_lit 7, nat_lit 115, nat_lit 101, nat_lit 116, nat_lit 105, nat_lit 116, nat_lit 101, nat_lit 109, nat_lit 9, nat_lit 17, nat_lit 95, nat_lit 111, nat_lit 112, nat_lit 101, nat_lit 114, nat_lit 97, nat_lit 116, nat_lit 111, nat_lit 114, nat_lit 46, nat_lit 115, nat_lit 101, nat_lit 116, nat_lit 105, nat_lit 116, nat_lit 101, nat_lit 109, nat_lit 6, nat_lit 301, nat_lit 7, nat_lit 100, nat_lit 101, nat_lit 108, nat_lit 105, nat_lit 116, nat_lit 101, nat_lit 109, nat_lit 9, nat_lit 17, nat_lit 95, nat_lit 111, nat_lit 112, nat_lit 101, nat_lit 114, nat_lit 97, nat_lit 116, nat_lit 111, nat_lit 114, nat_lit 46, nat_lit 100, nat_lit 101, nat_lit 108, nat_lit 105, nat_lit 116, nat_lit 101, nat_lit 109, nat_lit 6, nat_lit 302, nat_lit 3, nat_lit 112, nat_lit 111, nat_lit 119, nat_lit 9, nat_lit 13, nat_lit 95, nat_lit 111, nat_lit 112, nat_lit 101, nat_lit 114, nat_lit 97, nat_lit 116, nat_lit 111, nat_lit 114, nat_lit 46, nat_lit 112, nat_lit 111, nat_lit 119, nat_lit 6, nat_lit 303, nat_lit 4, nat_lit 105, nat_lit 112, nat_lit 111, nat_lit 119, nat_lit 9, nat_lit 14, nat_lit 95, nat_lit 111, nat_lit 112, nat_lit 101, nat_lit 114, nat_lit 97, nat_lit 116, nat_lit 111, nat_lit 114, nat_lit 46, nat_lit 105, nat_lit 112, nat_lit 111, nat_lit 119, nat_lit 6, nat_lit 304, nat_lit 2, nat_lit 101, nat_lit 113, nat_lit 9, nat_lit 12, nat_lit 95, nat_lit 111, nat_lit 112, nat_lit 101, nat_lit 114, nat_lit 97, nat_lit 116, nat_lit 111, nat_lit 114, nat_lit 46, nat_lit 101, nat_lit 113, nat_lit 6, nat_lit 305, nat_lit 2, nat_lit 110, nat_lit 101, nat_lit 9, nat_lit 12, nat_lit 95, nat_lit 111, nat_lit 112, nat_lit 101, nat_lit 114, nat_lit 97, nat_lit 116, nat_lit 111, nat_lit 114, nat_lit 46, nat_lit 110, nat_lit 101, nat_lit 6, nat_lit 306, nat_lit 2, nat_lit 108, nat_lit 116, nat_lit 9, nat_lit 12, nat_lit 95, nat_lit 111, nat_lit 112, nat_lit 101, nat_lit 114, nat_lit 97, nat_lit 116, nat_lit 111, nat_lit 114, nat_lit 46, nat_lit 108, nat_lit 116, nat_lit 6, nat_lit 307, nat_lit 2, nat_lit 108, nat_lit 101, nat_lit 9, nat_lit 12, nat_lit 95, nat_lit 111, nat_lit 112, nat_lit 101, nat_lit 114, nat_lit 97, nat_lit 116, nat_lit 111, nat_lit 114, nat_lit 46, nat_lit 108, nat_lit 101, nat_lit 6, nat_lit 308, nat_lit 2, nat_lit 103, nat_lit 116, nat_lit 9, nat_lit 12, nat_lit 95, nat_lit 111, nat_lit 112, nat_lit 101, nat_lit 114, nat_lit 97, nat_lit 116, nat_lit 111, nat_lit 114, nat_lit 46, nat_lit 103, nat_lit 116, nat_lit 6, nat_lit 309, nat_lit 2, nat_lit 103, nat_lit 101, nat_lit 9, nat_lit 12, nat_lit 95, nat_lit 111, nat_lit 112, nat_lit 101, nat_lit 114, nat_lit 97, nat_lit 116, nat_lit 111, nat_lit 114, nat_lit 46, nat_lit 103, nat_lit 101, nat_lit 6, nat_lit 310, nat_lit 15, nat_lit 95, nat_lit 99, nat_lit 111, nat_lit 109, nat_lit 112, nat_lit 97, nat_lit 114, nat_lit 101, nat_lit 95, nat_lit 100, nat_lit 105, nat_lit 103, nat_lit 101, nat_lit 115, nat_lit 116, nat_lit 9, nat_lit 25, nat_lit 95, nat_lit 111, nat_lit 112, nat_lit 101, nat_lit 114, nat_lit 97, nat_lit 116, nat_lit 111, nat_lit 114, nat_lit 46, nat_lit 95, nat_lit 99, nat_lit 111, nat_lit 109, nat_lit 112, nat_lit 97, nat_lit 114, nat_lit 101, nat_lit 95, nat_lit 100, nat_lit 105, nat_lit 103, nat_lit 101, nat_lit 115, nat_lit 116, nat_lit 6, nat_lit 311, nat_lit 11, nat_lit 108, nat_lit 101, nat_lit 110, nat_lit 103, nat_lit 116, nat_lit 104, nat_lit 95, nat_lit 104, nat_lit 105, nat_lit 110, nat_lit 116, nat_lit 9, nat_lit 21, nat_lit 95, nat_lit 111, nat_lit 112, nat_lit 101, nat_lit 114, nat_lit 97, nat_lit 116, nat_lit 111, nat_lit 114, nat_lit 46, nat_lit 108, nat_lit 101, nat_lit 110, nat_lit 103, nat_lit 116, nat_lit 104, nat_lit 95, nat_lit 104, nat_lit 105, nat_lit 110, nat_lit 116, nat_lit 6, nat_lit 312, nat_lit 4, nat_lit 99, nat_lit 97, nat_lit 108, nat_lit 108, nat_lit 9, nat_lit 14, nat_lit 95, nat_lit 111, nat_lit 112, nat_lit 101, nat_lit 114, nat_lit 97, nat_lit 116, nat_lit 111, nat_lit 114, nat_lit 46, nat_lit 99, nat_lit 97, nat_lit 108, nat_lit 108, nat_lit 6, nat_lit 313, nat_lit 10, nat_lit 97, nat_lit 116, nat_lit 116, nat_lit 114, nat_lit 103, nat_lit 101, nat_lit 116, nat_lit 116, nat_lit 101, nat_lit 114, nat_lit 8, nat_lit 19, nat_lit 111, nat_lit 112, nat_lit 101, nat_lit 114, nat_lit 97, nat_lit 116, nat_lit 111, nat_lit 114, nat_lit 46, nat_lit 97, nat_lit 116, nat_lit 116, nat_lit 114, nat_lit 103, nat_lit 101, nat_lit 116, nat_lit 116, nat_lit 101, nat_lit 114, nat_lit 6, nat_lit 314, nat_lit 10, nat_lit 105, nat_lit 116, nat_lit 101, nat_lit 109, nat_lit 103, nat_lit 101, nat_lit 116, nat_lit 116, nat_lit 101, nat_lit 114, nat_lit 8, nat_lit 19, nat_lit 111, nat_lit 112, nat_lit 101, nat_lit 114, nat_lit 97, nat_lit 116, nat_lit 111, nat_lit 114, nat_lit 46, nat_lit 105, nat_lit 116, nat_lit 101, nat_lit 109, nat_lit 103, nat_lit 101, nat_lit 116, nat_lit 116, nat_lit 101, nat_lit 114, nat_lit 6, nat_lit 315, nat_lit 12, nat_lit 109, nat_lit 101, nat_lit 116, nat_lit 104, nat_lit 111, nat_lit 100, nat_lit 99, nat_lit 97, nat_lit 108, nat_lit 108, nat_lit 101, nat_lit 114, nat_lit 8, nat_lit 21, nat_lit 111, nat_lit 112, nat_lit 101, nat_lit 114, nat_lit 97, nat_lit 116, nat_lit 111, nat_lit 114, nat_lit 46, nat_lit 109, nat_lit 101, nat_lit 116, nat_lit 104, nat_lit 111, nat_lit 100, nat_lit 99, nat_lit 97, nat_lit 108, nat_lit 108, nat_lit 101, nat_lit 114]⟩) 0, Value.bool true, Value.bool false, Value.str (Str.ofString "_operator") 317] }
noncomputable def tree_686 (P : Params) : BT := BT.node (o_640 P) (BT.node (o_673 P) (BT.node (o_646 P) (BT.node (o_647 P) (BT.node (o_657 P) BT.nil BT.nil) (BT.node (o_668 P) BT.nil BT.nil)) (BT.node (o_651 P) (BT.node (o_675 P) BT.nil BT.nil) (BT.node (o_677 P) BT.nil BT.nil))) (BT.node (o_644 P) (BT.node (o_649 P) (BT.node (o_660 P) BT.nil BT.nil) (BT.node (o_671 P) BT.nil BT.nil)) (BT.node (o_654 P) (BT.node (o_676 P) BT.nil BT.nil) BT.nil))) (BT.node (o_684 P) (BT.node (o_643 P) (BT.node (o_648 P) (BT.node (o_647 P) BT.nil BT.nil) (BT.node (o_669 P) BT.nil BT.nil)) (BT.node (o_685 P) (BT.node (o_664 P) BT.nil BT.nil) (BT.node (o_686 P) BT.nil BT.nil))) (BT.node (o_645 P) (BT.node (o_650 P) (BT.node (o_661 P) BT.nil BT.nil) (BT.node (o_672 P) BT.nil BT.nil)) (BT.node (o_659 P) (BT.node (o_670 P) BT.nil BT.nil) BT.nil)))
noncomputable def o_691 (P : Params) : Obj := { cls := Value.type "dict", data := Data.dict #[kv P "__name__" 165 (Value.str (Str.ofString "__main__") 164), kv P "__doc__" 166 (Value.none), kv P "__package__" 167 (Value.none), kv P "__loader__" 168 (Value.builtin "__main__.__loader__#opaque"), kv P "__spec__" 169 (Value.none), kv P "__annotations__" 170 (Value.ref 6), kv P "__builtins__" 171 (Value.ref 4), kv P "__file__" 173 (Value.str (Str.ofString "/claim/cut.py") 172), kv P "__cached__" 174 (Value.none), kv P "eq" 325 (Value.builtin "_operator.eq"), kv P "ge" 328 (Value.builtin "_operator.ge")] 11 }
noncomputable def o_687 (P : Params) : Obj := { cls := Value.type "dict", data := Data.dict #[kv P "name" 214 (Value.str (Str.ofString "_operator") 213), kv P "loader" 215 (Value.ref 15), kv P "origin" 216 (Value.str (Str.ofString "built-in") 190), kv P "loader_state" 217 (Value.none), kv P "submodule_search_locations" 218 (Value.none), kv P "_uninitialized_submodules" 219 (Value.ref 20), kv P "_set_fileattr" 220 (Value.bool false), kv P "_cached" 221 (Value.none), kv P "_initializing" 249 (Value.bool false)] 9 }
noncomputable def tree_691 (P : Params) : BT := BT.node (o_640 P) (BT.node (o_673 P) (BT.node (o_691 P) (BT.node (o_647 P) (BT.node (o_657 P) BT.nil BT.nil) (BT.node (o_668 P) BT.nil BT.nil)) (BT.node (o_651 P) (BT.node (o_675 P) BT.nil BT.nil) (BT.node (o_677 P) BT.nil BT.nil))) (BT.node (o_644 P) (BT.node (o_649 P) (BT.node (o_660 P) BT.nil BT.nil) (BT.node (o_671 P) BT.nil BT.nil)) (BT.node (o_654 P) (BT.node (o_687 P) BT.nil BT.nil) BT.nil))) (BT.node (o_684 P) (BT.node (o_643 P) (BT.node (o_648 P) (BT.node (o_647 P) BT.nil BT.nil) (BT.node (o_669 P) BT.nil BT.nil)) (BT.node (o_685 P) (BT.node (o_664 P) BT.nil BT.nil) (BT.node (o_686 P) BT.nil BT.nil))) (BT.node (o_645 P) (BT.node (o_650 P) (BT.node (o_661 P) BT.nil BT.nil) (BT.node (o_672 P) BT.nil BT.nil)) (BT.node (o_659 P) (BT.node (o_670 P) BT.nil BT.nil) BT.nil)))
noncomputable def o_695 (P : Params) : Obj := { cls := Value.type "dict", data := Data.dict #[kv P "__name__" 165 (Value.str (Str.ofString "__main__") 164), kv P "__doc__" 166 (Value.none), kv P "__package__" 167 (Value.none), kv P "__loader__" 168 (Value.builtin "__main__.__loader__#opaque"), kv P "__spec__" 169 (Value.none), kv P "__annotations__" 170 (Value.ref 6), kv P "__builtins__" 171 (Value.ref 4), kv P "__file__" 173 (Value.str (Str.ofString "/claim/cut.py") 172), kv P "__cached__" 174 (Value.none), kv P "eq" 325 (Value.builtin "_operator.eq"), kv P "ge" 328 (Value.builtin "_operator.ge"), kv P "gt" 331 (Value.builtin "_operator.gt"), kv P "le" 334 (Value.builtin "_operator.le"), kv P "lt" 337 (Value.builtin "_operator.lt")] 14 }
noncomputable def tree_695 (P : Params) : BT := BT.node (o_640 P) (BT.node (o_673 P) (BT.node (o_695 P) (BT.node (o_647 P) (BT.node (o_657 P) BT.nil BT.nil) (BT.node (o_668 P) BT.nil BT.nil)) (BT.node (o_651 P) (BT.node (o_675 P) BT.nil BT.nil) (BT.node (o_677 P) BT.nil BT.nil))) (BT.node (o_644 P) (BT.node (o_649 P) (BT.node (o_660 P) BT.nil BT.nil) (BT.node (o_671 P) BT.nil BT.nil)) (BT.node (o_654 P) (BT.node (o_687 P) BT.nil BT.nil) BT.nil))) (BT.node (o_684 P) (BT.node (o_643 P) (BT.node (o_648 P) (BT.node (o_647 P) BT.nil BT.nil) (BT.node (o_669 P) BT.nil BT.nil)) (BT.node (o_685 P) (BT.node (o_664 P) BT.nil BT.nil) (BT.node (o_686 P) BT.nil BT.nil))) (BT.node (o_645 P) (BT.node (o_650 P) (BT.node (o_661 P) BT.nil BT.nil) (BT.node (o_672 P) BT.nil BT.nil)) (BT.node (o_659 P) (BT.node (o_670 P) BT.nil BT.nil) BT.nil)))
noncomputable def o_53 (P : Params) : Obj := { cls := Value.type "dict", data := Data.dict #[kv P "__name__" 254 (Value.str (Str.ofString "_operator") 253), kv P "__doc__" 255 (Value.builtin "off-the-table:_operator.__doc__:shared#opaque"), kv P "__package__" 257 (Value.str (Str.ofString "") 256), kv P "__loader__" 258 (Value.builtin "off-the-table:_operator.__loader__:shared#opaque"), kv P "__spec__" 259 (Value.builtin "off-the-table:_operator.__spec__:shared#opaque"), kv P "truth" 260 (Value.builtin "_operator.truth"), kv P "contains" 261 (Value.builtin "_operator.contains"), kv P "indexOf" 262 (Value.builtin "_operator.indexOf"), kv P "countOf" 263 (Value.builtin "_operator.countOf"), kv P "is_" 264 (Value.builtin "_operator.is_"), kv P "is_not" 265 (Value.builtin "_operator.is_not"), kv P "index" 266 (Value.builtin "_operator.index"), kv P "add" 267 (Value.builtin "_operator.add"), kv P "sub" 268 (Value.builtin "_operator.sub"), kv P "mul" 269 (Value.builtin "_operator.mul"), kv P "matmul" 270 (Value.builtin "_operator.matmul"), kv P "floordiv" 271 (Value.builtin "_operator.floordiv"), kv P "truediv" 272 (Value.builtin "_operator.truediv"), kv P "mod" 273 (Value.builtin "_operator.mod"), kv P "neg" 274 (Value.builtin "_operator.neg"), kv P "pos" 275 (Value.builtin "_operator.pos"), kv P "abs" 276 (Value.builtin "_operator.abs"), kv P "inv" 277 (Value.builtin "_operator.inv"), kv P "invert" 278 (Value.builtin "_operator.invert"), kv P "lshift" 279 (Value.builtin "_operator.lshift"), kv P "rshift" 280 (Value.builtin "_operator.rshift"), kv P "not_" 281 (Value.builtin "_operator.not_"), kv P "and_" 282 (Value.builtin "_operator.and_"), kv P "xor" 283 (Value.builtin "_operator.xor"), kv P "or_" 284 (Value.builtin "_operator.or_"), kv P "iadd" 285 (Value.builtin "_operator.iadd"), kv P "isub" 286 (Value.builtin "_operator.isub"), kv P "imul" 287 (Value.builtin "_operator.imul"), kv P "imatmul" 288 (Value.builtin "_operator.imatmul"), kv P "ifloordiv" 289 (Value.builtin "_operator.ifloordiv"), kv P "itruediv" 290 (Value.builtin "_operator.itruediv"), kv P "imod" 291 (Value.builtin "_operator.imod"), kv P "ilshift" 292 (Value.builtin "_operator.ilshift"), kv P "irshift" 293 (Value.builtin "_operator.irshift"), kv P "iand" 294 (Value.builtin "_operator.iand"), kv P "ixor" 295 (Value.builtin "_operator.ixor"), kv P "ior" 296 (Value.builtin "_operator.ior"), kv P "concat" 297 (Value.builtin "_operator.concat"), kv P "iconcat" 298 (Value.builtin "_operator.iconcat"), kv P "getitem" 299 (Value.builtin "_operator.getitem"), kv P "setitem" 300 (Value.builtin "_operator.setitem"), kv P "delitem" 301 (Value.builtin "_operator.delitem"), kv P "pow" 302 (Value.builtin "_operator.pow"), kv P "ipow" 303 (Value.builtin "_operator.ipow"), kv P "eq" 304 (Value.builtin "_operator.eq"), kv P "ne" 305 (Value.builtin "_operator.ne"), kv P "lt" 306 (Value.builtin "_operator.lt"), kv P "le" 307 (Value.builtin "_operator.le"), kv P "gt" 308 (Value.builtin "_operator.gt"), kv P "ge" 309 (Value.builtin "_operator.ge"), kv P "_compare_digest" 310 (Value.builtin "off-the-table:_operator._compare_digest:shared#opaque"), kv P "length_hint" 311 (Value.builtin "_operator.length_hint"), kv P "call" 312 (Value.builtin "_operator.call"), kv P "attrgetter" 313 (Value.builtin "off-the-table:_operator.attrgetter:shared#opaque"), kv P "itemgetter" 314 (Value.type "operator.itemgetter"), kv P "methodcaller" 315 (Value.builtin "off-the-table:_operator.methodcaller:shared#opaque")] 61 }
noncomputable def heap_69 (P : Params) : Heap := { objs := { toList := [o_640 P, o_673 P, o_684 P, o_695 P, o_643 P, o_644 P, o_645 P, o_647 P, o_648 P, o_649 P, o_650 P, o_651 P, o_53 P, o_654 P, o_659 P, o_657 P, o_647 P, o_660 P, o_661 P, o_675 P, o_664 P, o_687 P, o_670 P, o_668 P, o_669 P, o_671 P, o_672 P, o_677 P, o_686 P] } }
noncomputable def o_72 (P : Params) : Obj := { cls := Value.type "code", data := Data.fields #[Value.str (Str.ofString "<module>") 339, Value.str (Str.ofString "<module>") 340, Value.str (Str.ofString "/claim/cut.py") 341, Value.int 1 0, Value.int 0 0, Value.int 0 0, Value.int 0 0, Value.int 0 0, Value.ref 29, Value.bool false, Value.int 338 0, Value.ref 30, Value.none, Value.none, Value.none, Value.none, Value.int 342 0, Value.int 1 0, Value.str (Str.ofString "/claim/cut.py") 343] }
noncomputable def o_73 (P : Params) : Obj := { cls := Value.type "frame", slots := #[some (Value.ref 31), some (Value.ref 3), some (Value.ref 3), none, some (Value.str (Str.ofString "__main__") 164), none, some (Value.ref 0)] }
noncomputable def heap_73 (P : Params) : Heap := { objs := { toList := [o_640 P, o_673 P, o_684 P, o_695 P, o_643 P, o_644 P, o_645 P, o_647 P, o_648 P, o_649 P, o_650 P, o_651 P, o_53 P, o_654 P, o_659 P, o_657 P, o_647 P, o_660 P, o_661 P, o_675 P, o_664 P, o_687 P, o_670 P, o_668 P, o_669 P, o_671 P, o_672 P, o_677 P, o_686 P, o_647 P, o_648 P, o_72 P, o_73 P] } }
noncomputable def tree_74 (P : Params) : BT := BT.node (o_640 P) (BT.node (o_673 P) (BT.node (o_695 P) (BT.node (o_647 P) (BT.node (o_657 P) (BT.node (o_72 P) BT.nil BT.nil) BT.nil) (BT.node (o_668 P) BT.nil BT.nil)) (BT.node (o_651 P) (BT.node (o_675 P) BT.nil BT.nil) (BT.node (o_677 P) BT.nil BT.nil))) (BT.node (o_644 P) (BT.node (o_649 P) (BT.node (o_660 P) BT.nil BT.nil) (BT.node (o_671 P) BT.nil BT.nil)) (BT.node (o_654 P) (BT.node (o_687 P) BT.nil BT.nil) (BT.node (o_647 P) BT.nil BT.nil)))) (BT.node (o_684 P) (BT.node (o_643 P) (BT.node (o_648 P) (BT.node (o_647 P) (BT.node (o_73 P) BT.nil BT.nil) BT.nil) (BT.node (o_669 P) BT.nil BT.nil)) (BT.node (o_53 P) (BT.node (o_664 P) BT.nil BT.nil) (BT.node (o_686 P) BT.nil BT.nil))) (BT.node (o_645 P) (BT.node (o_650 P) (BT.node (o_661 P) BT.nil BT.nil) (BT.node (o_672 P) BT.nil BT.nil)) (BT.node (o_659 P) (BT.node (o_670 P) BT.nil BT.nil) (BT.node (o_648 P) BT.nil BT.nil))))
noncomputable def o_76 (P : Params) : Obj := { cls := Value.type "dict", data := Data.dict #[kv P "__name__" 165 (Value.str (Str.ofString "pyrsistent._pvector") 351), kv P "__doc__" 166 (Value.none), kv P "__package__" 167 (Value.none), kv P "__loader__" 168 (Value.builtin "__main__.__loader__#opaque"), kv P "__spec__" 169 (Value.none), kv P "__annotations__" 170 (Value.ref 6), kv P "__builtins__" 171 (Value.ref 4), kv P "__file__" 173 (Value.str (Str.ofString "/claim/cut.py") 172), kv P "__cached__" 174 (Value.none), kv P "eq" 325 (Value.builtin "_operator.eq"), kv P "ge" 328 (Value.builtin "_operator.ge"), kv P "gt" 331 (Value.builtin "_operator.gt"), kv P "le" 334 (Value.builtin "_operator.le"), kv P "lt" 337 (Value.builtin "_operator.lt"), kv P "_wall" 350 (Value.ref 39), kv P "_bitcount" 359 (Value.ref 46), kv P "BRANCH_FACTOR" 361 (Value.int 32 360), kv P "BIT_MASK" 364 (Value.int 31 363), kv P "SHIFT" 369 (Value.int 5 368), kv P "compare_pvector" 378 (Value.ref 54)] 20 }
noncomputable def o_92 (P : Params) : Obj := { cls := Value.type "frame", data := Data.dict #[kv P "val" 365 (Value.int 31 363)] 1 }
noncomputable def o_84 (P : Params) : Obj := ⟨Value.type "function", none, .func (fnX (Str.ofString "_wall") (Str.ofString "_wall") (prm (top 1)) (bod (top 1)) (scp (top 1)) ([]) (Value.none) (Value.none) (Value.none) (Value.str (Str.ofString "__main__") 164) (none) (Value.ref 38) (Value.none)), #[]⟩
noncomputable def o_80 (P : Params) : Obj := { cls := Value.type "tuple", data := Data.seq #[Value.str (Str.ofString "k") 347] }
noncomputable def o_82 (P : Params) : Obj := ⟨Value.none, none, .func (fn0 (Str.ofString "_wall") (Str.ofString "_wall") (prm (top 1)) (bod (top 1)) (scp (top 1)) ([]) (Value.none) (Value.none) (Value.none) (Value.none) (none) (Value.none) (Value.none)), #[]⟩
noncomputable def o_98 (P : Params) : Obj := { cls := Value.type "code", data := Data.fields #[Value.str (Str.ofString "compare_pvector") 370, Value.str (Str.ofString "compare_pvector") 371, Value.str (Str.ofString "/claim/cut.py") 372, Value.int 11 0, Value.int 3 0, Value.int 0 0, Value.int 0 0, Value.int 3 0, Value.ref 48, Value.bool true, Value.int 338 0, Value.ref 49, Value.none, Value.ref 50, Value.ref 51, Value.ref 52, Value.int 376 0, Value.int 11 0, Value.str (Str.ofString "/claim/cut.py") 377] }
noncomputable def o_90 (P : Params) : Obj := { cls := Value.type "code", data := Data.fields #[Value.str (Str.ofString "_bitcount") 353, Value.str (Str.ofString "_bitcount") 354, Value.str (Str.ofString "/claim/cut.py") 355, Value.int 6 0, Value.int 1 0, Value.int 0 0, Value.int 0 0, Value.int 3 0, Value.ref 40, Value.bool true, Value.int 338 0, Value.ref 41, Value.none, Value.ref 42, Value.ref 43, Value.ref 44, Value.int 357 0, Value.int 6 0, Value.str (Str.ofString "/claim/cut.py") 358] }
noncomputable def o_97 (P : Params) : Obj := ⟨Value.none, none, .func (fn0 (Str.ofString "compare_pvector") (Str.ofString "compare_pvector") (prm (top 7)) (bod (top 7)) (scp (top 7)) ([]) (Value.none) (Value.none) (Value.none) (Value.none) (none) (Value.none) (Value.none)), #[]⟩
noncomputable def o_89 (P : Params) : Obj := ⟨Value.none, none, .func (fn0 (Str.ofString "_bitcount") (Str.ofString "_bitcount") (prm (top 3)) (bod (top 3)) (scp (top 3)) ([]) (Value.none) (Value.none) (Value.none) (Value.none) (none) (Value.none) (Value.none)), #[]⟩
noncomputable def o_95 (P : Params) : Obj := { cls := Value.type "tuple", data := Data.seq #[Value.str (Str.ofString "v") 373, Value.str (Str.ofString "other") 374, Value.str (Str.ofString "operator") 375] }
noncomputable def o_87 (P : Params) : Obj := { cls := Value.type "tuple", data := Data.seq #[Value.str (Str.ofString "val") 356] }
noncomputable def o_83 (P : Params) : Obj := { cls := Value.type "code", data := Data.fields #[Value.str (Str.ofString "_wall") 344, Value.str (Str.ofString "_wall") 345, Value.str (Str.ofString "/claim/cut.py") 346, Value.int 2 0, Value.int 1 0, Value.int 0 0, Value.int 0 0, Value.int 3 0, Value.ref 33, Value.bool true, Value.int 338 0, Value.ref 34, Value.none, Value.ref 35, Value.ref 36, Value.ref 37, Value.int 348 0, Value.int 2 0, Value.str (Str.ofString "/claim/cut.py") 349] }
noncomputable def o_99 (P : Params) : Obj := ⟨Value.type "function", none, .func (fnX (Str.ofString "compare_pvector") (Str.ofString "compare_pvector") (prm (top 7)) (bod (top 7)) (scp (top 7)) ([]) (Value.none) (Value.none) (Value.none) (Value.str (Str.ofString "pyrsistent._pvector") 351) (none) (Value.ref 53) (Value.none)), #[]⟩
noncomputable def o_77 (P : Params) : Obj := { cls := Value.none, data := Data.fields #[Value.int 2 0, Value.int 0 0, Value.ref 38, Value.int 6 0, Value.int 0 0, Value.ref 45, Value.int 11 0, Value.int 0 0, Value.ref 53] }
noncomputable def o_91 (P : Params) : Obj := ⟨Value.type "function", none, .func (fnX (Str.ofString "_bitcount") (Str.ofString "_bitcount") (prm (top 3)) (bod (top 3)) (scp (top 3)) ([]) (Value.none) (Value.none) (Value.none) (Value.str (Str.ofString "pyrsistent._pvector") 351) (none) (Value.ref 45) (Value.none)), #[]⟩
noncomputable def tree_99 (P : Params) : BT := BT.node (o_640 P) (BT.node (o_673 P) (BT.node (o_76 P) (BT.node (o_647 P) (BT.node (o_657 P) (BT.node (o_72 P) BT.nil BT.nil) (BT.node (o_92 P) BT.nil BT.nil)) (BT.node (o_668 P) (BT.node (o_84 P) BT.nil BT.nil) BT.nil)) (BT.node (o_651 P) (BT.node (o_675 P) (BT.node (o_80 P) BT.nil BT.nil) (BT.node (o_647 P) BT.nil BT.nil)) (BT.node (o_677 P) (BT.node (o_647 P) BT.nil BT.nil) BT.nil))) (BT.node (o_644 P) (BT.node (o_649 P) (BT.node (o_660 P) (BT.node (o_647 P) BT.nil BT.nil) (BT.node (o_648 P) BT.nil BT.nil)) (BT.node (o_671 P) (BT.node (o_648 P) BT.nil BT.nil) BT.nil)) (BT.node (o_654 P) (BT.node (o_687 P) (BT.node (o_82 P) BT.nil BT.nil) (BT.node (o_98 P) BT.nil BT.nil)) (BT.node (o_647 P) (BT.node (o_90 P) BT.nil BT.nil) BT.nil)))) (BT.node (o_684 P) (BT.node (o_643 P) (BT.node (o_648 P) (BT.node (o_647 P) (BT.node (o_73 P) BT.nil BT.nil) (BT.node (o_647 P) BT.nil BT.nil)) (BT.node (o_669 P) (BT.node (o_647 P) BT.nil BT.nil) BT.nil)) (BT.node (o_53 P) (BT.node (o_664 P) (BT.node (o_647 P) BT.nil BT.nil) (BT.node (o_97 P) BT.nil BT.nil)) (BT.node (o_686 P) (BT.node (o_89 P) BT.nil BT.nil) BT.nil))) (BT.node (o_645 P) (BT.node (o_650 P) (BT.node (o_661 P) (BT.node (o_648 P) BT.nil BT.nil) (BT.node (o_95 P) BT.nil BT.nil)) (BT.node (o_672 P) (BT.node (o_87 P) BT.nil BT.nil) BT.nil)) (BT.node (o_659 P) (BT.node (o_670 P) (BT.node (o_83 P) BT.nil BT.nil) (BT.node (o_99 P) BT.nil BT.nil)) (BT.node (o_77 P) (BT.node (o_91 P) BT.nil BT.nil) BT.nil))))
noncomputable def o_100 (P : Params) : Obj := { cls := Value.type "dict", data := Data.dict #[kv P "__name__" 165 (Value.str (Str.ofString "pyrsistent._pvector") 351), kv P "__doc__" 166 (Value.none), kv P "__package__" 167 (Value.none), kv P "__loader__" 168 (Value.builtin "__main__.__loader__#opaque"), kv P "__spec__" 169 (Value.none), kv P "__annotations__" 170 (Value.ref 6), kv P "__builtins__" 171 (Value.ref 4), kv P "__file__" 173 (Value.str (Str.ofString "/claim/cut.py") 172), kv P "__cached__" 174 (Value.none), kv P "eq" 325 (Value.builtin "_operator.eq"), kv P "ge" 328 (Value.builtin "_operator.ge"), kv P "gt" 331 (Value.builtin "_operator.gt"), kv P "le" 334 (Value.builtin "_operator.le"), kv P "lt" 337 (Value.builtin "_operator.lt"), kv P "_wall" 350 (Value.ref 39), kv P "_bitcount" 359 (Value.ref 46), kv P "BRANCH_FACTOR" 361 (Value.int 32 360), kv P "BIT_MASK" 364 (Value.int 31 363), kv P "SHIFT" 369 (Value.int 5 368), kv P "compare_pvector" 378 (Value.ref 54), kv P "PythonPVector" 721 (Value.ref 296)] 21 }
noncomputable def o_110 (P : Params) : Obj := { cls := Value.type "tuple", data := Data.seq #[Value.str (Str.ofString "_count") 391, Value.str (Str.ofString "_shift") 392, Value.str (Str.ofString "_root") 393, Value.str (Str.ofString "_tail") 394, Value.str (Str.ofString "_tail_offset") 395, Value.str (Str.ofString "__weakref__") 396] }
noncomputable def o_174 (P : Params) : Obj := ⟨Value.type "function", none, .func (fnX (Str.ofString "__eq__") (Str.ofString "PythonPVector.__eq__") (prm (own 8 9)) (bod (own 8 9)) (scp (own 8 9)) ([]) (Value.none) (Value.none) (Value.none) (Value.str (Str.ofString "pyrsistent._pvector") 351) (none) (Value.ref 126) (Value.none)), #[]⟩
noncomputable def o_302 (P : Params) : Obj := { cls := Value.type "code", data := Data.fields #[Value.str (Str.ofString "extend") 641, Value.str (Str.ofString "PythonPVector.extend") 642, Value.str (Str.ofString "/claim/cut.py") 643, Value.int 170 0, Value.int 2 0, Value.int 0 0, Value.int 0 0, Value.int 3 0, Value.ref 250, Value.bool true, Value.int 338 0, Value.ref 251, Value.none, Value.ref 252, Value.ref 253, Value.ref 254, Value.int 648 0, Value.int 170 0, Value.str (Str.ofString "/claim/cut.py") 649] }
noncomputable def o_142 (P : Params) : Obj := { cls := Value.type "tuple", data := Data.seq #[Value.str (Str.ofString "self") 437] }
noncomputable def o_158 (P : Params) : Obj := ⟨Value.none, none, .func (fn0 (Str.ofString "__iter__") (Str.ofString "PythonPVector.__iter__") (prm (own 8 7)) (bod (own 8 7)) (scp (own 8 7)) ([]) (Value.none) (Value.none) (Value.none) (Value.none) (none) (Value.none) (Value.none)), #[]⟩
noncomputable def o_222 (P : Params) : Obj := { cls := Value.type "code", data := Data.fields #[Value.str (Str.ofString "tolist") 523, Value.str (Str.ofString "PythonPVector.tolist") 524, Value.str (Str.ofString "/claim/cut.py") 525, Value.int 83 0, Value.int 1 0, Value.int 0 0, Value.int 0 0, Value.int 3 0, Value.ref 170, Value.bool true, Value.int 338 0, Value.ref 171, Value.none, Value.ref 172, Value.ref 173, Value.ref 174, Value.int 528 0, Value.int 83 0, Value.str (Str.ofString "/claim/cut.py") 529] }
noncomputable def o_350 (P : Params) : Obj := { cls := Value.type "getset_descriptor", data := Data.fields #[Value.str (Str.ofString "__weakref__") 716, Value.ref 296, Value.builtin "ExceptionGroup.__weakref__", Value.none] }
noncomputable def o_118 (P : Params) : Obj := ⟨Value.type "function", none, .func (fnX (Str.ofString "__new__") (Str.ofString "PythonPVector.__new__") (prm (own 8 1)) (bod (own 8 1)) (scp (own 8 1)) ([(Str.ofString "__class__", 58)]) (Value.none) (Value.none) (Value.none) (Value.str (Str.ofString "pyrsistent._pvector") 351) (none) (Value.ref 70) (Value.ref 64)), #[]⟩
noncomputable def o_310 (P : Params) : Obj := ⟨Value.type "function", none, .func (fnX (Str.ofString "_push_tail") (Str.ofString "PythonPVector._push_tail") (prm (own 8 29)) (bod (own 8 29)) (scp (own 8 29)) ([]) (Value.none) (Value.none) (Value.none) (Value.str (Str.ofString "pyrsistent._pvector") 351) (none) (Value.ref 262) (Value.none)), #[]⟩
noncomputable def o_214 (P : Params) : Obj := ⟨Value.none, none, .func (fn0 (Str.ofString "_fill_list") (Str.ofString "PythonPVector._fill_list") (prm (own 8 16)) (bod (own 8 16)) (scp (own 8 16)) ([]) (Value.none) (Value.none) (Value.none) (Value.none) (none) (Value.none) (Value.none)), #[]⟩
noncomputable def o_342 (P : Params) : Obj := { cls := Value.type "dict", data := Data.dict #[kv P "__module__" 386 (Value.str (Str.ofString "pyrsistent._pvector") 351), kv P "__firstlineno__" 390 (Value.int 13 389), kv P "__slots__" 397 (Value.ref 63), kv P "__new__" 410 (Value.ref 297), kv P "__len__" 417 (Value.ref 78), kv P "__getitem__" 425 (Value.ref 85), kv P "__add__" 433 (Value.ref 92), kv P "__repr__" 440 (Value.ref 99), kv P "__str__" 447 (Value.ref 106), kv P "__iter__" 454 (Value.ref 113), kv P "__ne__" 462 (Value.ref 120), kv P "__eq__" 470 (Value.ref 127), kv P "__gt__" 478 (Value.ref 134), kv P "__lt__" 486 (Value.ref 141), kv P "__ge__" 494 (Value.ref 148), kv P "__le__" 502 (Value.ref 155), kv P "__mul__" 510 (Value.ref 162), kv P "__rmul__" 511 (Value.ref 162), kv P "_fill_list" 522 (Value.ref 169), kv P "tolist" 530 (Value.ref 176), kv P "_totuple" 537 (Value.ref 183), kv P "set" 547 (Value.ref 190), kv P "_do_set" 560 (Value.ref 197), kv P "_node_for" 582 (Value.ref 206), kv P "_create_new_root" 591 (Value.ref 214), kv P "append" 602 (Value.ref 221), kv P "_new_path" 611 (Value.ref 228), kv P "_mutating_insert_tail" 618 (Value.ref 235), kv P "_mutating_fill_tail" 630 (Value.ref 242), kv P "_mutating_extend" 640 (Value.ref 249), kv P "extend" 650 (Value.ref 256), kv P "_push_tail" 662 (Value.ref 263), kv P "index" 672 (Value.ref 270), kv P "count" 680 (Value.ref 277), kv P "delete" 689 (Value.ref 285), kv P "remove" 697 (Value.ref 292), kv P "__static_attributes__" 703 (Value.ref 293), kv P "_count" 707 (Value.ref 298), kv P "_root" 709 (Value.ref 299), kv P "_shift" 711 (Value.ref 300), kv P "_tail" 713 (Value.ref 301), kv P "_tail_offset" 715 (Value.ref 302), kv P "__weakref__" 717 (Value.ref 303), kv P "__doc__" 718 (Value.none), kv P "__hash__" 719 (Value.none)] 10 }
noncomputable def o_278 (P : Params) : Obj := { cls := Value.type "tuple", data := Data.seq #[Value.str (Str.ofString "self") 615] }
noncomputable def o_102 (P : Params) : Obj := { cls := Value.type "tuple", data := Data.seq #[Value.type "object"] }
noncomputable def o_198 (P : Params) : Obj := { cls := Value.type "tuple", data := Data.seq #[Value.str (Str.ofString "self") 498, Value.str (Str.ofString "other") 499] }
noncomputable def o_166 (P : Params) : Obj := { cls := Value.type "code", data := Data.fields #[Value.str (Str.ofString "__ne__") 455, Value.str (Str.ofString "PythonPVector.__ne__") 456, Value.str (Str.ofString "/claim/cut.py") 457, Value.int 49 0, Value.int 2 0, Value.int 0 0, Value.int 0 0, Value.int 3 0, Value.ref 114, Value.bool true, Value.int 338 0, Value.ref 115, Value.none, Value.ref 116, Value.ref 117, Value.ref 118, Value.int 460 0, Value.int 49 0, Value.str (Str.ofString "/claim/cut.py") 461] }
noncomputable def o_230 (P : Params) : Obj := ⟨Value.type "function", none, .func (fnX (Str.ofString "_totuple") (Str.ofString "PythonPVector._totuple") (prm (own 8 18)) (bod (own 8 18)) (scp (own 8 18)) ([]) (Value.none) (Value.none) (Value.none) (Value.str (Str.ofString "pyrsistent._pvector") 351) (none) (Value.ref 182) (Value.none)), #[]⟩
noncomputable def o_294 (P : Params) : Obj := ⟨Value.none, none, .func (fn0 (Str.ofString "_mutating_extend") (Str.ofString "PythonPVector._mutating_extend") (prm (own 8 27)) (bod (own 8 27)) (scp (own 8 27)) ([]) (Value.none) (Value.none) (Value.none) (Value.none) (none) (Value.none) (Value.none)), #[]⟩
noncomputable def o_114 (P : Params) : Obj := { cls := Value.type "tuple", data := Data.seq #[Value.str (Str.ofString "cls") 402, Value.str (Str.ofString "count") 403, Value.str (Str.ofString "shift") 404, Value.str (Str.ofString "root") 405, Value.str (Str.ofString "tail") 406, Value.str (Str.ofString "self") 407] }
noncomputable def o_306 (P : Params) : Obj := { cls := Value.type "tuple", data := Data.seq #[Value.str (Str.ofString "self") 654, Value.str (Str.ofString "level") 655, Value.str (Str.ofString "parent") 656, Value.str (Str.ofString "tail_node") 657, Value.str (Str.ofString "ret") 658, Value.str (Str.ofString "sub_index") 659] }
noncomputable def o_242 (P : Params) : Obj := ⟨Value.none, none, .func (fn0 (Str.ofString "_do_set") (Str.ofString "PythonPVector._do_set") (prm (own 8 20)) (bod (own 8 20)) (scp (own 8 20)) ([]) (Value.none) (Value.none) (Value.none) (Value.none) (none) (Value.none) (Value.none)), #[]⟩
noncomputable def o_146 (P : Params) : Obj := ⟨Value.type "function", none, .func (fnX (Str.ofString "__repr__") (Str.ofString "PythonPVector.__repr__") (prm (own 8 5)) (bod (own 8 5)) (scp (own 8 5)) ([]) (Value.none) (Value.none) (Value.none) (Value.str (Str.ofString "pyrsistent._pvector") 351) (none) (Value.ref 98) (Value.none)), #[]⟩
noncomputable def o_338 (P : Params) : Obj := { cls := Value.type "code", data := Data.fields #[Value.str (Str.ofString "remove") 690, Value.str (Str.ofString "PythonPVector.remove") 691, Value.str (Str.ofString "/claim/cut.py") 692, Value.int 199 0, Value.int 2 0, Value.int 0 0, Value.int 0 0, Value.int 3 0, Value.ref 286, Value.bool true, Value.int 338 0, Value.ref 287, Value.none, Value.ref 288, Value.ref 289, Value.ref 290, Value.int 695 0, Value.int 199 0, Value.str (Str.ofString "/claim/cut.py") 696] }
noncomputable def o_274 (P : Params) : Obj := { cls := Value.type "code", data := Data.fields #[Value.str (Str.ofString "_new_path") 603, Value.str (Str.ofString "PythonPVector._new_path") 604, Value.str (Str.ofString "/claim/cut.py") 605, Value.int 144 0, Value.int 3 0, Value.int 0 0, Value.int 0 0, Value.int 3 0, Value.ref 222, Value.bool true, Value.int 338 0, Value.ref 223, Value.none, Value.ref 224, Value.ref 225, Value.ref 226, Value.int 609 0, Value.int 144 0, Value.str (Str.ofString "/claim/cut.py") 610] }
noncomputable def o_130 (P : Params) : Obj := ⟨Value.none, none, .func (fn0 (Str.ofString "__getitem__") (Str.ofString "PythonPVector.__getitem__") (prm (own 8 3)) (bod (own 8 3)) (scp (own 8 3)) ([]) (Value.none) (Value.none) (Value.none) (Value.none) (none) (Value.none) (Value.none)), #[]⟩
noncomputable def o_194 (P : Params) : Obj := { cls := Value.type "code", data := Data.fields #[Value.str (Str.ofString "__ge__") 487, Value.str (Str.ofString "PythonPVector.__ge__") 488, Value.str (Str.ofString "/claim/cut.py") 489, Value.int 61 0, Value.int 2 0, Value.int 0 0, Value.int 0 0, Value.int 3 0, Value.ref 142, Value.bool true, Value.int 338 0, Value.ref 143, Value.none, Value.ref 144, Value.ref 145, Value.ref 146, Value.int 492 0, Value.int 61 0, Value.str (Str.ofString "/claim/cut.py") 493] }
noncomputable def o_322 (P : Params) : Obj := ⟨Value.none, none, .func (fn0 (Str.ofString "count") (Str.ofString "PythonPVector.count") (prm (own 8 31)) (bod (own 8 31)) (scp (own 8 31)) ([]) (Value.none) (Value.none) (Value.none) (Value.none) (none) (Value.none) (Value.none)), #[]⟩
noncomputable def o_226 (P : Params) : Obj := { cls := Value.type "tuple", data := Data.seq #[Value.str (Str.ofString "self") 534] }
noncomputable def o_186 (P : Params) : Obj := ⟨Value.none, none, .func (fn0 (Str.ofString "__lt__") (Str.ofString "PythonPVector.__lt__") (prm (own 8 11)) (bod (own 8 11)) (scp (own 8 11)) ([]) (Value.none) (Value.none) (Value.none) (Value.none) (none) (Value.none) (Value.none)), #[]⟩
noncomputable def o_250 (P : Params) : Obj := { cls := Value.type "code", data := Data.fields #[Value.str (Str.ofString "_node_for") 561, Value.str (Str.ofString "PythonPVector._node_for") 562, Value.str (Str.ofString "/claim/cut.py") 563, Value.int 116 0, Value.int 2 0, Value.int 0 0, Value.int 0 0, Value.int 3 0, Value.ref 198, Value.bool true, Value.int 338 0, Value.ref 199, Value.none, Value.ref 200, Value.ref 201, Value.ref 202, Value.int 568 0, Value.int 116 0, Value.str (Str.ofString "/claim/cut.py") 569] }
noncomputable def o_346 (P : Params) : Obj := { cls := Value.type "member_descriptor", data := Data.fields #[Value.str (Str.ofString "_root") 708, Value.ref 296, Value.builtin "proto.slot", Value.builtin "proto.slot#set", Value.int 3 0] }
noncomputable def o_282 (P : Params) : Obj := ⟨Value.type "function", none, .func (fnX (Str.ofString "_mutating_insert_tail") (Str.ofString "PythonPVector._mutating_insert_tail") (prm (own 8 25)) (bod (own 8 25)) (scp (own 8 25)) ([]) (Value.none) (Value.none) (Value.none) (Value.str (Str.ofString "pyrsistent._pvector") 351) (none) (Value.ref 234) (Value.none)), #[]⟩
noncomputable def o_138 (P : Params) : Obj := { cls := Value.type "code", data := Data.fields #[Value.str (Str.ofString "__add__") 426, Value.str (Str.ofString "PythonPVector.__add__") 427, Value.str (Str.ofString "/claim/cut.py") 428, Value.int 37 0, Value.int 2 0, Value.int 0 0, Value.int 0 0, Value.int 3 0, Value.ref 86, Value.bool true, Value.int 338 0, Value.ref 87, Value.none, Value.ref 88, Value.ref 89, Value.ref 90, Value.int 431 0, Value.int 37 0, Value.str (Str.ofString "/claim/cut.py") 432] }
noncomputable def o_202 (P : Params) : Obj := ⟨Value.type "function", none, .func (fnX (Str.ofString "__le__") (Str.ofString "PythonPVector.__le__") (prm (own 8 13)) (bod (own 8 13)) (scp (own 8 13)) ([]) (Value.none) (Value.none) (Value.none) (Value.str (Str.ofString "pyrsistent._pvector") 351) (none) (Value.ref 154) (Value.none)), #[]⟩
noncomputable def o_330 (P : Params) : Obj := ⟨Value.none, none, .func (fn0 (Str.ofString "delete") (Str.ofString "PythonPVector.delete") (prm (own 8 32)) (bod (own 8 32)) (scp (own 8 32)) ([]) (Value.none) (Value.none) (Value.none) (Value.none) (none) (Value.none) (Value.none)), #[]⟩
noncomputable def o_266 (P : Params) : Obj := ⟨Value.none, none, .func (fn0 (Str.ofString "append") (Str.ofString "PythonPVector.append") (prm (own 8 23)) (bod (own 8 23)) (scp (own 8 23)) ([]) (Value.none) (Value.none) (Value.none) (Value.none) (none) (Value.none) (Value.none)), #[]⟩
noncomputable def o_170 (P : Params) : Obj := { cls := Value.type "tuple", data := Data.seq #[Value.str (Str.ofString "self") 466, Value.str (Str.ofString "other") 467] }
noncomputable def o_112 (P : Params) : Obj := { cls := Value.type "tuple", data := Data.seq #[Value.str (Str.ofString "__class__") 401] }
noncomputable def o_240 (P : Params) : Obj := { cls := Value.type "tuple", data := Data.seq #[Value.str (Str.ofString "self") 551, Value.str (Str.ofString "level") 552, Value.str (Str.ofString "node") 553, Value.str (Str.ofString "i") 554, Value.str (Str.ofString "val") 555, Value.str (Str.ofString "ret") 556, Value.str (Str.ofString "sub_index") 557] }
noncomputable def o_144 (P : Params) : Obj := ⟨Value.none, none, .func (fn0 (Str.ofString "__repr__") (Str.ofString "PythonPVector.__repr__") (prm (own 8 5)) (bod (own 8 5)) (scp (own 8 5)) ([]) (Value.none) (Value.none) (Value.none) (Value.none) (none) (Value.none) (Value.none)), #[]⟩
noncomputable def o_208 (P : Params) : Obj := { cls := Value.type "code", data := Data.fields #[Value.str (Str.ofString "__mul__") 503, Value.str (Str.ofString "PythonPVector.__mul__") 504, Value.str (Str.ofString "/claim/cut.py") 505, Value.int 67 0, Value.int 2 0, Value.int 0 0, Value.int 0 0, Value.int 3 0, Value.ref 156, Value.bool true, Value.int 338 0, Value.ref 157, Value.none, Value.ref 158, Value.ref 159, Value.ref 160, Value.int 508 0, Value.int 67 0, Value.str (Str.ofString "/claim/cut.py") 509] }
noncomputable def o_128 (P : Params) : Obj := { cls := Value.type "tuple", data := Data.seq #[Value.str (Str.ofString "self") 421, Value.str (Str.ofString "index") 422] }
noncomputable def o_320 (P : Params) : Obj := { cls := Value.type "tuple", data := Data.seq #[Value.str (Str.ofString "self") 676, Value.str (Str.ofString "value") 677] }
noncomputable def o_160 (P : Params) : Obj := ⟨Value.type "function", none, .func (fnX (Str.ofString "__iter__") (Str.ofString "PythonPVector.__iter__") (prm (own 8 7)) (bod (own 8 7)) (scp (own 8 7)) ([]) (Value.none) (Value.none) (Value.none) (Value.str (Str.ofString "pyrsistent._pvector") 351) (none) (Value.ref 112) (Value.none)), #[]⟩
noncomputable def o_352 (P : Params) : Obj := { cls := Value.type "builtin_function_or_method", data := Data.fields #[Value.builtin "object.__init_subclass__", Value.ref 296] }
noncomputable def o_288 (P : Params) : Obj := { cls := Value.type "code", data := Data.fields #[Value.str (Str.ofString "_mutating_fill_tail") 619, Value.str (Str.ofString "PythonPVector._mutating_fill_tail") 620, Value.str (Str.ofString "/claim/cut.py") 621, Value.int 153 0, Value.int 3 0, Value.int 0 0, Value.int 0 0, Value.int 3 0, Value.ref 236, Value.bool true, Value.int 338 0, Value.ref 237, Value.none, Value.ref 238, Value.ref 239, Value.ref 240, Value.int 628 0, Value.int 153 0, Value.str (Str.ofString "/claim/cut.py") 629] }
noncomputable def o_184 (P : Params) : Obj := { cls := Value.type "tuple", data := Data.seq #[Value.str (Str.ofString "self") 482, Value.str (Str.ofString "other") 483] }
noncomputable def o_152 (P : Params) : Obj := { cls := Value.type "code", data := Data.fields #[Value.str (Str.ofString "__str__") 441, Value.str (Str.ofString "PythonPVector.__str__") 442, Value.str (Str.ofString "/claim/cut.py") 443, Value.int 43 0, Value.int 1 0, Value.int 0 0, Value.int 0 0, Value.int 3 0, Value.ref 100, Value.bool true, Value.int 338 0, Value.ref 101, Value.none, Value.ref 102, Value.ref 103, Value.ref 104, Value.int 445 0, Value.int 43 0, Value.str (Str.ofString "/claim/cut.py") 446] }
noncomputable def o_216 (P : Params) : Obj := ⟨Value.type "function", none, .func (fnX (Str.ofString "_fill_list") (Str.ofString "PythonPVector._fill_list") (prm (own 8 16)) (bod (own 8 16)) (scp (own 8 16)) ([]) (Value.none) (Value.none) (Value.none) (Value.str (Str.ofString "pyrsistent._pvector") 351) (none) (Value.ref 168) (Value.none)), #[]⟩
noncomputable def o_344 (P : Params) : Obj := { cls := Value.type "staticmethod", data := Data.fields #[Value.ref 71] }
noncomputable def o_280 (P : Params) : Obj := ⟨Value.none, none, .func (fn0 (Str.ofString "_mutating_insert_tail") (Str.ofString "PythonPVector._mutating_insert_tail") (prm (own 8 25)) (bod (own 8 25)) (scp (own 8 25)) ([]) (Value.none) (Value.none) (Value.none) (Value.none) (none) (Value.none) (Value.none)), #[]⟩
noncomputable def o_104 (P : Params) : Obj := { cls := Value.type "dict", data := Data.dict #[kv P "__module__" 386 (Value.str (Str.ofString "pyrsistent._pvector") 351), kv P "__qualname__" 388 (Value.str (Str.ofString "PythonPVector") 387), kv P "__firstlineno__" 390 (Value.int 13 389), kv P "__slots__" 397 (Value.ref 63), kv P "__new__" 410 (Value.ref 71), kv P "__len__" 417 (Value.ref 78), kv P "__getitem__" 425 (Value.ref 85), kv P "__add__" 433 (Value.ref 92), kv P "__repr__" 440 (Value.ref 99), kv P "__str__" 447 (Value.ref 106), kv P "__iter__" 454 (Value.ref 113), kv P "__ne__" 462 (Value.ref 120), kv P "__eq__" 470 (Value.ref 127), kv P "__gt__" 478 (Value.ref 134), kv P "__lt__" 486 (Value.ref 141), kv P "__ge__" 494 (Value.ref 148), kv P "__le__" 502 (Value.ref 155), kv P "__mul__" 510 (Value.ref 162), kv P "__rmul__" 511 (Value.ref 162), kv P "_fill_list" 522 (Value.ref 169), kv P "tolist" 530 (Value.ref 176), kv P "_totuple" 537 (Value.ref 183), kv P "set" 547 (Value.ref 190), kv P "_do_set" 560 (Value.ref 197), kv P "_node_for" 582 (Value.ref 206), kv P "_create_new_root" 591 (Value.ref 214), kv P "append" 602 (Value.ref 221), kv P "_new_path" 611 (Value.ref 228), kv P "_mutating_insert_tail" 618 (Value.ref 235), kv P "_mutating_fill_tail" 630 (Value.ref 242), kv P "_mutating_extend" 640 (Value.ref 249), kv P "extend" 650 (Value.ref 256), kv P "_push_tail" 662 (Value.ref 263), kv P "index" 672 (Value.ref 270), kv P "count" 680 (Value.ref 277), kv P "delete" 689 (Value.ref 285), kv P "remove" 697 (Value.ref 292), kv P "__static_attributes__" 703 (Value.ref 293), kv P "__classcell__" 704 (Value.ref 58)] 39 }
noncomputable def o_200 (P : Params) : Obj := ⟨Value.none, none, .func (fn0 (Str.ofString "__le__") (Str.ofString "PythonPVector.__le__") (prm (own 8 13)) (bod (own 8 13)) (scp (own 8 13)) ([]) (Value.none) (Value.none) (Value.none) (Value.none) (none) (Value.none) (Value.none)), #[]⟩
noncomputable def o_328 (P : Params) : Obj := { cls := Value.type "tuple", data := Data.seq #[Value.str (Str.ofString "self") 684, Value.str (Str.ofString "index") 685, Value.str (Str.ofString "stop") 686] }
noncomputable def o_264 (P : Params) : Obj := { cls := Value.type "tuple", data := Data.seq #[Value.str (Str.ofString "self") 595, Value.str (Str.ofString "val") 596, Value.str (Str.ofString "new_tail") 597, Value.str (Str.ofString "new_root") 598, Value.str (Str.ofString "new_shift") 599] }
noncomputable def o_296 (P : Params) : Obj := ⟨Value.type "function", none, .func (fnX (Str.ofString "_mutating_extend") (Str.ofString "PythonPVector._mutating_extend") (prm (own 8 27)) (bod (own 8 27)) (scp (own 8 27)) ([]) (Value.none) (Value.none) (Value.none) (Value.str (Str.ofString "pyrsistent._pvector") 351) (none) (Value.ref 248) (Value.none)), #[]⟩
noncomputable def o_116 (P : Params) : Obj := ⟨Value.none, none, .func (fn0 (Str.ofString "__new__") (Str.ofString "PythonPVector.__new__") (prm (own 8 1)) (bod (own 8 1)) (scp (own 8 1)) ([]) (Value.none) (Value.none) (Value.none) (Value.none) (none) (Value.none) (Value.none)), #[]⟩
noncomputable def o_180 (P : Params) : Obj := { cls := Value.type "code", data := Data.fields #[Value.str (Str.ofString "__gt__") 471, Value.str (Str.ofString "PythonPVector.__gt__") 472, Value.str (Str.ofString "/claim/cut.py") 473, Value.int 55 0, Value.int 2 0, Value.int 0 0, Value.int 0 0, Value.int 3 0, Value.ref 128, Value.bool true, Value.int 338 0, Value.ref 129, Value.none, Value.ref 130, Value.ref 131, Value.ref 132, Value.int 476 0, Value.int 55 0, Value.str (Str.ofString "/claim/cut.py") 477] }
noncomputable def o_308 (P : Params) : Obj := ⟨Value.none, none, .func (fn0 (Str.ofString "_push_tail") (Str.ofString "PythonPVector._push_tail") (prm (own 8 29)) (bod (own 8 29)) (scp (own 8 29)) ([]) (Value.none) (Value.none) (Value.none) (Value.none) (none) (Value.none) (Value.none)), #[]⟩
noncomputable def o_244 (P : Params) : Obj := ⟨Value.type "function", none, .func (fnX (Str.ofString "_do_set") (Str.ofString "PythonPVector._do_set") (prm (own 8 20)) (bod (own 8 20)) (scp (own 8 20)) ([]) (Value.none) (Value.none) (Value.none) (Value.str (Str.ofString "pyrsistent._pvector") 351) (none) (Value.ref 196) (Value.none)), #[]⟩
noncomputable def o_212 (P : Params) : Obj := { cls := Value.type "tuple", data := Data.seq #[Value.str (Str.ofString "self") 515, Value.str (Str.ofString "node") 516, Value.str (Str.ofString "shift") 517, Value.str (Str.ofString "the_list") 518, Value.str (Str.ofString "n") 519] }
noncomputable def o_340 (P : Params) : Obj := { cls := Value.type "tuple", data := Data.seq #[Value.str (Str.ofString "_count") 698, Value.str (Str.ofString "_root") 699, Value.str (Str.ofString "_shift") 700, Value.str (Str.ofString "_tail") 701, Value.str (Str.ofString "_tail_offset") 702] }
noncomputable def o_132 (P : Params) : Obj := ⟨Value.type "function", none, .func (fnX (Str.ofString "__getitem__") (Str.ofString "PythonPVector.__getitem__") (prm (own 8 3)) (bod (own 8 3)) (scp (own 8 3)) ([]) (Value.none) (Value.none) (Value.none) (Value.str (Str.ofString "pyrsistent._pvector") 351) (none) (Value.ref 84) (Value.none)), #[]⟩
noncomputable def o_324 (P : Params) : Obj := ⟨Value.type "function", none, .func (fnX (Str.ofString "count") (Str.ofString "PythonPVector.count") (prm (own 8 31)) (bod (own 8 31)) (scp (own 8 31)) ([]) (Value.none) (Value.none) (Value.none) (Value.str (Str.ofString "pyrsistent._pvector") 351) (none) (Value.ref 276) (Value.none)), #[]⟩
noncomputable def o_260 (P : Params) : Obj := { cls := Value.type "code", data := Data.fields #[Value.str (Str.ofString "_create_new_root") 583, Value.str (Str.ofString "PythonPVector._create_new_root") 584, Value.str (Str.ofString "/claim/cut.py") 585, Value.int 127 0, Value.int 1 0, Value.int 0 0, Value.int 0 0, Value.int 3 0, Value.ref 208, Value.bool true, Value.int 338 0, Value.ref 209, Value.none, Value.ref 210, Value.ref 211, Value.ref 212, Value.int 589 0, Value.int 127 0, Value.str (Str.ofString "/claim/cut.py") 590] }
noncomputable def o_228 (P : Params) : Obj := ⟨Value.none, none, .func (fn0 (Str.ofString "_totuple") (Str.ofString "PythonPVector._totuple") (prm (own 8 18)) (bod (own 8 18)) (scp (own 8 18)) ([]) (Value.none) (Value.none) (Value.none) (Value.none) (none) (Value.none) (Value.none)), #[]⟩
noncomputable def o_292 (P : Params) : Obj := { cls := Value.type "tuple", data := Data.seq #[Value.str (Str.ofString "self") 634, Value.str (Str.ofString "sequence") 635, Value.str (Str.ofString "offset") 636, Value.str (Str.ofString "sequence_len") 637] }
noncomputable def o_124 (P : Params) : Obj := { cls := Value.type "code", data := Data.fields #[Value.str (Str.ofString "__len__") 411, Value.str (Str.ofString "PythonPVector.__len__") 412, Value.str (Str.ofString "/claim/cut.py") 413, Value.int 25 0, Value.int 1 0, Value.int 0 0, Value.int 0 0, Value.int 3 0, Value.ref 72, Value.bool true, Value.int 338 0, Value.ref 73, Value.none, Value.ref 74, Value.ref 75, Value.ref 76, Value.int 415 0, Value.int 25 0, Value.str (Str.ofString "/claim/cut.py") 416] }
noncomputable def o_188 (P : Params) : Obj := ⟨Value.type "function", none, .func (fnX (Str.ofString "__lt__") (Str.ofString "PythonPVector.__lt__") (prm (own 8 11)) (bod (own 8 11)) (scp (own 8 11)) ([]) (Value.none) (Value.none) (Value.none) (Value.str (Str.ofString "pyrsistent._pvector") 351) (none) (Value.ref 140) (Value.none)), #[]⟩
noncomputable def o_316 (P : Params) : Obj := { cls := Value.type "code", data := Data.fields #[Value.str (Str.ofString "index") 663, Value.str (Str.ofString "PythonPVector.index") 664, Value.str (Str.ofString "/claim/cut.py") 665, Value.int 190 0, Value.int 2 0, Value.int 0 0, Value.int 0 0, Value.int 15 0, Value.ref 264, Value.bool true, Value.int 338 0, Value.ref 265, Value.none, Value.ref 266, Value.ref 267, Value.ref 268, Value.int 670 0, Value.int 190 0, Value.str (Str.ofString "/claim/cut.py") 671] }
noncomputable def o_252 (P : Params) : Obj := { cls := Value.type "dict", data := Data.dict #[kv P "__module__" 571 (Value.str (Str.ofString "pyrsistent._pvector") 351), kv P "__name__" 574 (Value.str (Str.ofString "_node_for") 573), kv P "__qualname__" 577 (Value.str (Str.ofString "PythonPVector._node_for") 576), kv P "__doc__" 579 (Value.none), kv P "__annotations__" 581 (Value.ref 207)] 5 }
noncomputable def o_156 (P : Params) : Obj := { cls := Value.type "tuple", data := Data.seq #[Value.str (Str.ofString "self") 451] }
noncomputable def o_348 (P : Params) : Obj := { cls := Value.type "member_descriptor", data := Data.fields #[Value.str (Str.ofString "_tail") 712, Value.ref 296, Value.builtin "proto.slot", Value.builtin "proto.slot#set", Value.int 1 0] }
noncomputable def o_108 (P : Params) : Obj := { cls := Value.type "code", data := Data.fields #[Value.str (Str.ofString "PythonPVector") 381, Value.str (Str.ofString "PythonPVector") 382, Value.str (Str.ofString "/claim/cut.py") 383, Value.int 13 0, Value.int 0 0, Value.int 0 0, Value.int 0 0, Value.int 0 0, Value.ref 59, Value.bool false, Value.int 338 0, Value.ref 60, Value.none, Value.none, Value.none, Value.none, Value.int 384 0, Value.int 13 0, Value.str (Str.ofString "/claim/cut.py") 385] }
noncomputable def o_332 (P : Params) : Obj := ⟨Value.type "function", none, .func (fnX (Str.ofString "delete") (Str.ofString "PythonPVector.delete") (prm (own 8 32)) (bod (own 8 32)) (scp (own 8 32)) ([]) (Value.ref 278) (Value.none) (Value.none) (Value.str (Str.ofString "pyrsistent._pvector") 351) (none) (Value.ref 284) (Value.none)), #[]⟩
noncomputable def o_268 (P : Params) : Obj := ⟨Value.type "function", none, .func (fnX (Str.ofString "append") (Str.ofString "PythonPVector.append") (prm (own 8 23)) (bod (own 8 23)) (scp (own 8 23)) ([]) (Value.none) (Value.none) (Value.none) (Value.str (Str.ofString "pyrsistent._pvector") 351) (none) (Value.ref 220) (Value.none)), #[]⟩
noncomputable def o_172 (P : Params) : Obj := ⟨Value.none, none, .func (fn0 (Str.ofString "__eq__") (Str.ofString "PythonPVector.__eq__") (prm (own 8 9)) (bod (own 8 9)) (scp (own 8 9)) ([]) (Value.none) (Value.none) (Value.none) (Value.none) (none) (Value.none) (Value.none)), #[]⟩
noncomputable def o_236 (P : Params) : Obj := { cls := Value.type "code", data := Data.fields #[Value.str (Str.ofString "set") 538, Value.str (Str.ofString "PythonPVector.set") 539, Value.str (Str.ofString "/claim/cut.py") 540, Value.int 92 0, Value.int 3 0, Value.int 0 0, Value.int 0 0, Value.int 3 0, Value.ref 184, Value.bool true, Value.int 338 0, Value.ref 185, Value.none, Value.ref 186, Value.ref 187, Value.ref 188, Value.int 545 0, Value.int 92 0, Value.str (Str.ofString "/claim/cut.py") 546] }
noncomputable def o_111 (P : Params) : Obj := { cls := Value.type "tuple", data := Data.seq #[Value.ref 58] }
noncomputable def o_303 (P : Params) : Obj := ⟨Value.type "function", none, .func (fnX (Str.ofString "extend") (Str.ofString "PythonPVector.extend") (prm (own 8 28)) (bod (own 8 28)) (scp (own 8 28)) ([]) (Value.none) (Value.none) (Value.none) (Value.str (Str.ofString "pyrsistent._pvector") 351) (none) (Value.ref 255) (Value.none)), #[]⟩
noncomputable def o_207 (P : Params) : Obj := ⟨Value.none, none, .func (fn0 (Str.ofString "__mul__") (Str.ofString "PythonPVector.__mul__") (prm (own 8 14)) (bod (own 8 14)) (scp (own 8 14)) ([]) (Value.none) (Value.none) (Value.none) (Value.none) (none) (Value.none) (Value.none)), #[]⟩
noncomputable def o_335 (P : Params) : Obj := { cls := Value.type "tuple", data := Data.seq #[Value.str (Str.ofString "self") 693, Value.str (Str.ofString "value") 694] }
noncomputable def o_271 (P : Params) : Obj := { cls := Value.type "tuple", data := Data.seq #[Value.str (Str.ofString "self") 606, Value.str (Str.ofString "level") 607, Value.str (Str.ofString "node") 608] }
noncomputable def o_191 (P : Params) : Obj := { cls := Value.type "tuple", data := Data.seq #[Value.str (Str.ofString "self") 490, Value.str (Str.ofString "other") 491] }
noncomputable def o_159 (P : Params) : Obj := { cls := Value.type "code", data := Data.fields #[Value.str (Str.ofString "__iter__") 448, Value.str (Str.ofString "PythonPVector.__iter__") 449, Value.str (Str.ofString "/claim/cut.py") 450, Value.int 46 0, Value.int 1 0, Value.int 0 0, Value.int 0 0, Value.int 3 0, Value.ref 107, Value.bool true, Value.int 338 0, Value.ref 108, Value.none, Value.ref 109, Value.ref 110, Value.ref 111, Value.int 452 0, Value.int 46 0, Value.str (Str.ofString "/claim/cut.py") 453] }
noncomputable def o_223 (P : Params) : Obj := ⟨Value.type "function", none, .func (fnX (Str.ofString "tolist") (Str.ofString "PythonPVector.tolist") (prm (own 8 17)) (bod (own 8 17)) (scp (own 8 17)) ([]) (Value.none) (Value.none) (Value.none) (Value.str (Str.ofString "pyrsistent._pvector") 351) (none) (Value.ref 175) (Value.none)), #[]⟩
noncomputable def o_351 (P : Params) : Obj := { cls := Value.type "super", data := Data.fields #[Value.ref 296, Value.ref 296, Value.ref 296] }
noncomputable def o_287 (P : Params) : Obj := ⟨Value.none, none, .func (fn0 (Str.ofString "_mutating_fill_tail") (Str.ofString "PythonPVector._mutating_fill_tail") (prm (own 8 26)) (bod (own 8 26)) (scp (own 8 26)) ([]) (Value.none) (Value.none) (Value.none) (Value.none) (none) (Value.none) (Value.none)), #[]⟩
noncomputable def o_247 (P : Params) : Obj := { cls := Value.type "tuple", data := Data.seq #[Value.str (Str.ofString "pvector_like") 564, Value.str (Str.ofString "i") 565, Value.str (Str.ofString "node") 566, Value.str (Str.ofString "level") 567] }
noncomputable def o_151 (P : Params) : Obj := ⟨Value.none, none, .func (fn0 (Str.ofString "__str__") (Str.ofString "PythonPVector.__str__") (prm (own 8 6)) (bod (own 8 6)) (scp (own 8 6)) ([]) (Value.none) (Value.none) (Value.none) (Value.none) (none) (Value.none) (Value.none)), #[]⟩
noncomputable def o_215 (P : Params) : Obj := { cls := Value.type "code", data := Data.fields #[Value.str (Str.ofString "_fill_list") 512, Value.str (Str.ofString "PythonPVector._fill_list") 513, Value.str (Str.ofString "/claim/cut.py") 514, Value.int 75 0, Value.int 4 0, Value.int 0 0, Value.int 0 0, Value.int 3 0, Value.ref 163, Value.bool true, Value.int 338 0, Value.ref 164, Value.none, Value.ref 165, Value.ref 166, Value.ref 167, Value.int 520 0, Value.int 75 0, Value.str (Str.ofString "/claim/cut.py") 521] }
noncomputable def o_343 (P : Params) : Obj := { cls := Value.type "type", data := Data.cls { name := Str.ofString "PythonPVector", bases := [Value.type "object"], mro := [Value.ref 296, Value.type "object"], ns := 295, qualname := Str.ofString "PythonPVector", hasDict := false, slotNames := [Str.ofString "_count", Str.ofString "_root", Str.ofString "_shift", Str.ofString "_tail", Str.ofString "_tail_offset"] }, slots := #[some (Value.ref 55), none, some (Value.str (Str.ofString "PythonPVector") 379), some (Value.str (Str.ofString "PythonPVector") 387), some Value.none, some (Value.bool true)] }
noncomputable def o_103 (P : Params) : Obj := { cls := Value.type "builtin_function_or_method", data := Data.fields #[Value.builtin "type.__prepare__", Value.type "type"] }
noncomputable def o_135 (P : Params) : Obj := { cls := Value.type "tuple", data := Data.seq #[Value.str (Str.ofString "self") 429, Value.str (Str.ofString "other") 430] }
noncomputable def o_167 (P : Params) : Obj := ⟨Value.type "function", none, .func (fnX (Str.ofString "__ne__") (Str.ofString "PythonPVector.__ne__") (prm (own 8 8)) (bod (own 8 8)) (scp (own 8 8)) ([]) (Value.none) (Value.none) (Value.none) (Value.str (Str.ofString "pyrsistent._pvector") 351) (none) (Value.ref 119) (Value.none)), #[]⟩
noncomputable def o_295 (P : Params) : Obj := { cls := Value.type "code", data := Data.fields #[Value.str (Str.ofString "_mutating_extend") 631, Value.str (Str.ofString "PythonPVector._mutating_extend") 632, Value.str (Str.ofString "/claim/cut.py") 633, Value.int 161 0, Value.int 2 0, Value.int 0 0, Value.int 0 0, Value.int 3 0, Value.ref 243, Value.bool true, Value.int 338 0, Value.ref 244, Value.none, Value.ref 245, Value.ref 246, Value.ref 247, Value.int 638 0, Value.int 161 0, Value.str (Str.ofString "/claim/cut.py") 639] }
noncomputable def o_179 (P : Params) : Obj := ⟨Value.none, none, .func (fn0 (Str.ofString "__gt__") (Str.ofString "PythonPVector.__gt__") (prm (own 8 10)) (bod (own 8 10)) (scp (own 8 10)) ([]) (Value.none) (Value.none) (Value.none) (Value.none) (none) (Value.none) (Value.none)), #[]⟩
noncomputable def o_243 (P : Params) : Obj := { cls := Value.type "code", data := Data.fields #[Value.str (Str.ofString "_do_set") 548, Value.str (Str.ofString "PythonPVector._do_set") 549, Value.str (Str.ofString "/claim/cut.py") 550, Value.int 107 0, Value.int 5 0, Value.int 0 0, Value.int 0 0, Value.int 3 0, Value.ref 191, Value.bool true, Value.int 338 0, Value.ref 192, Value.none, Value.ref 193, Value.ref 194, Value.ref 195, Value.int 558 0, Value.int 107 0, Value.str (Str.ofString "/claim/cut.py") 559] }
noncomputable def o_339 (P : Params) : Obj := ⟨Value.type "function", none, .func (fnX (Str.ofString "remove") (Str.ofString "PythonPVector.remove") (prm (own 8 33)) (bod (own 8 33)) (scp (own 8 33)) ([]) (Value.none) (Value.none) (Value.none) (Value.str (Str.ofString "pyrsistent._pvector") 351) (none) (Value.ref 291) (Value.none)), #[]⟩
noncomputable def o_275 (P : Params) : Obj := ⟨Value.type "function", none, .func (fnX (Str.ofString "_new_path") (Str.ofString "PythonPVector._new_path") (prm (own 8 24)) (bod (own 8 24)) (scp (own 8 24)) ([]) (Value.none) (Value.none) (Value.none) (Value.str (Str.ofString "pyrsistent._pvector") 351) (none) (Value.ref 227) (Value.none)), #[]⟩
noncomputable def o_131 (P : Params) : Obj := { cls := Value.type "code", data := Data.fields #[Value.str (Str.ofString "__getitem__") 418, Value.str (Str.ofString "PythonPVector.__getitem__") 419, Value.str (Str.ofString "/claim/cut.py") 420, Value.int 28 0, Value.int 2 0, Value.int 0 0, Value.int 0 0, Value.int 3 0, Value.ref 79, Value.bool true, Value.int 338 0, Value.ref 80, Value.none, Value.ref 81, Value.ref 82, Value.ref 83, Value.int 423 0, Value.int 28 0, Value.str (Str.ofString "/claim/cut.py") 424] }
noncomputable def o_195 (P : Params) : Obj := ⟨Value.type "function", none, .func (fnX (Str.ofString "__ge__") (Str.ofString "PythonPVector.__ge__") (prm (own 8 12)) (bod (own 8 12)) (scp (own 8 12)) ([]) (Value.none) (Value.none) (Value.none) (Value.str (Str.ofString "pyrsistent._pvector") 351) (none) (Value.ref 147) (Value.none)), #[]⟩
noncomputable def o_323 (P : Params) : Obj := { cls := Value.type "code", data := Data.fields #[Value.str (Str.ofString "count") 673, Value.str (Str.ofString "PythonPVector.count") 674, Value.str (Str.ofString "/claim/cut.py") 675, Value.int 193 0, Value.int 2 0, Value.int 0 0, Value.int 0 0, Value.int 3 0, Value.ref 271, Value.bool true, Value.int 338 0, Value.ref 272, Value.none, Value.ref 273, Value.ref 274, Value.ref 275, Value.int 678 0, Value.int 193 0, Value.str (Str.ofString "/claim/cut.py") 679] }
noncomputable def o_259 (P : Params) : Obj := ⟨Value.none, none, .func (fn0 (Str.ofString "_create_new_root") (Str.ofString "PythonPVector._create_new_root") (prm (own 8 22)) (bod (own 8 22)) (scp (own 8 22)) ([]) (Value.none) (Value.none) (Value.none) (Value.none) (none) (Value.none) (Value.none)), #[]⟩
noncomputable def o_163 (P : Params) : Obj := { cls := Value.type "tuple", data := Data.seq #[Value.str (Str.ofString "self") 458, Value.str (Str.ofString "other") 459] }
noncomputable def o_123 (P : Params) : Obj := ⟨Value.none, none, .func (fn0 (Str.ofString "__len__") (Str.ofString "PythonPVector.__len__") (prm (own 8 2)) (bod (own 8 2)) (scp (own 8 2)) ([]) (Value.none) (Value.none) (Value.none) (Value.none) (none) (Value.none) (Value.none)), #[]⟩
noncomputable def o_187 (P : Params) : Obj := { cls := Value.type "code", data := Data.fields #[Value.str (Str.ofString "__lt__") 479, Value.str (Str.ofString "PythonPVector.__lt__") 480, Value.str (Str.ofString "/claim/cut.py") 481, Value.int 58 0, Value.int 2 0, Value.int 0 0, Value.int 0 0, Value.int 3 0, Value.ref 135, Value.bool true, Value.int 338 0, Value.ref 136, Value.none, Value.ref 137, Value.ref 138, Value.ref 139, Value.int 484 0, Value.int 58 0, Value.str (Str.ofString "/claim/cut.py") 485] }
noncomputable def o_315 (P : Params) : Obj := ⟨Value.none, none, .func (fn0 (Str.ofString "index") (Str.ofString "PythonPVector.index") (prm (own 8 30)) (bod (own 8 30)) (scp (own 8 30)) ([]) (Value.none) (Value.none) (Value.none) (Value.none) (none) (Value.none) (Value.none)), #[]⟩
noncomputable def o_251 (P : Params) : Obj := ⟨Value.type "function", none, .func (fnX (Str.ofString "_node_for") (Str.ofString "PythonPVector._node_for") (prm (own 8 21)) (bod (own 8 21)) (scp (own 8 21)) ([]) (Value.none) (Value.none) (Value.none) (Value.str (Str.ofString "pyrsistent._pvector") 351) (some 207) (Value.ref 203) (Value.none)), #[]⟩
noncomputable def o_219 (P : Params) : Obj := { cls := Value.type "tuple", data := Data.seq #[Value.str (Str.ofString "self") 526, Value.str (Str.ofString "the_list") 527] }
noncomputable def o_347 (P : Params) : Obj := { cls := Value.type "member_descriptor", data := Data.fields #[Value.str (Str.ofString "_shift") 710, Value.ref 296, Value.builtin "proto.slot", Value.builtin "proto.slot#set", Value.int 2 0] }
noncomputable def o_107 (P : Params) : Obj := { cls := Value.none, data := Data.fields #[Value.int 16 0, Value.int 4 0, Value.ref 70, Value.int 25 0, Value.int 4 0, Value.ref 77, Value.int 28 0, Value.int 4 0, Value.ref 84, Value.int 37 0, Value.int 4 0, Value.ref 91, Value.int 40 0, Value.int 4 0, Value.ref 98, Value.int 43 0, Value.int 4 0, Value.ref 105, Value.int 46 0, Value.int 4 0, Value.ref 112, Value.int 49 0, Value.int 4 0, Value.ref 119, Value.int 52 0, Value.int 4 0, Value.ref 126, Value.int 55 0, Value.int 4 0, Value.ref 133, Value.int 58 0, Value.int 4 0, Value.ref 140, Value.int 61 0, Value.int 4 0, Value.ref 147, Value.int 64 0, Value.int 4 0, Value.ref 154, Value.int 67 0, Value.int 4 0, Value.ref 161, Value.int 75 0, Value.int 4 0, Value.ref 168, Value.int 83 0, Value.int 4 0, Value.ref 175, Value.int 89 0, Value.int 4 0, Value.ref 182, Value.int 92 0, Value.int 4 0, Value.ref 189, Value.int 107 0, Value.int 4 0, Value.ref 196, Value.int 117 0, Value.int 4 0, Value.ref 203, Value.int 127 0, Value.int 4 0, Value.ref 213, Value.int 136 0, Value.int 4 0, Value.ref 220, Value.int 144 0, Value.int 4 0, Value.ref 227, Value.int 149 0, Value.int 4 0, Value.ref 234, Value.int 153 0, Value.int 4 0, Value.ref 241, Value.int 161 0, Value.int 4 0, Value.ref 248, Value.int 170 0, Value.int 4 0, Value.ref 255, Value.int 178 0, Value.int 4 0, Value.ref 262, Value.int 190 0, Value.int 4 0, Value.ref 269, Value.int 193 0, Value.int 4 0, Value.ref 276, Value.int 196 0, Value.int 4 0, Value.ref 284, Value.int 199 0, Value.int 4 0, Value.ref 291] }
noncomputable def o_139 (P : Params) : Obj := ⟨Value.type "function", none, .func (fnX (Str.ofString "__add__") (Str.ofString "PythonPVector.__add__") (prm (own 8 4)) (bod (own 8 4)) (scp (own 8 4)) ([]) (Value.none) (Value.none) (Value.none) (Value.str (Str.ofString "pyrsistent._pvector") 351) (none) (Value.ref 91) (Value.none)), #[]⟩
noncomputable def o_331 (P : Params) : Obj := { cls := Value.type "code", data := Data.fields #[Value.str (Str.ofString "delete") 681, Value.str (Str.ofString "PythonPVector.delete") 682, Value.str (Str.ofString "/claim/cut.py") 683, Value.int 196 0, Value.int 3 0, Value.int 0 0, Value.int 0 0, Value.int 3 0, Value.ref 279, Value.bool true, Value.int 338 0, Value.ref 280, Value.none, Value.ref 281, Value.ref 282, Value.ref 283, Value.int 687 0, Value.int 196 0, Value.str (Str.ofString "/claim/cut.py") 688] }
noncomputable def o_267 (P : Params) : Obj := { cls := Value.type "code", data := Data.fields #[Value.str (Str.ofString "append") 592, Value.str (Str.ofString "PythonPVector.append") 593, Value.str (Str.ofString "/claim/cut.py") 594, Value.int 136 0, Value.int 2 0, Value.int 0 0, Value.int 0 0, Value.int 3 0, Value.ref 215, Value.bool true, Value.int 338 0, Value.ref 216, Value.none, Value.ref 217, Value.ref 218, Value.ref 219, Value.int 600 0, Value.int 136 0, Value.str (Str.ofString "/claim/cut.py") 601] }
noncomputable def o_235 (P : Params) : Obj := ⟨Value.none, none, .func (fn0 (Str.ofString "set") (Str.ofString "PythonPVector.set") (prm (own 8 19)) (bod (own 8 19)) (scp (own 8 19)) ([]) (Value.none) (Value.none) (Value.none) (Value.none) (none) (Value.none) (Value.none)), #[]⟩
noncomputable def o_299 (P : Params) : Obj := { cls := Value.type "tuple", data := Data.seq #[Value.str (Str.ofString "self") 644, Value.str (Str.ofString "obj") 645, Value.str (Str.ofString "l") 646, Value.str (Str.ofString "new_vector") 647] }
noncomputable def o_177 (P : Params) : Obj := { cls := Value.type "tuple", data := Data.seq #[Value.str (Str.ofString "self") 474, Value.str (Str.ofString "other") 475] }
noncomputable def o_145 (P : Params) : Obj := { cls := Value.type "code", data := Data.fields #[Value.str (Str.ofString "__repr__") 434, Value.str (Str.ofString "PythonPVector.__repr__") 435, Value.str (Str.ofString "/claim/cut.py") 436, Value.int 40 0, Value.int 1 0, Value.int 0 0, Value.int 0 0, Value.int 3 0, Value.ref 93, Value.bool true, Value.int 338 0, Value.ref 94, Value.none, Value.ref 95, Value.ref 96, Value.ref 97, Value.int 438 0, Value.int 40 0, Value.str (Str.ofString "/claim/cut.py") 439] }
noncomputable def o_209 (P : Params) : Obj := ⟨Value.type "function", none, .func (fnX (Str.ofString "__mul__") (Str.ofString "PythonPVector.__mul__") (prm (own 8 14)) (bod (own 8 14)) (scp (own 8 14)) ([]) (Value.none) (Value.none) (Value.none) (Value.str (Str.ofString "pyrsistent._pvector") 351) (none) (Value.ref 161) (Value.none)), #[]⟩
noncomputable def o_337 (P : Params) : Obj := ⟨Value.none, none, .func (fn0 (Str.ofString "remove") (Str.ofString "PythonPVector.remove") (prm (own 8 33)) (bod (own 8 33)) (scp (own 8 33)) ([]) (Value.none) (Value.none) (Value.none) (Value.none) (none) (Value.none) (Value.none)), #[]⟩
noncomputable def o_273 (P : Params) : Obj := ⟨Value.none, none, .func (fn0 (Str.ofString "_new_path") (Str.ofString "PythonPVector._new_path") (prm (own 8 24)) (bod (own 8 24)) (scp (own 8 24)) ([]) (Value.none) (Value.none) (Value.none) (Value.none) (none) (Value.none) (Value.none)), #[]⟩
noncomputable def o_193 (P : Params) : Obj := ⟨Value.none, none, .func (fn0 (Str.ofString "__ge__") (Str.ofString "PythonPVector.__ge__") (prm (own 8 12)) (bod (own 8 12)) (scp (own 8 12)) ([]) (Value.none) (Value.none) (Value.none) (Value.none) (none) (Value.none) (Value.none)), #[]⟩
noncomputable def o_257 (P : Params) : Obj := { cls := Value.type "tuple", data := Data.seq #[Value.str (Str.ofString "self") 586, Value.str (Str.ofString "new_shift") 587, Value.str (Str.ofString "new_root") 588] }
noncomputable def o_289 (P : Params) : Obj := ⟨Value.type "function", none, .func (fnX (Str.ofString "_mutating_fill_tail") (Str.ofString "PythonPVector._mutating_fill_tail") (prm (own 8 26)) (bod (own 8 26)) (scp (own 8 26)) ([]) (Value.none) (Value.none) (Value.none) (Value.str (Str.ofString "pyrsistent._pvector") 351) (none) (Value.ref 241) (Value.none)), #[]⟩
noncomputable def o_121 (P : Params) : Obj := { cls := Value.type "tuple", data := Data.seq #[Value.str (Str.ofString "self") 414] }
noncomputable def o_313 (P : Params) : Obj := { cls := Value.type "tuple", data := Data.seq #[Value.str (Str.ofString "self") 666, Value.str (Str.ofString "value") 667, Value.str (Str.ofString "args") 668, Value.str (Str.ofString "kwargs") 669] }
noncomputable def o_249 (P : Params) : Obj := ⟨Value.none, none, .func (fn0 (Str.ofString "_node_for") (Str.ofString "PythonPVector._node_for") (prm (own 8 21)) (bod (own 8 21)) (scp (own 8 21)) ([]) (Value.none) (Value.none) (Value.none) (Value.none) (none) (Value.none) (Value.none)), #[]⟩
noncomputable def o_153 (P : Params) : Obj := ⟨Value.type "function", none, .func (fnX (Str.ofString "__str__") (Str.ofString "PythonPVector.__str__") (prm (own 8 6)) (bod (own 8 6)) (scp (own 8 6)) ([]) (Value.none) (Value.none) (Value.none) (Value.str (Str.ofString "pyrsistent._pvector") 351) (none) (Value.ref 105) (Value.none)), #[]⟩
noncomputable def o_345 (P : Params) : Obj := { cls := Value.type "member_descriptor", data := Data.fields #[Value.str (Str.ofString "_count") 706, Value.ref 296, Value.builtin "proto.slot", Value.builtin "proto.slot#set", Value.int 4 0] }
noncomputable def o_281 (P : Params) : Obj := { cls := Value.type "code", data := Data.fields #[Value.str (Str.ofString "_mutating_insert_tail") 612, Value.str (Str.ofString "PythonPVector._mutating_insert_tail") 613, Value.str (Str.ofString "/claim/cut.py") 614, Value.int 149 0, Value.int 1 0, Value.int 0 0, Value.int 0 0, Value.int 3 0, Value.ref 229, Value.bool true, Value.int 338 0, Value.ref 230, Value.none, Value.ref 231, Value.ref 232, Value.ref 233, Value.int 616 0, Value.int 149 0, Value.str (Str.ofString "/claim/cut.py") 617] }
noncomputable def o_105 (P : Params) : Obj := { cls := Value.type "cell", data := Data.cell (some (Value.ref 296)) }
noncomputable def o_137 (P : Params) : Obj := ⟨Value.none, none, .func (fn0 (Str.ofString "__add__") (Str.ofString "PythonPVector.__add__") (prm (own 8 4)) (bod (own 8 4)) (scp (own 8 4)) ([]) (Value.none) (Value.none) (Value.none) (Value.none) (none) (Value.none) (Value.none)), #[]⟩
noncomputable def o_201 (P : Params) : Obj := { cls := Value.type "code", data := Data.fields #[Value.str (Str.ofString "__le__") 495, Value.str (Str.ofString "PythonPVector.__le__") 496, Value.str (Str.ofString "/claim/cut.py") 497, Value.int 64 0, Value.int 2 0, Value.int 0 0, Value.int 0 0, Value.int 3 0, Value.ref 149, Value.bool true, Value.int 338 0, Value.ref 150, Value.none, Value.ref 151, Value.ref 152, Value.ref 153, Value.int 500 0, Value.int 64 0, Value.str (Str.ofString "/claim/cut.py") 501] }
noncomputable def o_233 (P : Params) : Obj := { cls := Value.type "tuple", data := Data.seq #[Value.str (Str.ofString "self") 541, Value.str (Str.ofString "i") 542, Value.str (Str.ofString "val") 543, Value.str (Str.ofString "new_tail") 544] }
noncomputable def o_117 (P : Params) : Obj := { cls := Value.type "code", data := Data.fields #[Value.str (Str.ofString "__new__") 398, Value.str (Str.ofString "PythonPVector.__new__") 399, Value.str (Str.ofString "/claim/cut.py") 400, Value.int 16 0, Value.int 5 0, Value.int 0 0, Value.int 0 0, Value.int 3 0, Value.ref 65, Value.bool true, Value.int 338 0, Value.ref 66, Value.none, Value.ref 67, Value.ref 68, Value.ref 69, Value.int 408 0, Value.int 16 0, Value.str (Str.ofString "/claim/cut.py") 409] }
noncomputable def o_181 (P : Params) : Obj := ⟨Value.type "function", none, .func (fnX (Str.ofString "__gt__") (Str.ofString "PythonPVector.__gt__") (prm (own 8 10)) (bod (own 8 10)) (scp (own 8 10)) ([]) (Value.none) (Value.none) (Value.none) (Value.str (Str.ofString "pyrsistent._pvector") 351) (none) (Value.ref 133) (Value.none)), #[]⟩
noncomputable def o_309 (P : Params) : Obj := { cls := Value.type "code", data := Data.fields #[Value.str (Str.ofString "_push_tail") 651, Value.str (Str.ofString "PythonPVector._push_tail") 652, Value.str (Str.ofString "/claim/cut.py") 653, Value.int 178 0, Value.int 4 0, Value.int 0 0, Value.int 0 0, Value.int 3 0, Value.ref 257, Value.bool true, Value.int 338 0, Value.ref 258, Value.none, Value.ref 259, Value.ref 260, Value.ref 261, Value.int 660 0, Value.int 178 0, Value.str (Str.ofString "/claim/cut.py") 661] }
noncomputable def o_149 (P : Params) : Obj := { cls := Value.type "tuple", data := Data.seq #[Value.str (Str.ofString "self") 444] }
noncomputable def o_341 (P : Params) : Obj := { cls := Value.type "list", data := Data.seq #[Value.str (Str.ofString "_count") 391, Value.str (Str.ofString "_shift") 392, Value.str (Str.ofString "_root") 393, Value.str (Str.ofString "_tail") 394, Value.str (Str.ofString "_tail_offset") 395, Value.str (Str.ofString "__weakref__") 396] 1 }
noncomputable def o_325 (P : Params) : Obj := { cls := Value.type "tuple", data := Data.seq #[Value.none] }
noncomputable def o_261 (P : Params) : Obj := ⟨Value.type "function", none, .func (fnX (Str.ofString "_create_new_root") (Str.ofString "PythonPVector._create_new_root") (prm (own 8 22)) (bod (own 8 22)) (scp (own 8 22)) ([]) (Value.none) (Value.none) (Value.none) (Value.str (Str.ofString "pyrsistent._pvector") 351) (none) (Value.ref 213) (Value.none)), #[]⟩
noncomputable def o_165 (P : Params) : Obj := ⟨Value.none, none, .func (fn0 (Str.ofString "__ne__") (Str.ofString "PythonPVector.__ne__") (prm (own 8 8)) (bod (own 8 8)) (scp (own 8 8)) ([]) (Value.none) (Value.none) (Value.none) (Value.none) (none) (Value.none) (Value.none)), #[]⟩
noncomputable def o_229 (P : Params) : Obj := { cls := Value.type "code", data := Data.fields #[Value.str (Str.ofString "_totuple") 531, Value.str (Str.ofString "PythonPVector._totuple") 532, Value.str (Str.ofString "/claim/cut.py") 533, Value.int 89 0, Value.int 1 0, Value.int 0 0, Value.int 0 0, Value.int 3 0, Value.ref 177, Value.bool true, Value.int 338 0, Value.ref 178, Value.none, Value.ref 179, Value.ref 180, Value.ref 181, Value.int 535 0, Value.int 89 0, Value.str (Str.ofString "/claim/cut.py") 536] }
noncomputable def o_101 (P : Params) : Obj := { cls := Value.none, data := Data.fields #[Value.int 2 0, Value.int 0 0, Value.ref 38, Value.int 6 0, Value.int 0 0, Value.ref 45, Value.int 11 0, Value.int 0 0, Value.ref 53, Value.int 13 0, Value.int 0 0, Value.ref 61] }
noncomputable def o_125 (P : Params) : Obj := ⟨Value.type "function", none, .func (fnX (Str.ofString "__len__") (Str.ofString "PythonPVector.__len__") (prm (own 8 2)) (bod (own 8 2)) (scp (own 8 2)) ([]) (Value.none) (Value.none) (Value.none) (Value.str (Str.ofString "pyrsistent._pvector") 351) (none) (Value.ref 77) (Value.none)), #[]⟩
noncomputable def o_317 (P : Params) : Obj := ⟨Value.type "function", none, .func (fnX (Str.ofString "index") (Str.ofString "PythonPVector.index") (prm (own 8 30)) (bod (own 8 30)) (scp (own 8 30)) ([]) (Value.none) (Value.none) (Value.none) (Value.str (Str.ofString "pyrsistent._pvector") 351) (none) (Value.ref 269) (Value.none)), #[]⟩
noncomputable def o_253 (P : Params) : Obj := { cls := Value.type "staticmethod", dict := some 205, data := Data.fields #[Value.ref 204, Value.bool false] }
noncomputable def o_221 (P : Params) : Obj := ⟨Value.none, none, .func (fn0 (Str.ofString "tolist") (Str.ofString "PythonPVector.tolist") (prm (own 8 17)) (bod (own 8 17)) (scp (own 8 17)) ([]) (Value.none) (Value.none) (Value.none) (Value.none) (none) (Value.none) (Value.none)), #[]⟩
noncomputable def o_349 (P : Params) : Obj := { cls := Value.type "member_descriptor", data := Data.fields #[Value.str (Str.ofString "_tail_offset") 714, Value.ref 296, Value.builtin "proto.slot", Value.builtin "proto.slot#set", Value.int 0 0] }
noncomputable def o_285 (P : Params) : Obj := { cls := Value.type "tuple", data := Data.seq #[Value.str (Str.ofString "self") 622, Value.str (Str.ofString "offset") 623, Value.str (Str.ofString "sequence") 624, Value.str (Str.ofString "max_delta_len") 625, Value.str (Str.ofString "delta") 626, Value.str (Str.ofString "delta_len") 627] }
noncomputable def o_109 (P : Params) : Obj := { cls := Value.type "frame", slots := #[some (Value.ref 61), some (Value.ref 3), some (Value.ref 57), none, some (Value.str (Str.ofString "pyrsistent._pvector") 351), none, some (Value.ref 0)] }
noncomputable def o_205 (P : Params) : Obj := { cls := Value.type "tuple", data := Data.seq #[Value.str (Str.ofString "self") 506, Value.str (Str.ofString "times") 507] }
noncomputable def o_173 (P : Params) : Obj := { cls := Value.type "code", data := Data.fields #[Value.str (Str.ofString "__eq__") 463, Value.str (Str.ofString "PythonPVector.__eq__") 464, Value.str (Str.ofString "/claim/cut.py") 465, Value.int 52 0, Value.int 2 0, Value.int 0 0, Value.int 0 0, Value.int 3 0, Value.ref 121, Value.bool true, Value.int 338 0, Value.ref 122, Value.none, Value.ref 123, Value.ref 124, Value.ref 125, Value.int 468 0, Value.int 52 0, Value.str (Str.ofString "/claim/cut.py") 469] }
noncomputable def o_237 (P : Params) : Obj := ⟨Value.type "function", none, .func (fnX (Str.ofString "set") (Str.ofString "PythonPVector.set") (prm (own 8 19)) (bod (own 8 19)) (scp (own 8 19)) ([]) (Value.none) (Value.none) (Value.none) (Value.str (Str.ofString "pyrsistent._pvector") 351) (none) (Value.ref 189) (Value.none)), #[]⟩
noncomputable def o_301 (P : Params) : Obj := ⟨Value.none, none, .func (fn0 (Str.ofString "extend") (Str.ofString "PythonPVector.extend") (prm (own 8 28)) (bod (own 8 28)) (scp (own 8 28)) ([]) (Value.none) (Value.none) (Value.none) (Value.none) (none) (Value.none) (Value.none)), #[]⟩
noncomputable def tree_352 (P : Params) : BT := BT.node (o_640 P) (BT.node (o_673 P) (BT.node (o_100 P) (BT.node (o_647 P) (BT.node (o_657 P) (BT.node (o_72 P) (BT.node (o_110 P) (BT.node (o_174 P) (BT.node (o_302 P) BT.nil BT.nil) BT.nil) (BT.node (o_647 P) BT.nil BT.nil)) (BT.node (o_142 P) (BT.node (o_647 P) (BT.node (o_648 P) BT.nil BT.nil) BT.nil) (BT.node (o_648 P) BT.nil BT.nil))) (BT.node (o_92 P) (BT.node (o_647 P) (BT.node (o_648 P) (BT.node (o_647 P) BT.nil BT.nil) BT.nil) (BT.node (o_645 P) BT.nil BT.nil)) (BT.node (o_158 P) (BT.node (o_222 P) (BT.node (o_350 P) BT.nil BT.nil) BT.nil) (BT.node (o_647 P) BT.nil BT.nil)))) (BT.node (o_668 P) (BT.node (o_84 P) (BT.node (o_118 P) (BT.node (o_647 P) (BT.node (o_310 P) BT.nil BT.nil) BT.nil) (BT.node (o_648 P) BT.nil BT.nil)) (BT.node (o_647 P) (BT.node (o_214 P) (BT.node (o_342 P) BT.nil BT.nil) BT.nil) (BT.node (o_278 P) BT.nil BT.nil))) (BT.node (o_102 P) (BT.node (o_648 P) (BT.node (o_198 P) (BT.node (o_647 P) BT.nil BT.nil) BT.nil) (BT.node (o_647 P) BT.nil BT.nil)) (BT.node (o_166 P) (BT.node (o_230 P) BT.nil BT.nil) (BT.node (o_294 P) BT.nil BT.nil))))) (BT.node (o_651 P) (BT.node (o_675 P) (BT.node (o_80 P) (BT.node (o_114 P) (BT.node (o_647 P) (BT.node (o_306 P) BT.nil BT.nil) BT.nil) (BT.node (o_242 P) BT.nil BT.nil)) (BT.node (o_146 P) (BT.node (o_647 P) (BT.node (o_338 P) BT.nil BT.nil) BT.nil) (BT.node (o_274 P) BT.nil BT.nil))) (BT.node (o_647 P) (BT.node (o_130 P) (BT.node (o_194 P) (BT.node (o_322 P) BT.nil BT.nil) BT.nil) (BT.node (o_647 P) BT.nil BT.nil)) (BT.node (o_648 P) (BT.node (o_226 P) BT.nil BT.nil) (BT.node (o_647 P) BT.nil BT.nil)))) (BT.node (o_677 P) (BT.node (o_647 P) (BT.node (o_647 P) (BT.node (o_186 P) (BT.node (o_647 P) BT.nil BT.nil) BT.nil) (BT.node (o_250 P) BT.nil BT.nil)) (BT.node (o_647 P) (BT.node (o_648 P) (BT.node (o_346 P) BT.nil BT.nil) BT.nil) (BT.node (o_282 P) BT.nil BT.nil))) (BT.node (o_647 P) (BT.node (o_138 P) (BT.node (o_202 P) (BT.node (o_330 P) BT.nil BT.nil) BT.nil) (BT.node (o_266 P) BT.nil BT.nil)) (BT.node (o_170 P) (BT.node (o_647 P) BT.nil BT.nil) (BT.node (o_648 P) BT.nil BT.nil)))))) (BT.node (o_644 P) (BT.node (o_649 P) (BT.node (o_660 P) (BT.node (o_647 P) (BT.node (o_112 P) (BT.node (o_648 P) (BT.node (o_647 P) BT.nil BT.nil) BT.nil) (BT.node (o_240 P) BT.nil BT.nil)) (BT.node (o_144 P) (BT.node (o_208 P) (BT.node (o_647 P) BT.nil BT.nil) BT.nil) (BT.node (o_647 P) BT.nil BT.nil))) (BT.node (o_648 P) (BT.node (o_128 P) (BT.node (o_647 P) (BT.node (o_320 P) BT.nil BT.nil) BT.nil) (BT.node (o_648 P) BT.nil BT.nil)) (BT.node (o_160 P) (BT.node (o_647 P) (BT.node (o_352 P) BT.nil BT.nil) BT.nil) (BT.node (o_288 P) BT.nil BT.nil)))) (BT.node (o_671 P) (BT.node (o_648 P) (BT.node (o_648 P) (BT.node (o_184 P) (BT.node (o_648 P) BT.nil BT.nil) BT.nil) (BT.node (o_647 P) BT.nil BT.nil)) (BT.node (o_152 P) (BT.node (o_216 P) (BT.node (o_344 P) BT.nil BT.nil) BT.nil) (BT.node (o_280 P) BT.nil BT.nil))) (BT.node (o_104 P) (BT.node (o_647 P) (BT.node (o_200 P) (BT.node (o_328 P) BT.nil BT.nil) BT.nil) (BT.node (o_264 P) BT.nil BT.nil)) (BT.node (o_647 P) (BT.node (o_648 P) BT.nil BT.nil) (BT.node (o_296 P) BT.nil BT.nil))))) (BT.node (o_654 P) (BT.node (o_687 P) (BT.node (o_82 P) (BT.node (o_116 P) (BT.node (o_180 P) (BT.node (o_308 P) BT.nil BT.nil) BT.nil) (BT.node (o_244 P) BT.nil BT.nil)) (BT.node (o_648 P) (BT.node (o_212 P) (BT.node (o_340 P) BT.nil BT.nil) BT.nil) (BT.node (o_647 P) BT.nil BT.nil))) (BT.node (o_98 P) (BT.node (o_132 P) (BT.node (o_647 P) (BT.node (o_324 P) BT.nil BT.nil) BT.nil) (BT.node (o_260 P) BT.nil BT.nil)) (BT.node (o_647 P) (BT.node (o_228 P) BT.nil BT.nil) (BT.node (o_292 P) BT.nil BT.nil)))) (BT.node (o_647 P) (BT.node (o_90 P) (BT.node (o_124 P) (BT.node (o_188 P) (BT.node (o_316 P) BT.nil BT.nil) BT.nil) (BT.node (o_252 P) BT.nil BT.nil)) (BT.node (o_156 P) (BT.node (o_647 P) (BT.node (o_348 P) BT.nil BT.nil) BT.nil) (BT.node (o_648 P) BT.nil BT.nil))) (BT.node (o_108 P) (BT.node (o_647 P) (BT.node (o_648 P) (BT.node (o_332 P) BT.nil BT.nil) BT.nil) (BT.node (o_268 P) BT.nil BT.nil)) (BT.node (o_172 P) (BT.node (o_236 P) BT.nil BT.nil) (BT.node (o_647 P) BT.nil BT.nil))))))) (BT.node (o_684 P) (BT.node (o_643 P) (BT.node (o_648 P) (BT.node (o_647 P) (BT.node (o_73 P) (BT.node (o_111 P) (BT.node (o_647 P) (BT.node (o_303 P) BT.nil BT.nil) BT.nil) (BT.node (o_648 P) BT.nil BT.nil)) (BT.node (o_647 P) (BT.node (o_207 P) (BT.node (o_335 P) BT.nil BT.nil) BT.nil) (BT.node (o_271 P) BT.nil BT.nil))) (BT.node (o_647 P) (BT.node (o_648 P) (BT.node (o_191 P) (BT.node (o_648 P) BT.nil BT.nil) BT.nil) (BT.node (o_647 P) BT.nil BT.nil)) (BT.node (o_159 P) (BT.node (o_223 P) (BT.node (o_351 P) BT.nil BT.nil) BT.nil) (BT.node (o_287 P) BT.nil BT.nil)))) (BT.node (o_669 P) (BT.node (o_647 P) (BT.node (o_647 P) (BT.node (o_648 P) (BT.node (o_647 P) BT.nil BT.nil) BT.nil) (BT.node (o_247 P) BT.nil BT.nil)) (BT.node (o_151 P) (BT.node (o_215 P) (BT.node (o_343 P) BT.nil BT.nil) BT.nil) (BT.node (o_647 P) BT.nil BT.nil))) (BT.node (o_103 P) (BT.node (o_135 P) (BT.node (o_647 P) (BT.node (o_648 P) BT.nil BT.nil) BT.nil) (BT.node (o_648 P) BT.nil BT.nil)) (BT.node (o_167 P) (BT.node (o_647 P) BT.nil BT.nil) (BT.node (o_295 P) BT.nil BT.nil))))) (BT.node (o_53 P) (BT.node (o_664 P) (BT.node (o_647 P) (BT.node (o_647 P) (BT.node (o_179 P) (BT.node (o_647 P) BT.nil BT.nil) BT.nil) (BT.node (o_243 P) BT.nil BT.nil)) (BT.node (o_647 P) (BT.node (o_648 P) (BT.node (o_339 P) BT.nil BT.nil) BT.nil) (BT.node (o_275 P) BT.nil BT.nil))) (BT.node (o_97 P) (BT.node (o_131 P) (BT.node (o_195 P) (BT.node (o_323 P) BT.nil BT.nil) BT.nil) (BT.node (o_259 P) BT.nil BT.nil)) (BT.node (o_163 P) (BT.node (o_647 P) BT.nil BT.nil) (BT.node (o_648 P) BT.nil BT.nil)))) (BT.node (o_686 P) (BT.node (o_89 P) (BT.node (o_123 P) (BT.node (o_187 P) (BT.node (o_315 P) BT.nil BT.nil) BT.nil) (BT.node (o_251 P) BT.nil BT.nil)) (BT.node (o_648 P) (BT.node (o_219 P) (BT.node (o_347 P) BT.nil BT.nil) BT.nil) (BT.node (o_647 P) BT.nil BT.nil))) (BT.node (o_107 P) (BT.node (o_139 P) (BT.node (o_647 P) (BT.node (o_331 P) BT.nil BT.nil) BT.nil) (BT.node (o_267 P) BT.nil BT.nil)) (BT.node (o_647 P) (BT.node (o_235 P) BT.nil BT.nil) (BT.node (o_299 P) BT.nil BT.nil)))))) (BT.node (o_645 P) (BT.node (o_650 P) (BT.node (o_661 P) (BT.node (o_648 P) (BT.node (o_648 P) (BT.node (o_177 P) (BT.node (o_648 P) BT.nil BT.nil) BT.nil) (BT.node (o_647 P) BT.nil BT.nil)) (BT.node (o_145 P) (BT.node (o_209 P) (BT.node (o_337 P) BT.nil BT.nil) BT.nil) (BT.node (o_273 P) BT.nil BT.nil))) (BT.node (o_95 P) (BT.node (o_647 P) (BT.node (o_193 P) (BT.node (o_647 P) BT.nil BT.nil) BT.nil) (BT.node (o_257 P) BT.nil BT.nil)) (BT.node (o_647 P) (BT.node (o_648 P) BT.nil BT.nil) (BT.node (o_289 P) BT.nil BT.nil)))) (BT.node (o_672 P) (BT.node (o_87 P) (BT.node (o_121 P) (BT.node (o_647 P) (BT.node (o_313 P) BT.nil BT.nil) BT.nil) (BT.node (o_249 P) BT.nil BT.nil)) (BT.node (o_153 P) (BT.node (o_647 P) (BT.node (o_345 P) BT.nil BT.nil) BT.nil) (BT.node (o_281 P) BT.nil BT.nil))) (BT.node (o_105 P) (BT.node (o_137 P) (BT.node (o_201 P) (BT.node (o_647 P) BT.nil BT.nil) BT.nil) (BT.node (o_647 P) BT.nil BT.nil)) (BT.node (o_648 P) (BT.node (o_233 P) BT.nil BT.nil) (BT.node (o_647 P) BT.nil BT.nil))))) (BT.node (o_659 P) (BT.node (o_670 P) (BT.node (o_83 P) (BT.node (o_117 P) (BT.node (o_181 P) (BT.node (o_309 P) BT.nil BT.nil) BT.nil) (BT.node (o_647 P) BT.nil BT.nil)) (BT.node (o_149 P) (BT.node (o_647 P) (BT.node (o_341 P) BT.nil BT.nil) BT.nil) (BT.node (o_648 P) BT.nil BT.nil))) (BT.node (o_99 P) (BT.node (o_647 P) (BT.node (o_648 P) (BT.node (o_325 P) BT.nil BT.nil) BT.nil) (BT.node (o_261 P) BT.nil BT.nil)) (BT.node (o_165 P) (BT.node (o_229 P) BT.nil BT.nil) (BT.node (o_647 P) BT.nil BT.nil)))) (BT.node (o_101 P) (BT.node (o_91 P) (BT.node (o_125 P) (BT.node (o_647 P) (BT.node (o_317 P) BT.nil BT.nil) BT.nil) (BT.node (o_253 P) BT.nil BT.nil)) (BT.node (o_647 P) (BT.node (o_221 P) (BT.node (o_349 P) BT.nil BT.nil) BT.nil) (BT.node (o_285 P) BT.nil BT.nil))) (BT.node (o_109 P) (BT.node (o_648 P) (BT.node (o_205 P) (BT.node (o_647 P) BT.nil BT.nil) BT.nil) (BT.node (o_647 P) BT.nil BT.nil)) (BT.node (o_173 P) (BT.node (o_237 P) BT.nil BT.nil) (BT.node (o_301 P) BT.nil BT.nil)))))))
noncomputable def o_592 (P : Params) : Obj := { cls := Value.type "dict", data := Data.dict #[kv P "__name__" 165 (Value.str (Str.ofString "pyrsistent._pvector") 351), kv P "__doc__" 166 (Value.none), kv P "__package__" 167 (Value.none), kv P "__loader__" 168 (Value.builtin "__main__.__loader__#opaque"), kv P "__spec__" 169 (Value.none), kv P "__annotations__" 170 (Value.ref 6), kv P "__builtins__" 171 (Value.ref 4), kv P "__file__" 173 (Value.str (Str.ofString "/claim/cut.py") 172), kv P "__cached__" 174 (Value.none), kv P "eq" 325 (Value.builtin "_operator.eq"), kv P "ge" 328 (Value.builtin "_operator.ge"), kv P "gt" 331 (Value.builtin "_operator.gt"), kv P "le" 334 (Value.builtin "_operator.le"), kv P "lt" 337 (Value.builtin "_operator.lt"), kv P "_wall" 350 (Value.ref 39), kv P "_bitcount" 359 (Value.ref 46), kv P "BRANCH_FACTOR" 361 (Value.int 32 360), kv P "BIT_MASK" 364 (Value.int 31 363), kv P "SHIFT" 369 (Value.int 5 368), kv P "compare_pvector" 378 (Value.ref 54), kv P "PythonPVector" 721 (Value.ref 296), kv P "_EMPTY_PVECTOR" 741 (Value.ref 311)] 22 }
noncomputable def o_598 (P : Params) : Obj := { cls := Value.ref 296, dict := some 310, slots := #[some (Value.int 0 722), some (Value.ref 306), some (Value.int 5 368), some (Value.ref 307), some (Value.int 0 739)] }
noncomputable def o_595 (P : Params) : Obj := { cls := Value.type "frame", data := Data.dict #[kv P "cls" 724 (Value.ref 296), kv P "count" 725 (Value.int 0 722), kv P "shift" 726 (Value.int 5 368), kv P "root" 727 (Value.ref 306), kv P "tail" 728 (Value.ref 307), kv P "self" 730 (Value.ref 311)] 6 }
noncomputable def tree_598 (P : Params) : BT := BT.node (o_640 P) (BT.node (o_673 P) (BT.node (o_592 P) (BT.node (o_647 P) (BT.node (o_657 P) (BT.node (o_72 P) (BT.node (o_110 P) (BT.node (o_174 P) (BT.node (o_302 P) BT.nil BT.nil) BT.nil) (BT.node (o_647 P) BT.nil BT.nil)) (BT.node (o_142 P) (BT.node (o_647 P) (BT.node (o_648 P) BT.nil BT.nil) BT.nil) (BT.node (o_648 P) BT.nil BT.nil))) (BT.node (o_92 P) (BT.node (o_647 P) (BT.node (o_648 P) (BT.node (o_647 P) BT.nil BT.nil) BT.nil) (BT.node (o_645 P) BT.nil BT.nil)) (BT.node (o_158 P) (BT.node (o_222 P) (BT.node (o_350 P) BT.nil BT.nil) BT.nil) (BT.node (o_647 P) BT.nil BT.nil)))) (BT.node (o_668 P) (BT.node (o_84 P) (BT.node (o_118 P) (BT.node (o_647 P) (BT.node (o_310 P) BT.nil BT.nil) BT.nil) (BT.node (o_648 P) BT.nil BT.nil)) (BT.node (o_647 P) (BT.node (o_214 P) (BT.node (o_342 P) BT.nil BT.nil) BT.nil) (BT.node (o_278 P) BT.nil BT.nil))) (BT.node (o_102 P) (BT.node (o_648 P) (BT.node (o_198 P) (BT.node (o_647 P) BT.nil BT.nil) BT.nil) (BT.node (o_647 P) BT.nil BT.nil)) (BT.node (o_166 P) (BT.node (o_230 P) (BT.node (o_598 P) BT.nil BT.nil) BT.nil) (BT.node (o_294 P) BT.nil BT.nil))))) (BT.node (o_651 P) (BT.node (o_675 P) (BT.node (o_80 P) (BT.node (o_114 P) (BT.node (o_647 P) (BT.node (o_306 P) BT.nil BT.nil) BT.nil) (BT.node (o_242 P) BT.nil BT.nil)) (BT.node (o_146 P) (BT.node (o_647 P) (BT.node (o_338 P) BT.nil BT.nil) BT.nil) (BT.node (o_274 P) BT.nil BT.nil))) (BT.node (o_647 P) (BT.node (o_130 P) (BT.node (o_194 P) (BT.node (o_322 P) BT.nil BT.nil) BT.nil) (BT.node (o_647 P) BT.nil BT.nil)) (BT.node (o_648 P) (BT.node (o_226 P) (BT.node (o_664 P) BT.nil BT.nil) BT.nil) (BT.node (o_647 P) BT.nil BT.nil)))) (BT.node (o_677 P) (BT.node (o_647 P) (BT.node (o_647 P) (BT.node (o_186 P) (BT.node (o_647 P) BT.nil BT.nil) BT.nil) (BT.node (o_250 P) BT.nil BT.nil)) (BT.node (o_647 P) (BT.node (o_648 P) (BT.node (o_346 P) BT.nil BT.nil) BT.nil) (BT.node (o_282 P) BT.nil BT.nil))) (BT.node (o_647 P) (BT.node (o_138 P) (BT.node (o_202 P) (BT.node (o_330 P) BT.nil BT.nil) BT.nil) (BT.node (o_266 P) BT.nil BT.nil)) (BT.node (o_170 P) (BT.node (o_647 P) BT.nil BT.nil) (BT.node (o_648 P) BT.nil BT.nil)))))) (BT.node (o_644 P) (BT.node (o_649 P) (BT.node (o_660 P) (BT.node (o_647 P) (BT.node (o_112 P) (BT.node (o_648 P) (BT.node (o_647 P) BT.nil BT.nil) BT.nil) (BT.node (o_240 P) BT.nil BT.nil)) (BT.node (o_144 P) (BT.node (o_208 P) (BT.node (o_647 P) BT.nil BT.nil) BT.nil) (BT.node (o_647 P) BT.nil BT.nil))) (BT.node (o_648 P) (BT.node (o_128 P) (BT.node (o_647 P) (BT.node (o_320 P) BT.nil BT.nil) BT.nil) (BT.node (o_648 P) BT.nil BT.nil)) (BT.node (o_160 P) (BT.node (o_647 P) (BT.node (o_352 P) BT.nil BT.nil) BT.nil) (BT.node (o_288 P) BT.nil BT.nil)))) (BT.node (o_671 P) (BT.node (o_648 P) (BT.node (o_648 P) (BT.node (o_184 P) (BT.node (o_648 P) BT.nil BT.nil) BT.nil) (BT.node (o_647 P) BT.nil BT.nil)) (BT.node (o_152 P) (BT.node (o_216 P) (BT.node (o_344 P) BT.nil BT.nil) BT.nil) (BT.node (o_280 P) BT.nil BT.nil))) (BT.node (o_104 P) (BT.node (o_647 P) (BT.node (o_200 P) (BT.node (o_328 P) BT.nil BT.nil) BT.nil) (BT.node (o_264 P) BT.nil BT.nil)) (BT.node (o_647 P) (BT.node (o_648 P) BT.nil BT.nil) (BT.node (o_296 P) BT.nil BT.nil))))) (BT.node (o_654 P) (BT.node (o_687 P) (BT.node (o_82 P) (BT.node (o_116 P) (BT.node (o_180 P) (BT.node (o_308 P) BT.nil BT.nil) BT.nil) (BT.node (o_244 P) BT.nil BT.nil)) (BT.node (o_648 P) (BT.node (o_212 P) (BT.node (o_340 P) BT.nil BT.nil) BT.nil) (BT.node (o_647 P) BT.nil BT.nil))) (BT.node (o_98 P) (BT.node (o_132 P) (BT.node (o_647 P) (BT.node (o_324 P) BT.nil BT.nil) BT.nil) (BT.node (o_260 P) BT.nil BT.nil)) (BT.node (o_647 P) (BT.node (o_228 P) (BT.node (o_351 P) BT.nil BT.nil) BT.nil) (BT.node (o_292 P) BT.nil BT.nil)))) (BT.node (o_647 P) (BT.node (o_90 P) (BT.node (o_124 P) (BT.node (o_188 P) (BT.node (o_316 P) BT.nil BT.nil) BT.nil) (BT.node (o_252 P) BT.nil BT.nil)) (BT.node (o_156 P) (BT.node (o_647 P) (BT.node (o_348 P) BT.nil BT.nil) BT.nil) (BT.node (o_648 P) BT.nil BT.nil))) (BT.node (o_108 P) (BT.node (o_647 P) (BT.node (o_648 P) (BT.node (o_332 P) BT.nil BT.nil) BT.nil) (BT.node (o_268 P) BT.nil BT.nil)) (BT.node (o_172 P) (BT.node (o_236 P) BT.nil BT.nil) (BT.node (o_647 P) BT.nil BT.nil))))))) (BT.node (o_684 P) (BT.node (o_643 P) (BT.node (o_648 P) (BT.node (o_647 P) (BT.node (o_73 P) (BT.node (o_111 P) (BT.node (o_647 P) (BT.node (o_303 P) BT.nil BT.nil) BT.nil) (BT.node (o_648 P) BT.nil BT.nil)) (BT.node (o_647 P) (BT.node (o_207 P) (BT.node (o_335 P) BT.nil BT.nil) BT.nil) (BT.node (o_271 P) BT.nil BT.nil))) (BT.node (o_647 P) (BT.node (o_648 P) (BT.node (o_191 P) (BT.node (o_648 P) BT.nil BT.nil) BT.nil) (BT.node (o_647 P) BT.nil BT.nil)) (BT.node (o_159 P) (BT.node (o_223 P) (BT.node (o_351 P) BT.nil BT.nil) BT.nil) (BT.node (o_287 P) BT.nil BT.nil)))) (BT.node (o_669 P) (BT.node (o_647 P) (BT.node (o_647 P) (BT.node (o_648 P) (BT.node (o_647 P) BT.nil BT.nil) BT.nil) (BT.node (o_247 P) BT.nil BT.nil)) (BT.node (o_151 P) (BT.node (o_215 P) (BT.node (o_343 P) BT.nil BT.nil) BT.nil) (BT.node (o_647 P) BT.nil BT.nil))) (BT.node (o_103 P) (BT.node (o_135 P) (BT.node (o_647 P) (BT.node (o_648 P) BT.nil BT.nil) BT.nil) (BT.node (o_648 P) BT.nil BT.nil)) (BT.node (o_167 P) (BT.node (o_647 P) BT.nil BT.nil) (BT.node (o_295 P) BT.nil BT.nil))))) (BT.node (o_53 P) (BT.node (o_664 P) (BT.node (o_647 P) (BT.node (o_647 P) (BT.node (o_179 P) (BT.node (o_647 P) BT.nil BT.nil) BT.nil) (BT.node (o_243 P) BT.nil BT.nil)) (BT.node (o_647 P) (BT.node (o_648 P) (BT.node (o_339 P) BT.nil BT.nil) BT.nil) (BT.node (o_275 P) BT.nil BT.nil))) (BT.node (o_97 P) (BT.node (o_131 P) (BT.node (o_195 P) (BT.node (o_323 P) BT.nil BT.nil) BT.nil) (BT.node (o_259 P) BT.nil BT.nil)) (BT.node (o_163 P) (BT.node (o_647 P) (BT.node (o_595 P) BT.nil BT.nil) BT.nil) (BT.node (o_648 P) BT.nil BT.nil)))) (BT.node (o_686 P) (BT.node (o_89 P) (BT.node (o_123 P) (BT.node (o_187 P) (BT.node (o_315 P) BT.nil BT.nil) BT.nil) (BT.node (o_251 P) BT.nil BT.nil)) (BT.node (o_648 P) (BT.node (o_219 P) (BT.node (o_347 P) BT.nil BT.nil) BT.nil) (BT.node (o_647 P) BT.nil BT.nil))) (BT.node (o_107 P) (BT.node (o_139 P) (BT.node (o_647 P) (BT.node (o_331 P) BT.nil BT.nil) BT.nil) (BT.node (o_267 P) BT.nil BT.nil)) (BT.node (o_647 P) (BT.node (o_235 P) BT.nil BT.nil) (BT.node (o_299 P) BT.nil BT.nil)))))) (BT.node (o_645 P) (BT.node (o_650 P) (BT.node (o_661 P) (BT.node (o_648 P) (BT.node (o_648 P) (BT.node (o_177 P) (BT.node (o_648 P) BT.nil BT.nil) BT.nil) (BT.node (o_647 P) BT.nil BT.nil)) (BT.node (o_145 P) (BT.node (o_209 P) (BT.node (o_337 P) BT.nil BT.nil) BT.nil) (BT.node (o_273 P) BT.nil BT.nil))) (BT.node (o_95 P) (BT.node (o_647 P) (BT.node (o_193 P) (BT.node (o_647 P) BT.nil BT.nil) BT.nil) (BT.node (o_257 P) BT.nil BT.nil)) (BT.node (o_647 P) (BT.node (o_648 P) (BT.node (o_664 P) BT.nil BT.nil) BT.nil) (BT.node (o_289 P) BT.nil BT.nil)))) (BT.node (o_672 P) (BT.node (o_87 P) (BT.node (o_121 P) (BT.node (o_647 P) (BT.node (o_313 P) BT.nil BT.nil) BT.nil) (BT.node (o_249 P) BT.nil BT.nil)) (BT.node (o_153 P) (BT.node (o_647 P) (BT.node (o_345 P) BT.nil BT.nil) BT.nil) (BT.node (o_281 P) BT.nil BT.nil))) (BT.node (o_105 P) (BT.node (o_137 P) (BT.node (o_201 P) (BT.node (o_647 P) BT.nil BT.nil) BT.nil) (BT.node (o_647 P) BT.nil BT.nil)) (BT.node (o_648 P) (BT.node (o_233 P) BT.nil BT.nil) (BT.node (o_647 P) BT.nil BT.nil))))) (BT.node (o_659 P) (BT.node (o_670 P) (BT.node (o_83 P) (BT.node (o_117 P) (BT.node (o_181 P) (BT.node (o_309 P) BT.nil BT.nil) BT.nil) (BT.node (o_647 P) BT.nil BT.nil)) (BT.node (o_149 P) (BT.node (o_647 P) (BT.node (o_341 P) BT.nil BT.nil) BT.nil) (BT.node (o_648 P) BT.nil BT.nil))) (BT.node (o_99 P) (BT.node (o_647 P) (BT.node (o_648 P) (BT.node (o_325 P) BT.nil BT.nil) BT.nil) (BT.node (o_261 P) BT.nil BT.nil)) (BT.node (o_165 P) (BT.node (o_229 P) (BT.node (o_645 P) BT.nil BT.nil) BT.nil) (BT.node (o_647 P) BT.nil BT.nil)))) (BT.node (o_101 P) (BT.node (o_91 P) (BT.node (o_125 P) (BT.node (o_647 P) (BT.node (o_317 P) BT.nil BT.nil) BT.nil) (BT.node (o_253 P) BT.nil BT.nil)) (BT.node (o_647 P) (BT.node (o_221 P) (BT.node (o_349 P) BT.nil BT.nil) BT.nil) (BT.node (o_285 P) BT.nil BT.nil))) (BT.node (o_109 P) (BT.node (o_648 P) (BT.node (o_205 P) (BT.node (o_647 P) BT.nil BT.nil) BT.nil) (BT.node (o_647 P) BT.nil BT.nil)) (BT.node (o_173 P) (BT.node (o_237 P) BT.nil BT.nil) (BT.node (o_301 P) BT.nil BT.nil)))))))
noncomputable def o_599 (P : Params) : Obj := { cls := Value.type "dict", data := Data.dict #[kv P "__name__" 165 (Value.str (Str.ofString "law_nc0017_01") 750), kv P "__doc__" 166 (Value.none), kv P "__package__" 167 (Value.none), kv P "__loader__" 168 (Value.builtin "__main__.__loader__#opaque"), kv P "__spec__" 169 (Value.none), kv P "__annotations__" 170 (Value.ref 6), kv P "__builtins__" 171 (Value.ref 4), kv P "__file__" 173 (Value.str (Str.ofString "/claim/cut.py") 172), kv P "__cached__" 174 (Value.none), kv P "eq" 325 (Value.builtin "_operator.eq"), kv P "ge" 328 (Value.builtin "_operator.ge"), kv P "gt" 331 (Value.builtin "_operator.gt"), kv P "le" 334 (Value.builtin "_operator.le"), kv P "lt" 337 (Value.builtin "_operator.lt"), kv P "_wall" 350 (Value.ref 39), kv P "_bitcount" 359 (Value.ref 46), kv P "BRANCH_FACTOR" 361 (Value.int 32 360), kv P "BIT_MASK" 364 (Value.int 31 363), kv P "SHIFT" 369 (Value.int 5 368), kv P "compare_pvector" 378 (Value.ref 54), kv P "PythonPVector" 721 (Value.ref 296), kv P "_EMPTY_PVECTOR" 741 (Value.ref 311), kv P "python_pvector" 748 (Value.ref 320), kv P "pvector" 749 (Value.ref 320), kv P "_law_leaves" 757 (Value.ref 325), kv P "law" 763 (Value.ref 330)] 26 }
noncomputable def o_608 (P : Params) : Obj := { cls := Value.type "code", data := Data.fields #[Value.str (Str.ofString "python_pvector") 742, Value.str (Str.ofString "python_pvector") 743, Value.str (Str.ofString "/claim/cut.py") 744, Value.int 202 0, Value.int 1 0, Value.int 0 0, Value.int 0 0, Value.int 3 0, Value.ref 314, Value.bool true, Value.int 338 0, Value.ref 315, Value.none, Value.ref 316, Value.ref 317, Value.ref 318, Value.int 746 0, Value.int 202 0, Value.str (Str.ofString "/claim/cut.py") 747] }
noncomputable def o_612 (P : Params) : Obj := ⟨Value.none, none, .func (fn0 (Str.ofString "_law_leaves") (Str.ofString "_law_leaves") (prm (top 13)) (bod (top 13)) (scp (top 13)) ([]) (Value.none) (Value.none) (Value.none) (Value.none) (none) (Value.none) (Value.none)), #[]⟩
noncomputable def o_618 (P : Params) : Obj := { cls := Value.type "code", data := Data.fields #[Value.str (Str.ofString "law") 758, Value.str (Str.ofString "law") 759, Value.str (Str.ofString "/claim/cut.py") 760, Value.int 208 0, Value.int 1 0, Value.int 0 0, Value.int 0 0, Value.int 3 0, Value.ref 326, Value.bool true, Value.int 338 0, Value.ref 327, Value.none, Value.none, Value.none, Value.ref 328, Value.int 761 0, Value.int 208 0, Value.str (Str.ofString "/claim/cut.py") 762] }
noncomputable def o_602 (P : Params) : Obj := { cls := Value.type "tuple", data := Data.seq #[Value.ref 312] }
noncomputable def o_614 (P : Params) : Obj := ⟨Value.type "function", none, .func (fnX (Str.ofString "_law_leaves") (Str.ofString "_law_leaves") (prm (top 13)) (bod (top 13)) (scp (top 13)) ([]) (Value.none) (Value.none) (Value.none) (Value.str (Str.ofString "law_nc0017_01") 750) (none) (Value.ref 324) (Value.none)), #[]⟩
noncomputable def o_609 (P : Params) : Obj := ⟨Value.type "function", none, .func (fnX (Str.ofString "python_pvector") (Str.ofString "python_pvector") (prm (top 10)) (bod (top 10)) (scp (top 10)) ([]) (Value.ref 313) (Value.none) (Value.none) (Value.str (Str.ofString "pyrsistent._pvector") 351) (none) (Value.ref 319) (Value.none)), #[]⟩
noncomputable def o_617 (P : Params) : Obj := ⟨Value.none, none, .func (fn0 (Str.ofString "law") (Str.ofString "law") (prm (top 14)) (bod (top 14)) (scp (top 14)) ([]) (Value.none) (Value.none) (Value.none) (Value.none) (none) (Value.none) (Value.none)), #[]⟩
noncomputable def o_613 (P : Params) : Obj := { cls := Value.type "code", data := Data.fields #[Value.str (Str.ofString "_law_leaves") 752, Value.str (Str.ofString "_law_leaves") 753, Value.str (Str.ofString "/claim/cut.py") 754, Value.int 206 0, Value.int 2 0, Value.int 0 0, Value.int 0 0, Value.int 3 0, Value.ref 321, Value.bool true, Value.int 338 0, Value.ref 322, Value.none, Value.none, Value.none, Value.ref 323, Value.int 755 0, Value.int 206 0, Value.str (Str.ofString "/claim/cut.py") 756] }
noncomputable def o_605 (P : Params) : Obj := { cls := Value.type "tuple", data := Data.seq #[Value.str (Str.ofString "iterable") 745] }
noncomputable def o_619 (P : Params) : Obj := ⟨Value.type "function", none, .func (fnX (Str.ofString "law") (Str.ofString "law") (prm (top 14)) (bod (top 14)) (scp (top 14)) ([]) (Value.none) (Value.none) (Value.none) (Value.str (Str.ofString "law_nc0017_01") 750) (none) (Value.ref 329) (Value.none)), #[]⟩
noncomputable def o_600 (P : Params) : Obj := { cls := Value.none, data := Data.fields #[Value.int 2 0, Value.int 0 0, Value.ref 38, Value.int 6 0, Value.int 0 0, Value.ref 45, Value.int 11 0, Value.int 0 0, Value.ref 53, Value.int 13 0, Value.int 0 0, Value.ref 61, Value.int 202 0, Value.int 0 0, Value.ref 319, Value.int 206 0, Value.int 0 0, Value.ref 324, Value.int 208 0, Value.int 0 0, Value.ref 329] }
noncomputable def o_607 (P : Params) : Obj := ⟨Value.none, none, .func (fn0 (Str.ofString "python_pvector") (Str.ofString "python_pvector") (prm (top 10)) (bod (top 10)) (scp (top 10)) ([]) (Value.none) (Value.none) (Value.none) (Value.none) (none) (Value.none) (Value.none)), #[]⟩
noncomputable def tree_619 (P : Params) : BT := BT.node (o_640 P) (BT.node (o_673 P) (BT.node (o_599 P) (BT.node (o_647 P) (BT.node (o_657 P) (BT.node (o_72 P) (BT.node (o_110 P) (BT.node (o_174 P) (BT.node (o_302 P) BT.nil BT.nil) BT.nil) (BT.node (o_647 P) (BT.node (o_608 P) BT.nil BT.nil) BT.nil)) (BT.node (o_142 P) (BT.node (o_647 P) (BT.node (o_648 P) BT.nil BT.nil) BT.nil) (BT.node (o_648 P) BT.nil BT.nil))) (BT.node (o_92 P) (BT.node (o_647 P) (BT.node (o_648 P) (BT.node (o_647 P) BT.nil BT.nil) BT.nil) (BT.node (o_645 P) BT.nil BT.nil)) (BT.node (o_158 P) (BT.node (o_222 P) (BT.node (o_350 P) BT.nil BT.nil) BT.nil) (BT.node (o_647 P) BT.nil BT.nil)))) (BT.node (o_668 P) (BT.node (o_84 P) (BT.node (o_118 P) (BT.node (o_647 P) (BT.node (o_310 P) BT.nil BT.nil) BT.nil) (BT.node (o_648 P) (BT.node (o_648 P) BT.nil BT.nil) BT.nil)) (BT.node (o_647 P) (BT.node (o_214 P) (BT.node (o_342 P) BT.nil BT.nil) BT.nil) (BT.node (o_278 P) BT.nil BT.nil))) (BT.node (o_102 P) (BT.node (o_648 P) (BT.node (o_198 P) (BT.node (o_647 P) BT.nil BT.nil) BT.nil) (BT.node (o_647 P) BT.nil BT.nil)) (BT.node (o_166 P) (BT.node (o_230 P) (BT.node (o_598 P) BT.nil BT.nil) BT.nil) (BT.node (o_294 P) BT.nil BT.nil))))) (BT.node (o_651 P) (BT.node (o_675 P) (BT.node (o_80 P) (BT.node (o_114 P) (BT.node (o_647 P) (BT.node (o_306 P) BT.nil BT.nil) BT.nil) (BT.node (o_242 P) (BT.node (o_612 P) BT.nil BT.nil) BT.nil)) (BT.node (o_146 P) (BT.node (o_647 P) (BT.node (o_338 P) BT.nil BT.nil) BT.nil) (BT.node (o_274 P) BT.nil BT.nil))) (BT.node (o_647 P) (BT.node (o_130 P) (BT.node (o_194 P) (BT.node (o_322 P) BT.nil BT.nil) BT.nil) (BT.node (o_647 P) BT.nil BT.nil)) (BT.node (o_648 P) (BT.node (o_226 P) (BT.node (o_664 P) BT.nil BT.nil) BT.nil) (BT.node (o_647 P) BT.nil BT.nil)))) (BT.node (o_677 P) (BT.node (o_647 P) (BT.node (o_647 P) (BT.node (o_186 P) (BT.node (o_647 P) BT.nil BT.nil) BT.nil) (BT.node (o_250 P) BT.nil BT.nil)) (BT.node (o_647 P) (BT.node (o_648 P) (BT.node (o_346 P) BT.nil BT.nil) BT.nil) (BT.node (o_282 P) BT.nil BT.nil))) (BT.node (o_647 P) (BT.node (o_138 P) (BT.node (o_202 P) (BT.node (o_330 P) BT.nil BT.nil) BT.nil) (BT.node (o_266 P) BT.nil BT.nil)) (BT.node (o_170 P) (BT.node (o_647 P) (BT.node (o_648 P) BT.nil BT.nil) BT.nil) (BT.node (o_648 P) BT.nil BT.nil)))))) (BT.node (o_644 P) (BT.node (o_649 P) (BT.node (o_660 P) (BT.node (o_647 P) (BT.node (o_112 P) (BT.node (o_648 P) (BT.node (o_647 P) BT.nil BT.nil) BT.nil) (BT.node (o_240 P) (BT.node (o_647 P) BT.nil BT.nil) BT.nil)) (BT.node (o_144 P) (BT.node (o_208 P) (BT.node (o_647 P) BT.nil BT.nil) BT.nil) (BT.node (o_647 P) BT.nil BT.nil))) (BT.node (o_648 P) (BT.node (o_128 P) (BT.node (o_647 P) (BT.node (o_320 P) BT.nil BT.nil) BT.nil) (BT.node (o_648 P) BT.nil BT.nil)) (BT.node (o_160 P) (BT.node (o_647 P) (BT.node (o_352 P) BT.nil BT.nil) BT.nil) (BT.node (o_288 P) BT.nil BT.nil)))) (BT.node (o_671 P) (BT.node (o_648 P) (BT.node (o_648 P) (BT.node (o_184 P) (BT.node (o_648 P) BT.nil BT.nil) BT.nil) (BT.node (o_647 P) (BT.node (o_618 P) BT.nil BT.nil) BT.nil)) (BT.node (o_152 P) (BT.node (o_216 P) (BT.node (o_344 P) BT.nil BT.nil) BT.nil) (BT.node (o_280 P) BT.nil BT.nil))) (BT.node (o_104 P) (BT.node (o_647 P) (BT.node (o_200 P) (BT.node (o_328 P) BT.nil BT.nil) BT.nil) (BT.node (o_264 P) BT.nil BT.nil)) (BT.node (o_647 P) (BT.node (o_648 P) (BT.node (o_602 P) BT.nil BT.nil) BT.nil) (BT.node (o_296 P) BT.nil BT.nil))))) (BT.node (o_654 P) (BT.node (o_687 P) (BT.node (o_82 P) (BT.node (o_116 P) (BT.node (o_180 P) (BT.node (o_308 P) BT.nil BT.nil) BT.nil) (BT.node (o_244 P) (BT.node (o_614 P) BT.nil BT.nil) BT.nil)) (BT.node (o_648 P) (BT.node (o_212 P) (BT.node (o_340 P) BT.nil BT.nil) BT.nil) (BT.node (o_647 P) BT.nil BT.nil))) (BT.node (o_98 P) (BT.node (o_132 P) (BT.node (o_647 P) (BT.node (o_324 P) BT.nil BT.nil) BT.nil) (BT.node (o_260 P) BT.nil BT.nil)) (BT.node (o_647 P) (BT.node (o_228 P) (BT.node (o_351 P) BT.nil BT.nil) BT.nil) (BT.node (o_292 P) BT.nil BT.nil)))) (BT.node (o_647 P) (BT.node (o_90 P) (BT.node (o_124 P) (BT.node (o_188 P) (BT.node (o_316 P) BT.nil BT.nil) BT.nil) (BT.node (o_252 P) BT.nil BT.nil)) (BT.node (o_156 P) (BT.node (o_647 P) (BT.node (o_348 P) BT.nil BT.nil) BT.nil) (BT.node (o_648 P) BT.nil BT.nil))) (BT.node (o_108 P) (BT.node (o_647 P) (BT.node (o_648 P) (BT.node (o_332 P) BT.nil BT.nil) BT.nil) (BT.node (o_268 P) BT.nil BT.nil)) (BT.node (o_172 P) (BT.node (o_236 P) (BT.node (o_647 P) BT.nil BT.nil) BT.nil) (BT.node (o_647 P) BT.nil BT.nil))))))) (BT.node (o_684 P) (BT.node (o_643 P) (BT.node (o_648 P) (BT.node (o_647 P) (BT.node (o_73 P) (BT.node (o_111 P) (BT.node (o_647 P) (BT.node (o_303 P) BT.nil BT.nil) BT.nil) (BT.node (o_648 P) (BT.node (o_609 P) BT.nil BT.nil) BT.nil)) (BT.node (o_647 P) (BT.node (o_207 P) (BT.node (o_335 P) BT.nil BT.nil) BT.nil) (BT.node (o_271 P) BT.nil BT.nil))) (BT.node (o_647 P) (BT.node (o_648 P) (BT.node (o_191 P) (BT.node (o_648 P) BT.nil BT.nil) BT.nil) (BT.node (o_647 P) BT.nil BT.nil)) (BT.node (o_159 P) (BT.node (o_223 P) (BT.node (o_351 P) BT.nil BT.nil) BT.nil) (BT.node (o_287 P) BT.nil BT.nil)))) (BT.node (o_669 P) (BT.node (o_647 P) (BT.node (o_647 P) (BT.node (o_648 P) (BT.node (o_647 P) BT.nil BT.nil) BT.nil) (BT.node (o_247 P) (BT.node (o_617 P) BT.nil BT.nil) BT.nil)) (BT.node (o_151 P) (BT.node (o_215 P) (BT.node (o_343 P) BT.nil BT.nil) BT.nil) (BT.node (o_647 P) BT.nil BT.nil))) (BT.node (o_103 P) (BT.node (o_135 P) (BT.node (o_647 P) (BT.node (o_648 P) BT.nil BT.nil) BT.nil) (BT.node (o_648 P) BT.nil BT.nil)) (BT.node (o_167 P) (BT.node (o_647 P) (BT.node (o_647 P) BT.nil BT.nil) BT.nil) (BT.node (o_295 P) BT.nil BT.nil))))) (BT.node (o_53 P) (BT.node (o_664 P) (BT.node (o_647 P) (BT.node (o_647 P) (BT.node (o_179 P) (BT.node (o_647 P) BT.nil BT.nil) BT.nil) (BT.node (o_243 P) (BT.node (o_613 P) BT.nil BT.nil) BT.nil)) (BT.node (o_647 P) (BT.node (o_648 P) (BT.node (o_339 P) BT.nil BT.nil) BT.nil) (BT.node (o_275 P) BT.nil BT.nil))) (BT.node (o_97 P) (BT.node (o_131 P) (BT.node (o_195 P) (BT.node (o_323 P) BT.nil BT.nil) BT.nil) (BT.node (o_259 P) BT.nil BT.nil)) (BT.node (o_163 P) (BT.node (o_647 P) (BT.node (o_595 P) BT.nil BT.nil) BT.nil) (BT.node (o_648 P) BT.nil BT.nil)))) (BT.node (o_686 P) (BT.node (o_89 P) (BT.node (o_123 P) (BT.node (o_187 P) (BT.node (o_315 P) BT.nil BT.nil) BT.nil) (BT.node (o_251 P) BT.nil BT.nil)) (BT.node (o_648 P) (BT.node (o_219 P) (BT.node (o_347 P) BT.nil BT.nil) BT.nil) (BT.node (o_647 P) BT.nil BT.nil))) (BT.node (o_107 P) (BT.node (o_139 P) (BT.node (o_647 P) (BT.node (o_331 P) BT.nil BT.nil) BT.nil) (BT.node (o_267 P) BT.nil BT.nil)) (BT.node (o_647 P) (BT.node (o_235 P) (BT.node (o_605 P) BT.nil BT.nil) BT.nil) (BT.node (o_299 P) BT.nil BT.nil)))))) (BT.node (o_645 P) (BT.node (o_650 P) (BT.node (o_661 P) (BT.node (o_648 P) (BT.node (o_648 P) (BT.node (o_177 P) (BT.node (o_648 P) BT.nil BT.nil) BT.nil) (BT.node (o_647 P) (BT.node (o_648 P) BT.nil BT.nil) BT.nil)) (BT.node (o_145 P) (BT.node (o_209 P) (BT.node (o_337 P) BT.nil BT.nil) BT.nil) (BT.node (o_273 P) BT.nil BT.nil))) (BT.node (o_95 P) (BT.node (o_647 P) (BT.node (o_193 P) (BT.node (o_647 P) BT.nil BT.nil) BT.nil) (BT.node (o_257 P) BT.nil BT.nil)) (BT.node (o_647 P) (BT.node (o_648 P) (BT.node (o_664 P) BT.nil BT.nil) BT.nil) (BT.node (o_289 P) BT.nil BT.nil)))) (BT.node (o_672 P) (BT.node (o_87 P) (BT.node (o_121 P) (BT.node (o_647 P) (BT.node (o_313 P) BT.nil BT.nil) BT.nil) (BT.node (o_249 P) (BT.node (o_619 P) BT.nil BT.nil) BT.nil)) (BT.node (o_153 P) (BT.node (o_647 P) (BT.node (o_345 P) BT.nil BT.nil) BT.nil) (BT.node (o_281 P) BT.nil BT.nil))) (BT.node (o_105 P) (BT.node (o_137 P) (BT.node (o_201 P) (BT.node (o_647 P) BT.nil BT.nil) BT.nil) (BT.node (o_647 P) BT.nil BT.nil)) (BT.node (o_648 P) (BT.node (o_233 P) (BT.node (o_647 P) BT.nil BT.nil) BT.nil) (BT.node (o_647 P) BT.nil BT.nil))))) (BT.node (o_659 P) (BT.node (o_670 P) (BT.node (o_83 P) (BT.node (o_117 P) (BT.node (o_181 P) (BT.node (o_309 P) BT.nil BT.nil) BT.nil) (BT.node (o_647 P) (BT.node (o_647 P) BT.nil BT.nil) BT.nil)) (BT.node (o_149 P) (BT.node (o_647 P) (BT.node (o_341 P) BT.nil BT.nil) BT.nil) (BT.node (o_648 P) BT.nil BT.nil))) (BT.node (o_99 P) (BT.node (o_647 P) (BT.node (o_648 P) (BT.node (o_325 P) BT.nil BT.nil) BT.nil) (BT.node (o_261 P) BT.nil BT.nil)) (BT.node (o_165 P) (BT.node (o_229 P) (BT.node (o_645 P) BT.nil BT.nil) BT.nil) (BT.node (o_647 P) BT.nil BT.nil)))) (BT.node (o_600 P) (BT.node (o_91 P) (BT.node (o_125 P) (BT.node (o_647 P) (BT.node (o_317 P) BT.nil BT.nil) BT.nil) (BT.node (o_253 P) BT.nil BT.nil)) (BT.node (o_647 P) (BT.node (o_221 P) (BT.node (o_349 P) BT.nil BT.nil) BT.nil) (BT.node (o_285 P) BT.nil BT.nil))) (BT.node (o_109 P) (BT.node (o_648 P) (BT.node (o_205 P) (BT.node (o_647 P) BT.nil BT.nil) BT.nil) (BT.node (o_647 P) BT.nil BT.nil)) (BT.node (o_173 P) (BT.node (o_237 P) (BT.node (o_607 P) BT.nil BT.nil) BT.nil) (BT.node (o_301 P) BT.nil BT.nil)))))))
noncomputable def heap_620 (P : Params) : Heap := { objs := { toList := [o_640 P, o_673 P, o_684 P, o_599 P, o_643 P, o_644 P, o_645 P, o_647 P, o_648 P, o_649 P, o_650 P, o_651 P, o_53 P, o_654 P, o_659 P, o_657 P, o_647 P, o_660 P, o_661 P, o_675 P, o_664 P, o_687 P, o_670 P, o_668 P, o_669 P, o_671 P, o_672 P, o_677 P, o_686 P, o_647 P, o_600 P, o_72 P, o_73 P, o_647 P, o_648 P, o_80 P, o_647 P, o_82 P, o_83 P, o_84 P, o_647 P, o_648 P, o_87 P, o_647 P, o_89 P, o_90 P, o_91 P, o_92 P, o_647 P, o_648 P, o_95 P, o_647 P, o_97 P, o_98 P, o_99 P, o_102 P, o_103 P, o_104 P, o_105 P, o_647 P, o_107 P, o_108 P, o_109 P, o_110 P, o_111 P, o_112 P, o_648 P, o_114 P, o_647 P, o_116 P, o_117 P, o_118 P, o_647 P, o_648 P, o_121 P, o_647 P, o_123 P, o_124 P, o_125 P, o_647 P, o_648 P, o_128 P, o_647 P, o_130 P, o_131 P, o_132 P, o_647 P, o_648 P, o_135 P, o_647 P, o_137 P, o_138 P, o_139 P, o_647 P, o_648 P, o_142 P, o_647 P, o_144 P, o_145 P, o_146 P, o_647 P, o_648 P, o_149 P, o_647 P, o_151 P, o_152 P, o_153 P, o_647 P, o_648 P, o_156 P, o_647 P, o_158 P, o_159 P, o_160 P, o_647 P, o_648 P, o_163 P, o_647 P, o_165 P, o_166 P, o_167 P, o_647 P, o_648 P, o_170 P, o_647 P, o_172 P, o_173 P, o_174 P, o_647 P, o_648 P, o_177 P, o_647 P, o_179 P, o_180 P, o_181 P, o_647 P, o_648 P, o_184 P, o_647 P, o_186 P, o_187 P, o_188 P, o_647 P, o_648 P, o_191 P, o_647 P, o_193 P, o_194 P, o_195 P, o_647 P, o_648 P, o_198 P, o_647 P, o_200 P, o_201 P, o_202 P, o_647 P, o_648 P, o_205 P, o_647 P, o_207 P, o_208 P, o_209 P, o_647 P, o_648 P, o_212 P, o_647 P, o_214 P, o_215 P, o_216 P, o_647 P, o_648 P, o_219 P, o_647 P, o_221 P, o_222 P, o_223 P, o_647 P, o_648 P, o_226 P, o_647 P, o_228 P, o_229 P, o_230 P, o_647 P, o_648 P, o_233 P, o_647 P, o_235 P, o_236 P, o_237 P, o_647 P, o_648 P, o_240 P, o_647 P, o_242 P, o_243 P, o_244 P, o_647 P, o_648 P, o_247 P, o_647 P, o_249 P, o_250 P, o_251 P, o_252 P, o_253 P, o_645 P, o_647 P, o_648 P, o_257 P, o_647 P, o_259 P, o_260 P, o_261 P, o_647 P, o_648 P, o_264 P, o_647 P, o_266 P, o_267 P, o_268 P, o_647 P, o_648 P, o_271 P, o_647 P, o_273 P, o_274 P, o_275 P, o_647 P, o_648 P, o_278 P, o_647 P, o_280 P, o_281 P, o_282 P, o_647 P, o_648 P, o_285 P, o_647 P, o_287 P, o_288 P, o_289 P, o_647 P, o_648 P, o_292 P, o_647 P, o_294 P, o_295 P, o_296 P, o_647 P, o_648 P, o_299 P, o_647 P, o_301 P, o_302 P, o_303 P, o_647 P, o_648 P, o_306 P, o_647 P, o_308 P, o_309 P, o_310 P, o_647 P, o_648 P, o_313 P, o_647 P, o_315 P, o_316 P, o_317 P, o_647 P, o_648 P, o_320 P, o_647 P, o_322 P, o_323 P, o_324 P, o_325 P, o_647 P, o_648 P, o_328 P, o_647 P, o_330 P, o_331 P, o_332 P, o_647 P, o_648 P, o_335 P, o_647 P, o_337 P, o_338 P, o_339 P, o_340 P, o_341 P, o_342 P, o_343 P, o_344 P, o_345 P, o_346 P, o_347 P, o_348 P, o_349 P, o_350 P, o_351 P, o_352 P, o_664 P, o_664 P, o_595 P, o_351 P, o_645 P, o_598 P, o_647 P, o_602 P, o_647 P, o_648 P, o_605 P, o_647 P, o_607 P, o_608 P, o_609 P, o_647 P, o_648 P, o_612 P, o_613 P, o_614 P, o_647 P, o_648 P, o_617 P, o_618 P, o_619 P] } }
/-- the part of the heap behind the top that the walk reads -/
noncomputable def KK (P : Params) : Frag := (nat_lit 2, o_684 P) :: (nat_lit 3, o_599 P) :: (nat_lit 33, o_647 P) :: (nat_lit 35, o_80 P) :: (nat_lit 36, o_647 P) :: (nat_lit 38, o_83 P) :: (nat_lit 39, o_84 P) :: (nat_lit 48, o_647 P) :: (nat_lit 50, o_95 P) :: (nat_lit 51, o_647 P) :: (nat_lit 53, o_98 P) :: (nat_lit 54, o_99 P) :: (nat_lit 55, o_102 P) :: (nat_lit 58, o_105 P) :: (nat_lit 63, o_110 P) :: (nat_lit 64, o_111 P) :: (nat_lit 65, o_112 P) :: (nat_lit 67, o_114 P) :: (nat_lit 68, o_647 P) :: (nat_lit 70, o_117 P) :: (nat_lit 71, o_118 P) :: (nat_lit 72, o_647 P) :: (nat_lit 74, o_121 P) :: (nat_lit 75, o_647 P) :: (nat_lit 77, o_124 P) :: (nat_lit 78, o_125 P) :: (nat_lit 79, o_647 P) :: (nat_lit 81, o_128 P) :: (nat_lit 82, o_647 P) :: (nat_lit 84, o_131 P) :: (nat_lit 85, o_132 P) :: (nat_lit 86, o_647 P) :: (nat_lit 88, o_135 P) :: (nat_lit 89, o_647 P) :: (nat_lit 91, o_138 P) :: (nat_lit 92, o_139 P) :: (nat_lit 93, o_647 P) :: (nat_lit 95, o_142 P) :: (nat_lit 96, o_647 P) :: (nat_lit 98, o_145 P) :: (nat_lit 99, o_146 P) :: (nat_lit 100, o_647 P) :: (nat_lit 102, o_149 P) :: (nat_lit 103, o_647 P) :: (nat_lit 105, o_152 P) :: (nat_lit 106, o_153 P) :: (nat_lit 107, o_647 P) :: (nat_lit 109, o_156 P) :: (nat_lit 110, o_647 P) :: (nat_lit 112, o_159 P) :: (nat_lit 113, o_160 P) :: (nat_lit 114, o_647 P) :: (nat_lit 116, o_163 P) :: (nat_lit 117, o_647 P) :: (nat_lit 119, o_166 P) :: (nat_lit 120, o_167 P) :: (nat_lit 121, o_647 P) :: (nat_lit 123, o_170 P) :: (nat_lit 124, o_647 P) :: (nat_lit 126, o_173 P) :: (nat_lit 127, o_174 P) :: (nat_lit 128, o_647 P) :: (nat_lit 130, o_177 P) :: (nat_lit 131, o_647 P) :: (nat_lit 133, o_180 P) :: (nat_lit 134, o_181 P) :: (nat_lit 135, o_647 P) :: (nat_lit 137, o_184 P) :: (nat_lit 138, o_647 P) :: (nat_lit 140, o_187 P) :: (nat_lit 141, o_188 P) :: (nat_lit 142, o_647 P) :: (nat_lit 144, o_191 P) :: (nat_lit 145, o_647 P) :: (nat_lit 147, o_194 P) :: (nat_lit 148, o_195 P) :: (nat_lit 149, o_647 P) :: (nat_lit 151, o_198 P) :: (nat_lit 152, o_647 P) :: (nat_lit 154, o_201 P) :: (nat_lit 155, o_202 P) :: (nat_lit 156, o_647 P) :: (nat_lit 158, o_205 P) :: (nat_lit 159, o_647 P) :: (nat_lit 161, o_208 P) :: (nat_lit 162, o_209 P) :: (nat_lit 163, o_647 P) :: (nat_lit 165, o_212 P) :: (nat_lit 166, o_647 P) :: (nat_lit 168, o_215 P) :: (nat_lit 169, o_216 P) :: (nat_lit 170, o_647 P) :: (nat_lit 172, o_219 P) :: (nat_lit 173, o_647 P) :: (nat_lit 175, o_222 P) :: (nat_lit 176, o_223 P) :: (nat_lit 177, o_647 P) :: (nat_lit 179, o_226 P) :: (nat_lit 180, o_647 P) :: (nat_lit 182, o_229 P) :: (nat_lit 183, o_230 P) :: (nat_lit 184, o_647 P) :: (nat_lit 186, o_233 P) :: (nat_lit 187, o_647 P) :: (nat_lit 189, o_236 P) :: (nat_lit 190, o_237 P) :: (nat_lit 191, o_647 P) :: (nat_lit 193, o_240 P) :: (nat_lit 194, o_647 P) :: (nat_lit 196, o_243 P) :: (nat_lit 197, o_244 P) :: (nat_lit 198, o_647 P) :: (nat_lit 200, o_247 P) :: (nat_lit 201, o_647 P) :: (nat_lit 203, o_250 P) :: (nat_lit 204, o_251 P) :: (nat_lit 205, o_252 P) :: (nat_lit 206, o_253 P) :: (nat_lit 207, o_645 P) :: (nat_lit 208, o_647 P) :: (nat_lit 210, o_257 P) :: (nat_lit 211, o_647 P) :: (nat_lit 213, o_260 P) :: (nat_lit 214, o_261 P) :: (nat_lit 215, o_647 P) :: (nat_lit 217, o_264 P) :: (nat_lit 218, o_647 P) :: (nat_lit 220, o_267 P) :: (nat_lit 221, o_268 P) :: (nat_lit 222, o_647 P) :: (nat_lit 224, o_271 P) :: (nat_lit 225, o_647 P) :: (nat_lit 227, o_274 P) :: (nat_lit 228, o_275 P) :: (nat_lit 229, o_647 P) :: (nat_lit 231, o_278 P) :: (nat_lit 232, o_647 P) :: (nat_lit 234, o_281 P) :: (nat_lit 235, o_282 P) :: (nat_lit 236, o_647 P) :: (nat_lit 238, o_285 P) :: (nat_lit 239, o_647 P) :: (nat_lit 241, o_288 P) :: (nat_lit 242, o_289 P) :: (nat_lit 243, o_647 P) :: (nat_lit 245, o_292 P) :: (nat_lit 246, o_647 P) :: (nat_lit 248, o_295 P) :: (nat_lit 249, o_296 P) :: (nat_lit 250, o_647 P) :: (nat_lit 252, o_299 P) :: (nat_lit 253, o_647 P) :: (nat_lit 255, o_302 P) :: (nat_lit 256, o_303 P) :: (nat_lit 257, o_647 P) :: (nat_lit 259, o_306 P) :: (nat_lit 260, o_647 P) :: (nat_lit 262, o_309 P) :: (nat_lit 263, o_310 P) :: (nat_lit 264, o_647 P) :: (nat_lit 266, o_313 P) :: (nat_lit 267, o_647 P) :: (nat_lit 269, o_316 P) :: (nat_lit 270, o_317 P) :: (nat_lit 271, o_647 P) :: (nat_lit 273, o_320 P) :: (nat_lit 274, o_647 P) :: (nat_lit 276, o_323 P) :: (nat_lit 277, o_324 P) :: (nat_lit 278, o_325 P) :: (nat_lit 279, o_647 P) :: (nat_lit 281, o_328 P) :: (nat_lit 282, o_647 P) :: (nat_lit 284, o_331 P) :: (nat_lit 285, o_332 P) :: (nat_lit 286, o_647 P) :: (nat_lit 288, o_335 P) :: (nat_lit 289, o_647 P) :: (nat_lit 291, o_338 P) :: (nat_lit 292, o_339 P) :: (nat_lit 293, o_340 P) :: (nat_lit 295, o_342 P) :: (nat_lit 296, o_343 P) :: (nat_lit 297, o_344 P) :: (nat_lit 298, o_345 P) :: (nat_lit 299, o_346 P) :: (nat_lit 300, o_347 P) :: (nat_lit 301, o_348 P) :: (nat_lit 302, o_349 P) :: (nat_lit 303, o_350 P) :: (nat_lit 306, o_664 P) :: (nat_lit 307, o_664 P) :: (nat_lit 310, o_645 P) :: (nat_lit 311, o_598 P) :: (nat_lit 312, o_647 P) :: (nat_lit 313, o_602 P) :: (nat_lit 314, o_647 P) :: (nat_lit 316, o_605 P) :: (nat_lit 317, o_647 P) :: (nat_lit 319, o_608 P) :: (nat_lit 320, o_609 P) :: (nat_lit 321, o_647 P) :: (nat_lit 324, o_613 P) :: (nat_lit 325, o_614 P) :: (nat_lit 326, o_647 P) :: (nat_lit 329, o_618 P) :: (nat_lit 330, o_619 P) :: []
def kAs : List Addr := [2, 3, 33, 35, 36, 38, 39, 48, 50, 51, 53, 54, 55, 58, 63, 64, 65, 67, 68, 70, 71, 72, 74, 75, 77, 78, 79, 81, 82, 84, 85, 86, 88, 89, 91, 92, 93, 95, 96, 98, 99, 100, 102, 103, 105, 106, 107, 109, 110, 112, 113, 114, 116, 117, 119, 120, 121, 123, 124, 126, 127, 128, 130, 131, 133, 134, 135, 137, 138, 140, 141, 142, 144, 145, 147, 148, 149, 151, 152, 154, 155, 156, 158, 159, 161, 162, 163, 165, 166, 168, 169, 170, 172, 173, 175, 176, 177, 179, 180, 182, 183, 184, 186, 187, 189, 190, 191, 193, 194, 196, 197, 198, 200, 201, 203, 204, 205, 206, 207, 208, 210, 211, 213, 214, 215, 217, 218, 220, 221, 222, 224, 225, 227, 228, 229, 231, 232, 234, 235, 236, 238, 239, 241, 242, 243, 245, 246, 248, 249, 250, 252, 253, 255, 256, 257, 259, 260, 262, 263, 264, 266, 267, 269, 270, 271, 273, 274, 276, 277, 278, 279, 281, 282, 284, 285, 286, 288, 289, 291, 292, 293, 295, 296, 297, 298, 299, 300, 301, 302, 303, 306, 307, 310, 311, 312, 313, 314, 316, 317, 319, 320, 321, 324, 325, 326, 329, 330]
theorem kAs_is (P : Params) : kAs = (KK P).map (·.1) := by kernel_rfl
noncomputable def HH : Hook := kHook KK kAs kAs_is
def viewP : Program := { PySem.Challenge.pw_nc0017_01 with main := { PySem.Challenge.pw_nc0017_01.main with body := [0, 1, 3, 4, 5, 6, 7, 8, 9, 11, 13, 14].filterMap (PySem.Challenge.pw_nc0017_01.main.body[·]?) } }
def looseL : List PySem.Str := [Str.ofString "BIT_MASK", Str.ofString "SHIFT", Str.ofString "PythonPVector", Str.ofString "_EMPTY_PVECTOR", Str.ofString "python_pvector", Str.ofString "pvector"]
def lvL : List (PySem.Str × WData) := [(Str.ofString "BIT_MASK", WData.int 31), (Str.ofString "SHIFT", WData.int 5)]
abbrev prg : Program := PySem.Challenge.rw_nc0017_01.row.toRowW.prog
abbrev opn : Program := opening prg
def thrOf (t : Thread) : Option (SharedT × Thread) → Thread | some (_, t') => t' | none => t
theorem cut_of {x : Option (SharedT × Thread)} {S : SharedT} (t : Thread) (h : x.map Prod.fst = some S) : x = some (S, thrOf t x) := by
  cases x with
  | none => cases h
  | some r => obtain ⟨s, t'⟩ := r; cases h; rfl
noncomputable abbrev goI := @PySem.W.Fast.tw14789777615569096658
noncomputable abbrev tbl := @PySem.W.Fast.tw14364793385576792824
noncomputable abbrev segT := @PySem.W.Fast.tw10110043849684766642
abbrev sT (T : Params → BT) (n k : Nat) (w : World) (os : OsState) : SharedT := ⟨T w.params, n, {}, #[], {}, k, os⟩
abbrev sH (H : Params → Heap) (k : Nat) (w : World) (os : OsState) : Shared := ⟨H w.params, #[], {}, k, os⟩
theorem goI_eq : @impGoT treeTable = goI tbl := by rw [PySem.W.Fast.te14789777615569096658, PySem.W.Fast.te14364793385576792824]
theorem segT_eq : @segRunT treeTable = segT tbl := by rw [PySem.W.Fast.te10110043849684766642, PySem.W.Fast.te14364793385576792824]
theorem piI {q : Program} {w : World} {n : Nat} {S S' : SharedT} {t : Thread} (t0 : Thread) (h : (goI tbl q w n S t).map Prod.fst = some S') : impGo treeTable q w n S.abs t = some (S'.abs, thrOf t0 (goI tbl q w n S t)) :=
  impGo_of ((congrFun (congrFun (congrFun (congrFun (congrFun goI_eq q) w) n) S) t).trans (cut_of t0 h))
theorem piS {q : Program} {w : World} {m b n : Nat} {ann : Option Value} {S S' : SharedT} {t : Thread} {f : Flow} {cd : Code} {pp : Pos} (h : segT tbl q w m ann b n S t = some (f, S', cd, pp)) : segRun treeTable q w m ann b n S.abs t = some (f, S'.abs, cd, pp) :=
  segRun_of ((congrFun (congrFun (congrFun (congrFun (congrFun (congrFun (congrFun (congrFun segT_eq q) w) m) ann) b) n) S) t).trans h)
theorem endI {tb : String → Option Builtin} {q : Program} {w : World} {s : Shared} {t : Thread} (h : t.atExitBegin = some []) : importEnds tb q w 1 s t = some s := by
  unfold importEnds; rw [h]
/-! the opening -/
noncomputable def th0 : Thread := (PySem.W.Fast.tw1435165496053646825 opn).2
theorem i1 (w : World) (os : OsState) : (goI tbl opn w 360 (sT tree_623 0 1 w os) th0).map Prod.fst = some (sT tree_645 7 170 w os) := by kernel_rfl
noncomputable def th1 (w : World) (os : OsState) : Thread := thrOf th0 (goI tbl opn w 360 (sT tree_623 0 1 w os) th0)
theorem j1 (w : World) (os : OsState) : impGo treeTable opn w 360 (sT tree_623 0 1 w os).abs th0 = some ((sT tree_645 7 170 w os).abs, th1 w os) := piI th0 (i1 w os)
theorem i2 (w : World) (os : OsState) : (goI tbl opn w 120 (sT tree_645 7 170 w os) (th1 w os)).map Prod.fst = some (sT tree_658 17 201 w os) := by kernel_rfl
noncomputable def th2 (w : World) (os : OsState) : Thread := thrOf th0 (goI tbl opn w 120 (sT tree_645 7 170 w os) (th1 w os))
theorem j2 (w : World) (os : OsState) : impGo treeTable opn w 120 (sT tree_645 7 170 w os).abs (th1 w os) = some ((sT tree_658 17 201 w os).abs, th2 w os) := piI th0 (i2 w os)
theorem i3 (w : World) (os : OsState) : (goI tbl opn w 120 (sT tree_658 17 201 w os) (th2 w os)).map Prod.fst = some (sT tree_669 25 238 w os) := by kernel_rfl
noncomputable def th3 (w : World) (os : OsState) : Thread := thrOf th0 (goI tbl opn w 120 (sT tree_658 17 201 w os) (th2 w os))
theorem j3 (w : World) (os : OsState) : impGo treeTable opn w 120 (sT tree_658 17 201 w os).abs (th2 w os) = some ((sT tree_669 25 238 w os).abs, th3 w os) := piI th0 (i3 w os)
theorem i4 (w : World) (os : OsState) : (goI tbl opn w 120 (sT tree_669 25 238 w os) (th3 w os)).map Prod.fst = some (sT tree_678 28 270 w os) := by kernel_rfl
noncomputable def th4 (w : World) (os : OsState) : Thread := thrOf th0 (goI tbl opn w 120 (sT tree_669 25 238 w os) (th3 w os))
theorem j4 (w : World) (os : OsState) : impGo treeTable opn w 120 (sT tree_669 25 238 w os).abs (th3 w os) = some ((sT tree_678 28 270 w os).abs, th4 w os) := piI th0 (i4 w os)
theorem i5 (w : World) (os : OsState) : (goI tbl opn w 40 (sT tree_678 28 270 w os) (th4 w os)).map Prod.fst = some (sT tree_680 28 290 w os) := by kernel_rfl
noncomputable def th5 (w : World) (os : OsState) : Thread := thrOf th0 (goI tbl opn w 40 (sT tree_678 28 270 w os) (th4 w os))
theorem j5 (w : World) (os : OsState) : impGo treeTable opn w 40 (sT tree_678 28 270 w os).abs (th4 w os) = some ((sT tree_680 28 290 w os).abs, th5 w os) := piI th0 (i5 w os)
theorem i6 (w : World) (os : OsState) : (goI tbl opn w 40 (sT tree_680 28 290 w os) (th5 w os)).map Prod.fst = some (sT tree_682 28 310 w os) := by kernel_rfl
noncomputable def th6 (w : World) (os : OsState) : Thread := thrOf th0 (goI tbl opn w 40 (sT tree_680 28 290 w os) (th5 w os))
theorem j6 (w : World) (os : OsState) : impGo treeTable opn w 40 (sT tree_680 28 290 w os).abs (th5 w os) = some ((sT tree_682 28 310 w os).abs, th6 w os) := piI th0 (i6 w os)
theorem i7 (w : World) (os : OsState) : (goI tbl opn w 40 (sT tree_682 28 310 w os) (th6 w os)).map Prod.fst = some (sT tree_686 29 320 w os) := by kernel_rfl
noncomputable def th7 (w : World) (os : OsState) : Thread := thrOf th0 (goI tbl opn w 40 (sT tree_682 28 310 w os) (th6 w os))
theorem j7 (w : World) (os : OsState) : impGo treeTable opn w 40 (sT tree_682 28 310 w os).abs (th6 w os) = some ((sT tree_686 29 320 w os).abs, th7 w os) := piI th0 (i7 w os)
theorem i8 (w : World) (os : OsState) : (goI tbl opn w 120 (sT tree_686 29 320 w os) (th7 w os)).map Prod.fst = some (sT tree_691 29 331 w os) := by kernel_rfl
noncomputable def th8 (w : World) (os : OsState) : Thread := thrOf th0 (goI tbl opn w 120 (sT tree_686 29 320 w os) (th7 w os))
theorem j8 (w : World) (os : OsState) : impGo treeTable opn w 120 (sT tree_686 29 320 w os).abs (th7 w os) = some ((sT tree_691 29 331 w os).abs, th8 w os) := piI th0 (i8 w os)
theorem i9 (w : World) (os : OsState) : (goI tbl opn w 70 (sT tree_691 29 331 w os) (th8 w os)).map Prod.fst = some (sT tree_695 29 338 w os) := by kernel_rfl
noncomputable def th9 (w : World) (os : OsState) : Thread := thrOf th0 (goI tbl opn w 70 (sT tree_691 29 331 w os) (th8 w os))
theorem j9 (w : World) (os : OsState) : impGo treeTable opn w 70 (sT tree_691 29 331 w os).abs (th8 w os) = some ((sT tree_695 29 338 w os).abs, th9 w os) := piI th0 (i9 w os)
theorem iE (w : World) (os : OsState) : (th9 w os).atExitBegin = some [] := by kernel_rfl
theorem opens0 (w : World) (os : OsState) : importEnds treeTable opn w (360 + (120 + (120 + (120 + (40 + (40 + (40 + (120 + (70 + 1))))))))) (sT tree_623 0 1 w os).abs th0 = some (sT tree_695 29 338 w os).abs := imp_go (j1 w os) (imp_go (j2 w os) (imp_go (j3 w os) (imp_go (j4 w os) (imp_go (j5 w os) (imp_go (j6 w os) (imp_go (j7 w os) (imp_go (j8 w os) (imp_go (j9 w os) (endI (iE w os))))))))))
theorem st_eq : start opn = PySem.W.Fast.tw1435165496053646825 opn := congrFun PySem.W.Fast.te1435165496053646825 opn
theorem opens (w : World) : importEnds treeTable opn w (360 + (120 + (120 + (120 + (40 + (40 + (40 + (120 + (70 + 1))))))))) (start opn).1 (start opn).2 = some ⟨absHeap (tree_695 w.params) 29 {}, #[], {}, 338, (start opn).1.os⟩ := by
  have h := opens0 w (start opn).1.os
  have e1 : (sT tree_623 0 1 w (start opn).1.os).abs = (start opn).1 := by kernel_rfl
  have e2 : th0 = (start opn).2 := congrArg Prod.snd st_eq.symm
  rw [e1, e2] at h
  exact h
theorem fence (w : World) : (fun os => (fenceModules? prg ⟨absHeap (tree_695 w.params) 29 {}, #[], {}, 338, os⟩).map (fun s => (s.heap, s.gens, s.drawn, s.toks))) = fun _ => some (heap_69 w.params, #[], {}, 338) := by kernel_rfl
/-! the top's run -/
abbrev ann0 : Option Value := some (.ref 6)
def env0 : Env := { scope := prg.main.scope, locals := mainNs, globals := mainNs, cells := [], code := .ref 31, frame := some 32 }
abbrev bodyT : List Stmt := behindTheImports prg
abbrev codeT : Code := .body bodyT env0
abbrev BT0 : List Frame := [topFrame ⟨0, 0, 0, 0⟩]
theorem sizes (w : World) : ((heap_69 w.params).isNs mainGlobals && (#[] : Array GenState).size == 0, (heap_69 w.params).objs.size, (heap_69 w.params).nsMap mainGlobals "__annotations__") = (true, 29, ann0) := by kernel_rfl
theorem r0 (w : World) (os : OsState) : topGo treeTable prg w 29 ann0 12 (sH heap_69 338 w os) (topStub prg) = some (sH heap_73 344 w os, ⟨denote treeTable codeT, codeT, ⟨0, 0, 0, 0⟩, BT0⟩) := by
  rw [PySem.W.Fast.te15667345088766844465, PySem.W.Fast.te11892475500146522536, PySem.W.Fast.te14364793385576792824]; kernel_rfl
theorem r1 (w : World) (os : OsState) : segRun treeTable prg w 29 ann0 1 1 (sH heap_73 344 w os) (blockOf bodyT env0 codeT ⟨0, 0, 0, 0⟩ BT0) = some (.next, (sT tree_74 33 344 w os).abs, codeT, ⟨0, 0, 0, 0⟩) := by
  rw [PySem.W.Fast.te14374325043358763698, PySem.W.Fast.te14364793385576792824]; kernel_rfl
noncomputable def sts0 : List Stmt := (bodyT.drop 0).take 7
theorem g0 (w : World) (os : OsState) : segT tbl prg w 29 ann0 1 173 (sT tree_74 33 344 w os) (piecesOf sts0 env0 codeT ⟨0, 0, 0, 0⟩ BT0) = some (.next, sT tree_99 55 379 w os, codeT, ⟨11, 0, 12, 94⟩) := by kernel_rfl
noncomputable def sts1 : List Stmt := (bodyT.drop 7).take 1
theorem g1 (w : World) (os : OsState) : segT tbl prg w 29 ann0 1 1496 (sT tree_99 55 379 w os) (piecesOf sts1 env0 codeT ⟨11, 0, 12, 94⟩ BT0) = some (.next, sT tree_352 306 722 w os, codeT, ⟨13, 0, 200, 16⟩) := by kernel_rfl
noncomputable def sts2 : List Stmt := (bodyT.drop 8).take 1
theorem g2 (w : World) (os : OsState) : segT tbl prg w 29 ann0 1 480 (sT tree_352 306 722 w os) (piecesOf sts2 env0 codeT ⟨13, 0, 200, 16⟩ BT0) = some (.next, sT tree_598 312 742 w os, codeT, ⟨201, 0, 201, 14⟩) := by kernel_rfl
noncomputable def sts3 : List Stmt := (bodyT.drop 9).take 5
theorem g3 (w : World) (os : OsState) : segT tbl prg w 29 ann0 1 104 (sT tree_598 312 742 w os) (piecesOf sts3 env0 codeT ⟨201, 0, 201, 14⟩ BT0) = some (.next, sT tree_619 331 764 w os, codeT, ⟨208, 0, 277, 15⟩) := by kernel_rfl
theorem rF (w : World) (os : OsState) : topRun treeTable prg w 29 ann0 2 (sT tree_619 331 764 w os).abs ⟨doneF .next, codeT, ⟨208, 0, 277, 15⟩, BT0⟩ = some (sH heap_620 764 w os) := by
  rw [PySem.W.Fast.te14082659384304107361, PySem.W.Fast.te14364793385576792824]; kernel_rfl
theorem body_is : bodyT = (sts0 ++ (sts1 ++ (sts2 ++ (sts3 ++ [])))) := by kernel_rfl
theorem runs0 (w : World) (os : OsState) : topRun treeTable prg w 29 ann0 (173 + (1496 + (480 + (104 + 2)))) (sT tree_74 33 344 w os).abs (restOf (sts0 ++ (sts1 ++ (sts2 ++ (sts3 ++ [])))) env0 codeT ⟨0, 0, 0, 0⟩ BT0) = some (sH heap_620 764 w os) := piece_app (piS (g0 w os)) (piece_app (piS (g1 w os)) (piece_app (piS (g2 w os)) (piece_app (piS (g3 w os)) (piece_nil (rF w os)))))
theorem runs1 (w : World) (os : OsState) : topRun treeTable prg w 29 ann0 (173 + (1496 + (480 + (104 + 2)))) (sT tree_74 33 344 w os).abs (restOf bodyT env0 codeT ⟨0, 0, 0, 0⟩ BT0) = some (sH heap_620 764 w os) := (congrArg (fun l => topRun treeTable prg w 29 ann0 (173 + (1496 + (480 + (104 + 2)))) (sT tree_74 33 344 w os).abs (restOf l env0 codeT ⟨0, 0, 0, 0⟩ BT0)) body_is).trans (runs0 w os)
theorem runs (w : World) (os : OsState) : topRun treeTable prg w 29 ann0 (12 + (1 + (173 + (1496 + (480 + (104 + 2)))))) (sH heap_69 338 w os) (topStub prg) = some (sH heap_620 764 w os) := go_top (r0 w os) (piece_block (r1 w os) (runs1 w os))
/-! the looks -/
abbrev XT : Shared → Bool := fun s => xlAt viewP lvL s && recOk PySem.Challenge.rw_nc0017_01.row.toRowW.records s
theorem look1 (w : World) : (fun os : OsState => (staticsOk (importedModules prg.main.body) (heap_69 w.params) (heap_620 w.params) && namesBound prg (heap_620 w.params) && gensDone (sH heap_620 764 w os) && laidKept (heap_69 w.params) (heap_620 w.params))) = fun _ => true := by kernel_rfl
theorem look2 (w : World) : (fun os : OsState => openSeen viewP looseL (importedModules prg.main.body) XT true (sH heap_620 764 w os)) = fun _ => openGood viewP looseL := by
  rw [PySem.W.Fast.te4187177175401517315]; kernel_rfl
theorem look3 (w : World) : (fun os : OsState => HH.obs (sH heap_620 764 w os)) = fun _ => HH.val w := by kernel_rfl
theorem left : LeftO prg viewP looseL XT HH.obs HH.val 4850 :=
  LeftO.of_pieces (H₀ := heap_69) (H₁ := heap_620) (gs₀ := #[]) (gs₁ := #[]) (d₀ := {}) (d₁ := {}) (k₀ := 338) (k₁ := 764) (m₀ := 29) (ann := ann0) (M := 12 + (1 + (173 + (1496 + (480 + (104 + 2))))))
    (open_cut (M := (360 + (120 + (120 + (120 + (40 + (40 + (40 + (120 + (70 + 1)))))))))) (He := fun P => absHeap (tree_695 P) 29 {}) (ge := #[]) (de := {}) (ke := 338) opens (by kernel_rfl) fence) sizes runs (by kernel_rfl)
    (fun w => funext fun os => Prod.ext (congrFun (look1 w) os) (Prod.ext (congrFun (look2 w) os) (congrFun (look3 w) os)))
/-! the law -/
def theD : Option (DefRec × List (Str × Expr)) := defOf viewP PySem.Challenge.rw_nc0017_01.row.name
def theDef : DefRec := match theD with | some d => d.1 | none => ⟨"", prm none, [], scp none, ⟨0, 0, 0, 0⟩⟩
theorem theD_is : defOf viewP PySem.Challenge.rw_nc0017_01.row.name = some (theDef, []) := by kernel_rfl
theorem said0 : PySem.Challenge.rw_nc0017_01.wellSaid = true := by rw [PySem.W.Fast.te9446332074065402090]; kernel_rfl
theorem hk1 : PySem.Challenge.rw_nc0017_01.row.prog.theDef PySem.Challenge.rw_nc0017_01.row.name = some (theDef.params, theDef.body, theDef.scope) := by kernel_rfl
theorem hk2 : kwWritten? theDef.params.kwonlyargs theDef.params.kw_defaults = some [] := by kernel_rfl
theorem hk3 : (!PySem.Challenge.rw_nc0017_01.row.writes || PySem.Challenge.rw_nc0017_01.row.records.isEmpty) = true := by kernel_rfl
theorem hk4 : (chainsOk viewP && opensWell PySem.Challenge.rw_nc0017_01.row.prog && (frees PySem.Challenge.rw_nc0017_01.row.toRowW && PySem.Challenge.rw_nc0017_01.row.within.isEmpty)) = true := by kernel_rfl
theorem hk5 : PySem.Challenge.rw_nc0017_01.row.prog.bare := ⟨rfl, rfl, rfl, rfl, rfl, by decide +kernel⟩
theorem hk6 : PySem.Challenge.rw_nc0017_01.row.toRowW.promised := by w_witness2
theorem hd (h : WalkO viewP looseL (XL viewP lvL) HH.says PySem.Challenge.rw_nc0017_01.row.toRowW theDef [] fun f vs => PySem.call f vs) : PySem.Challenge.rw_nc0017_01.Holds :=
  holds_law said0 fun said => holds_open (q := viewP) (loose := looseL) (Xt := XT) (XP := XL viewP lvL) (Yf := HH.obs) (Ya := HH.val) (YP := HH.says) (N := 4850) left HH.of HH.keeps
    (fun s e => xl_of s (Bool.and_eq_true_iff.mp e).1) XL.keeps theD_is hk1 hk2 (fun s e => recFacts_of (Bool.and_eq_true_iff.mp e).2) hk3 said hk4 hk5 hk6 h
end Mine
end
section
open PySem PySem.W PyProof.Rows
set_option Elab.async false
set_option maxRecDepth 100000
set_option linter.unusedVariables false
namespace Mine

/-- a frozen part of the heap -/
abbrev Zp := Addr → Option Obj
def Zp.Le (Z Z' : Zp) : Prop := ∀ a o, Z a = some o → Z' a = some o
def Zp.In (Z : Zp) (h : Heap) : Prop := ∀ a o, Z a = some o → h.get? a = some o
theorem Zp.Le.refl (Z : Zp) : Z.Le Z := fun _ _ e => e
theorem Zp.Le.trans {Z Z' Z'' : Zp} (x : Z.Le Z') (y : Z'.Le Z'') : Z.Le Z'' := fun a o e => y a o (x a o e)
def Zp.set (Z : Zp) (a : Addr) (o : Obj) : Zp := fun b => if b = a then some o else Z b
theorem Zp.set_self (Z : Zp) (a : Addr) (o : Obj) : (Z.set a o) a = some o := if_pos rfl
theorem Zp.set_ne (Z : Zp) {a b : Addr} (o : Obj) (h : b ≠ a) : (Z.set a o) b = Z b := if_neg h
theorem Zp.le_set {Z : Zp} {a : Addr} (o : Obj) (h : Z a = none) : Z.Le (Z.set a o) := fun b x e => by
  by_cases hb : b = a
  · subst hb; rw [h] at e; cases e
  · rw [Zp.set_ne _ _ hb]; exact e
/-- what the call owns and may write -/
abbrev Own := List (Addr × Obj)
def No : Value → Shared → Prop := fun _ _ => False

structure AV where
  P : Zp → Value → Prop
  mono : ∀ {Z Z' : Zp} {v : Value}, Z.Le Z' → P Z v → P Z' v
abbrev Loc := List (String × AV)

/-- the ground of a law: what stands when its call begins -/
structure Gd where
  prog : Program
  w : World
  K : Frag
  T : Heap
  mg : Str → Option Value
  mb : Str → Option Value
  p : Program
  loose : List Str
  X : K.In T
  R : TopRead p loose mg mb T
abbrev Gd.M (g : Gd) : Model := model g.prog g.w

def Room (A : Around) (k : Nat) : Prop := A.handled = none ∧ A.depth + k < recursionLimit ∧ A.units + 16 * k < cLine
theorem Room.le {A : Around} {k k' : Nat} (x : Room A k) (h : k' ≤ k) : Room A k' := ⟨x.1, by have := x.2.1; omega, by have := x.2.2; omega⟩
theorem Room.in1 {A : Around} {k : Nat} (x : Room A (k + 1)) : Room A.in1 k := ⟨x.1, by rw [depth_in1]; have := x.2.1; omega, by rw [units_in1]; have := x.2.2; omega⟩
theorem Room.deeper {A : Around} {k : Nat} {env : Env} (x : Room A (k + 1)) : Room (A.deeper env) k :=
  ⟨x.1, by rw [depth_deeper]; have := x.2.1; omega, by rw [units_deeper]; have := x.2.2; omega⟩
theorem Room.units {A : Around} {k : Nat} (x : Room A k) : A.units < cLine := by have := x.2.2; omega
theorem Room.depth {A : Around} {k : Nat} (x : Room A k) : A.depth < recursionLimit := by have := x.2.1; omega

/-- from s, with Z frozen and O owned, to s' -/
structure Step (Z : Zp) (O : Own) (s s' : Shared) (Z' : Zp) (O' : Own) : Prop where
  le : Z.Le Z'
  zin : Z'.In s'.heap
  keep : ∀ a o, s.heap.get? a = some o → (∀ p ∈ O, p.1 ≠ a) → s'.heap.get? a = some o
  new : ∀ a o, Z' a = some o → Z a = none → s.heap.get? a = none ∨ ∃ p ∈ O, p.1 = a
  own : ∀ p ∈ O', s'.heap.get? p.1 = some p.2 ∧ Z' p.1 = none ∧ (s.heap.get? p.1 = none ∨ ∃ q ∈ O, q.1 = p.1)
  nod : (O'.map Prod.fst).Nodup
  gens : s'.gens = s.gens
  os : s'.os = s.os

structure Ok (g : Gd) (Z : Zp) (O : Own) (s : Shared) : Prop where
  tz : ∀ a o, g.T.get? a = some o → Z a = some o
  zin : Z.In s.heap
  own : ∀ p ∈ O, s.heap.get? p.1 = some p.2 ∧ Z p.1 = none
  nod : (O.map Prod.fst).Nodup

theorem Ok.T_in {g : Gd} {Z : Zp} {O : Own} {s : Shared} (x : Ok g Z O s) : ∀ a o, g.T.get? a = some o → s.heap.get? a = some o := fun a o e => x.zin a o (x.tz a o e)
theorem Ok.K_in {g : Gd} {Z : Zp} {O : Own} {s : Shared} (x : Ok g Z O s) : g.K.In s.heap := g.X.keeps x.T_in
theorem Ok.top {g : Gd} {Z : Zp} {O : Own} {s : Shared} (x : Ok g Z O s) : TopRead g.p g.loose g.mg g.mb s.heap := g.R.keeps x.T_in

theorem Step.refl {g : Gd} {Z : Zp} {O : Own} {s : Shared} (x : Ok g Z O s) {t : Nat} : Step Z O s { s with toks := t } Z O where
  le := .refl _
  zin := x.zin
  keep := fun _ _ e _ => e
  new := fun a o e e' => by rw [e] at e'; cases e'
  own := fun p hp => ⟨(x.own p hp).1, (x.own p hp).2, .inr ⟨p, hp, rfl⟩⟩
  nod := x.nod
  gens := rfl
  os := rfl
theorem Step.ok {g : Gd} {Z Z' : Zp} {O O' : Own} {s s' : Shared} (x : Ok g Z O s) (h : Step Z O s s' Z' O') : Ok g Z' O' s' :=
  ⟨fun a o e => h.le a o (x.tz a o e), h.zin, fun p hp => ⟨(h.own p hp).1, (h.own p hp).2.1⟩, h.nod⟩
theorem Step.trans {Z Z' Z'' : Zp} {O O' O'' : Own} {s s' s'' : Shared} (x : Step Z O s s' Z' O') (y : Step Z' O' s' s'' Z'' O'') : Step Z O s s'' Z'' O'' where
  le := x.le.trans y.le
  zin := y.zin
  keep := fun a o e hp => y.keep a o (x.keep a o e hp) fun p hp' e' => by
    rcases (x.own p hp').2.2 with h | ⟨q, hq, h⟩
    · rw [e', e] at h; cases h
    · exact hp q hq (h.trans e')
  new := fun a o e e0 => by
    cases hz : Z' a with
    | some o' => exact x.new a o' hz e0
    | none =>
      rcases y.new a o e hz with h | ⟨q, hq, h⟩
      · refine Classical.byCases (fun hn : s.heap.get? a = none => .inl hn) fun hn => .inr ?_
        obtain ⟨oa, hoa⟩ := Option.ne_none_iff_exists'.mp hn
        refine Classical.byContradiction fun hc => ?_
        have := x.keep a oa hoa fun p hp e' => hc ⟨p, hp, e'⟩
        rw [h] at this; cases this
      · rcases (x.own q hq).2.2 with h' | h'
        · exact .inl (h ▸ h')
        · exact .inr (h ▸ h')
  own := fun p hp => by
    obtain ⟨a, b, c⟩ := y.own p hp
    refine ⟨a, b, ?_⟩
    rcases c with h | ⟨q, hq, h⟩
    · refine Classical.byCases (fun hn : s.heap.get? p.1 = none => .inl hn) fun hn => .inr ?_
      obtain ⟨oa, hoa⟩ := Option.ne_none_iff_exists'.mp hn
      refine Classical.byContradiction fun hc => ?_
      have := x.keep p.1 oa hoa fun p' hp' e' => hc ⟨p', hp', e'⟩
      rw [h] at this; cases this
    · rcases (x.own q hq).2.2 with h' | h'
      · exact .inl (h ▸ h')
      · exact .inr (h ▸ h')
  nod := y.nod
  gens := y.gens.trans x.gens
  os := y.os.trans x.os

/-- the contract of a tree, in any frame: k levels of room, Z frozen, O owned -/
def Con {α : Type} (g : Gd) (k : Nat) (Z : Zp) (O : Own) (t : Sem α) (P : Zp → Own → α → Prop) : Prop :=
  ∀ (A : Around) (s : Shared) (Q : α → Shared → Prop), Room A k → Ok g Z O s →
    (∀ v s' Z' O', Step Z O s s' Z' O' → P Z' O' v → Q v s') → wpAny g.M A t Q No s
/-- an end that owns nothing -/
abbrev pur (P : AV) : Zp → Own → Value → Prop := fun Z O v => O = [] ∧ P.P Z v

section
variable {α β : Type} {g : Gd} {k : Nat} {Z : Zp} {O : Own}
theorem Con.mono {t : Sem α} {P P' : Zp → Own → α → Prop} (h : Con g k Z O t P) (hP : ∀ Z' O' v, Z.Le Z' → P Z' O' v → P' Z' O' v) : Con g k Z O t P' :=
  fun A s Q hr ok hq => h A s Q hr ok fun v s' Z' O' st p => hq v s' Z' O' st (hP Z' O' v st.le p)
theorem Con.room {k' : Nat} {t : Sem α} {P : Zp → Own → α → Prop} (h : Con g k Z O t P) (hk : k ≤ k') : Con g k' Z O t P :=
  fun A s Q hr ok hq => h A s Q (hr.le hk) ok hq
end

/-- one object more, frozen -/
theorem Step.push {g : Gd} {Z : Zp} {O : Own} {s : Shared} (x : Ok g Z O s) (o : Obj) (t : Nat) (hf : o.isFreed = false := by rfl) :
    Step Z O s { s with heap := s.heap.push o, toks := t } (Z.set s.heap.objs.size o) O where
  le := Zp.le_set o (by
    cases hz : Z s.heap.objs.size with
    | none => rfl
    | some o' => exact absurd (Heap.lt_size (x.zin _ _ hz)) (Nat.lt_irrefl _))
  zin := fun a o' e => by
    by_cases ha : a = s.heap.objs.size
    · subst ha; rw [Zp.set_self] at e; cases e; exact Heap.get?_push_size _ hf
    · rw [Zp.set_ne _ _ ha] at e; exact Heap.get?_push_of_some _ (x.zin a o' e)
  keep := fun a o' e _ => Heap.get?_push_of_some _ e
  new := fun a o' e e0 => by
    by_cases ha : a = s.heap.objs.size
    · left
      cases hz : s.heap.get? a with
      | none => rfl
      | some o'' => exact absurd (Heap.lt_size hz) (ha ▸ Nat.lt_irrefl _)
    · rw [Zp.set_ne _ _ ha, e0] at e; cases e
  own := fun p hp => by
    have h1 := (x.own p hp).1
    refine ⟨Heap.get?_push_of_some _ h1, ?_, .inr ⟨p, hp, rfl⟩⟩
    rw [Zp.set_ne _ _ (Nat.ne_of_lt (Heap.lt_size h1))]; exact (x.own p hp).2
  nod := x.nod
  gens := rfl
  os := rfl
/-- one object more, owned -/
theorem Step.pushO {g : Gd} {Z : Zp} {O : Own} {s : Shared} (x : Ok g Z O s) (o : Obj) (t : Nat) (hf : o.isFreed = false := by rfl) :
    Step Z O s { s with heap := s.heap.push o, toks := t } Z ((s.heap.objs.size, o) :: O) where
  le := .refl _
  zin := fun a o' e => Heap.get?_push_of_some _ (x.zin a o' e)
  keep := fun a o' e _ => Heap.get?_push_of_some _ e
  new := fun a o' e e0 => by rw [e] at e0; cases e0
  own := fun p hp => by
    rcases List.mem_cons.mp hp with rfl | hp
    · refine ⟨Heap.get?_push_size _ hf, ?_, .inl ?_⟩
      · cases hz : Z s.heap.objs.size with
        | none => rfl
        | some o' => exact absurd (Heap.lt_size (x.zin _ _ hz)) (Nat.lt_irrefl _)
      · show s.heap.get? s.heap.objs.size = none
        cases hz : s.heap.get? s.heap.objs.size with
        | none => rfl
        | some o' => exact absurd (Heap.lt_size hz) (Nat.lt_irrefl _)
    · exact ⟨Heap.get?_push_of_some _ (x.own p hp).1, (x.own p hp).2, .inr ⟨p, hp, rfl⟩⟩
  nod := by
    rw [List.map_cons, List.nodup_cons]
    refine ⟨fun h => ?_, x.nod⟩
    obtain ⟨p, hp, e⟩ := List.mem_map.mp h
    exact absurd (Heap.lt_size (x.own p hp).1) (by rw [e]; exact Nat.lt_irrefl _)
  gens := rfl
  os := rfl
/-- an owned object written -/
theorem Step.write {g : Gd} {Z : Zp} {a : Addr} {o o' : Obj} {O : Own} {s : Shared} (x : Ok g Z ((a, o) :: O) s) {h' : Heap} (t : Nat) (hs : Heap.SameBut a s.heap h') (ho : h'.get? a = some o') :
    Step Z ((a, o) :: O) s { s with heap := h', toks := t } Z ((a, o') :: O) where
  le := .refl _
  zin := fun b ob e => by
    refine (hs.2 b ?_).trans (x.zin b ob e)
    rintro rfl
    have := (x.own (b, o) (.head _)).2
    rw [e] at this; cases this
  keep := fun b ob e hb => (hs.2 b fun e' => hb (a, o) (.head _) e'.symm).trans e
  new := fun b ob e e0 => by rw [e] at e0; cases e0
  own := fun p hp => by
    rcases List.mem_cons.mp hp with rfl | hp
    · exact ⟨ho, (x.own (a, o) (.head _)).2, .inr ⟨(a, o), .head _, rfl⟩⟩
    · have hne : p.1 ≠ a := fun e => by
        have := x.nod
        rw [List.map_cons, List.nodup_cons] at this
        exact this.1 (List.mem_map.mpr ⟨p, hp, e⟩)
      exact ⟨(hs.2 p.1 hne).trans (x.own p (.tail _ hp)).1, (x.own p (.tail _ hp)).2, .inr ⟨p, .tail _ hp, rfl⟩⟩
  nod := x.nod
  gens := rfl
  os := rfl
/-- an owned object frozen -/
theorem Step.freeze {g : Gd} {Z : Zp} {a : Addr} {o : Obj} {O : Own} {s : Shared} (x : Ok g Z ((a, o) :: O) s) : Step Z ((a, o) :: O) s s (Z.set a o) O where
  le := Zp.le_set o (x.own (a, o) (.head _)).2
  zin := fun b ob e => by
    by_cases hb : b = a
    · subst hb; rw [Zp.set_self] at e; cases e; exact (x.own (b, o) (.head _)).1
    · rw [Zp.set_ne _ _ hb] at e; exact x.zin b ob e
  keep := fun _ _ e _ => e
  new := fun b ob e e0 => by
    by_cases hb : b = a
    · exact .inr ⟨(a, o), .head _, hb.symm⟩
    · rw [Zp.set_ne _ _ hb, e0] at e; cases e
  own := fun p hp => by
    have hne : p.1 ≠ a := fun e => by
      have := x.nod
      rw [List.map_cons, List.nodup_cons] at this
      exact this.1 (List.mem_map.mpr ⟨p, hp, e⟩)
    exact ⟨(x.own p (.tail _ hp)).1, by rw [Zp.set_ne _ _ hne]; exact (x.own p (.tail _ hp)).2, .inr ⟨p, .tail _ hp, rfl⟩⟩
  nod := by
    have := x.nod
    rw [List.map_cons, List.nodup_cons] at this
    exact this.2
  gens := rfl
  os := rfl
/-- the owned in another order -/
theorem Step.perm {g : Gd} {Z : Zp} {O O' : Own} {s : Shared} (x : Ok g Z O s) (h : O.Perm O') : Step Z O s s Z O' where
  le := .refl _
  zin := x.zin
  keep := fun _ _ e _ => e
  new := fun a o e e' => by rw [e] at e'; cases e'
  own := fun p hp => ⟨(x.own p (h.mem_iff.mpr hp)).1, (x.own p (h.mem_iff.mpr hp)).2, .inr ⟨p, h.mem_iff.mpr hp, rfl⟩⟩
  nod := (h.map Prod.fst).nodup_iff.mp x.nod
  gens := rfl
  os := rfl
/-- something owned is let go -/
theorem Step.drop {g : Gd} {Z : Zp} {O O' : Own} {s : Shared} (x : Ok g Z O s) (h : O'.Sublist O) : Step Z O s s Z O' where
  le := .refl _
  zin := x.zin
  keep := fun _ _ e _ => e
  new := fun a o e e' => by rw [e] at e'; cases e'
  own := fun p hp => ⟨(x.own p (h.subset hp)).1, (x.own p (h.subset hp)).2, .inr ⟨p, h.subset hp, rfl⟩⟩
  nod := (h.map Prod.fst).nodup x.nod
  gens := rfl
  os := rfl
/-- a step beside which something else is owned -/
theorem Step.beside {g : Gd} {Z Z' : Zp} {O O' R : Own} {s s' : Shared} (x : Ok g Z (O ++ R) s) (h : Step Z O s s' Z' O') : Step Z (O ++ R) s s' Z' (O' ++ R) := by
  have hne : ∀ p ∈ R, ∀ q ∈ O, q.1 ≠ p.1 := fun p hp q hq e => by
    have := x.nod
    rw [List.map_append, List.nodup_append] at this
    exact this.2.2 q.1 (List.mem_map_of_mem hq) p.1 (List.mem_map_of_mem hp) e
  have hz : ∀ p ∈ R, Z' p.1 = none := fun p hp => by
    cases hq : Z' p.1 with
    | none => rfl
    | some o =>
      rcases h.new p.1 o hq (x.own p (List.mem_append_right _ hp)).2 with h' | ⟨q, hq', e⟩
      · rw [(x.own p (List.mem_append_right _ hp)).1] at h'; cases h'
      · exact absurd e (hne p hp q hq')
  refine ⟨h.le, h.zin, fun a o e hp => h.keep a o e fun p hp' => hp p (List.mem_append_left _ hp'), fun a o e e0 => ?_, fun p hp => ?_, ?_, h.gens, h.os⟩
  · exact (h.new a o e e0).imp id fun ⟨p, hp, e⟩ => ⟨p, List.mem_append_left _ hp, e⟩
  · rcases List.mem_append.mp hp with hp | hp
    · obtain ⟨a, b, c⟩ := h.own p hp
      exact ⟨a, b, c.imp id fun ⟨q, hq, e⟩ => ⟨q, List.mem_append_left _ hq, e⟩⟩
    · exact ⟨h.keep p.1 p.2 (x.own p (List.mem_append_right _ hp)).1 (hne p hp), hz p hp, .inr ⟨p, List.mem_append_right _ hp, rfl⟩⟩
  · rw [List.map_append, List.nodup_append]
    have hn := x.nod
    rw [List.map_append, List.nodup_append] at hn
    refine ⟨h.nod, hn.2.1, fun a ha b hb e => ?_⟩
    obtain ⟨p, hp, rfl⟩ := List.mem_map.mp ha
    obtain ⟨q, hq, rfl⟩ := List.mem_map.mp hb
    rcases (h.own p hp).2.2 with h' | ⟨q', hq', e'⟩
    · rw [e, (x.own q (List.mem_append_right _ hq)).1] at h'; cases h'
    · exact hne q hq q' hq' (e'.trans e)
theorem Ok.left {g : Gd} {Z : Zp} {O R : Own} {s : Shared} (x : Ok g Z (O ++ R) s) : Ok g Z O s :=
  ⟨x.tz, x.zin, fun p hp => x.own p (List.mem_append_left _ hp), by have := x.nod; rw [List.map_append, List.nodup_append] at this; exact this.1⟩
theorem Con.beside {α : Type} {g : Gd} {k : Nat} {Z : Zp} {O R : Own} {t : Sem α} {P : Zp → Own → α → Prop} (h : Con g k Z O t P) :
    Con g k Z (O ++ R) t (fun Z' O' v => ∃ O₁, O' = O₁ ++ R ∧ P Z' O₁ v) :=
  fun A s Q hr ok hq => h A s Q hr ok.left fun v s' Z' O' st p => hq v s' Z' (O' ++ R) (st.beside ok) ⟨O', rfl, p⟩
theorem Con.pur_beside {g : Gd} {k : Nat} {Z : Zp} {R : Own} {t : Sem Value} {P : AV} (h : Con g k Z [] t (pur P)) : Con g k Z R t (fun Z' O' v => O' = R ∧ P.P Z' v) :=
  (Con.beside (R := R) h).mono fun _ _ _ _ ⟨_, e, e1, p⟩ => ⟨by rw [e, e1]; rfl, p⟩
theorem Con.perm {α : Type} {g : Gd} {k : Nat} {Z : Zp} {O O₁ : Own} {t : Sem α} {P : Zp → Own → α → Prop} (hp : O.Perm O₁) (h : Con g k Z O₁ t P) : Con g k Z O t P := fun A s Q hr ok hq =>
  let st := Step.perm ok hp
  h A s Q hr (st.ok ok) fun v s' Z' O' st' p => hq v s' Z' O' (st.trans st') p
end Mine
end
section
open PySem PySem.W PyProof.Rows
set_option Elab.async false
set_option maxRecDepth 100000
set_option linter.unusedVariables false
namespace Mine

/-- a frame of the text's own -/
structure Frm where
  name : Str
  scope : Scope
  L : Addr
  f : Addr
  cd : Value
  cells : List (Str × Addr)
  A : Around
  k : Nat
  Z₀ : Zp
  gens : Array GenState
  os : OsState
  fo : Option Addr := some f
  F : Addr := L
abbrev Frm.env (r : Frm) : Env := { scope := r.scope, locals := r.L, globals := mainGlobals, cells := r.cells, qual := r.name ++ ".<locals>.", func := r.fo, code := r.cd, frame := some r.F, builtins := builtinsNs }
def Rd (r : Frm) (m : Str → Option Value) (Z : Zp) (x : Str) (v : Value) : Prop :=
  (r.env.kindOf x = some .local ∧ m x = some v) ∨ ((r.env.kindOf x = some .cell ∨ (r.env.kindOf x = some .free ∧ (x == ("__classdict__" : Str)) = false)) ∧ ∃ c o, r.cells.lookup x = some c ∧ Z c = some o ∧ o.data = .cell (some v))
theorem Rd.mono {r : Frm} {m : Str → Option Value} {Z Z' : Zp} {x : Str} {v : Value} (h : Z.Le Z') : Rd r m Z x v → Rd r m Z' x v
  | .inl a => .inl a
  | .inr ⟨a, c, o, b, e, d⟩ => .inr ⟨a, c, o, b, h c o e, d⟩

structure Sta (g : Gd) (r : Frm) (B : Zp) (s : Shared) (ρ : Loc) (Z : Zp) (O : Own) : Prop where
  loc : ∃ m, s.heap.Ns r.L m ∧ ∀ x av, (x, av) ∈ ρ → ∃ v, Rd r m Z (Str.ofString x) v ∧ av.P Z v
  hk : r.scope.kind = .function
  room : Room r.A r.k
  zin : Z.In s.heap
  tz : ∀ a o, g.T.get? a = some o → Z a = some o
  zL : Z r.L = none
  bin : B.In s.heap
  bL : B r.L = none
  new : ∀ a o, Z a = some o → B a ≠ none → r.Z₀ a ≠ none
  z0 : r.Z₀.Le Z
  own : ∀ p ∈ O, s.heap.get? p.1 = some p.2 ∧ Z p.1 = none ∧ B p.1 = none ∧ p.1 ≠ r.L
  nod : (O.map Prod.fst).Nodup
  gens : s.gens = r.gens
  os : s.os = r.os
section
variable {g : Gd} {r : Frm} {B : Zp} {s s' : Shared} {ρ : Loc} {Z Z' : Zp} {O O' : Own}
theorem Sta.ok (x : Sta g r B s ρ Z O) : Ok g Z O s := ⟨x.tz, x.zin, fun p hp => ⟨(x.own p hp).1, (x.own p hp).2.1⟩, x.nod⟩
theorem Sta.step (x : Sta g r B s ρ Z O) (h : Step Z O s s' Z' O') : Sta g r B s' ρ Z' O' where
  loc := by
    obtain ⟨m, ⟨o, es, ep, ho, rest⟩, hl⟩ := x.loc
    refine ⟨m, ⟨o, es, ep, h.keep _ _ ho fun p hp => (x.own p hp).2.2.2, rest⟩, fun y av hy => ?_⟩
    obtain ⟨v, hv, hp⟩ := hl y av hy
    exact ⟨v, hv.mono h.le, av.mono h.le hp⟩
  hk := x.hk
  room := x.room
  zin := h.zin
  tz := fun a o e => h.le a o (x.tz a o e)
  zL := by
    obtain ⟨m, ⟨o, es, ep, ho, rest⟩, hl⟩ := x.loc
    cases hz : Z' r.L with
    | none => rfl
    | some o' =>
      rcases h.new _ _ hz x.zL with h' | ⟨p, hp, e⟩
      · rw [ho] at h'; cases h'
      · exact absurd e (x.own p hp).2.2.2
  bin := fun a o e => h.keep a o (x.bin a o e) fun p hp e' => by
    have := (x.own p hp).2.2.1
    rw [e', e] at this; cases this
  bL := x.bL
  new := fun a o e hb => by
    cases hz : Z a with
    | some o' => exact x.new a o' hz hb
    | none =>
      obtain ⟨ob, hob⟩ := Option.ne_none_iff_exists'.mp hb
      rcases h.new a o e hz with h' | ⟨p, hp, e'⟩
      · rw [x.bin a ob hob] at h'; cases h'
      · have := (x.own p hp).2.2.1
        rw [e', hob] at this; cases this
  z0 := x.z0.trans h.le
  own := fun p hp => by
    obtain ⟨a, b, c⟩ := h.own p hp
    refine ⟨a, b, ?_⟩
    rcases c with c | ⟨q, hq, e⟩
    · constructor
      · cases hb : B p.1 with
        | none => rfl
        | some ob => rw [x.bin _ _ hb] at c; cases c
      · intro e
        obtain ⟨m, ⟨o, es, ep, ho, rest⟩, hl⟩ := x.loc
        rw [e, ho] at c; cases c
    · rw [← e]; exact (x.own q hq).2.2
  nod := h.nod
  gens := h.gens.trans x.gens
  os := h.os.trans x.os
theorem Sta.less {ρ' : Loc} (x : Sta g r B s ρ Z O) (h : ∀ p ∈ ρ', p ∈ ρ) : Sta g r B s ρ' Z O :=
  { x with loc := let ⟨m, a, b⟩ := x.loc; ⟨m, a, fun y av hy => b y av (h _ hy)⟩ }
theorem Sta.toks (x : Sta g r B s ρ Z O) (t : Nat) : Sta g r B { s with toks := t } ρ Z O := x.step (Step.refl x.ok (t := t))
end

/-- a tree in a frame -/
def Op {α : Type} (g : Gd) (r : Frm) (ρ : Loc) (Z : Zp) (O : Own) (t : Sem α) (P : Zp → Own → α → Prop) : Prop :=
  ∀ B Z₁ s (Q : α → Shared → Prop), Z.Le Z₁ → Sta g r B s ρ Z₁ O → (∀ v s' Z' O', Z₁.Le Z' → Sta g r B s' ρ Z' O' → P Z' O' v → Q v s') → wpAny g.M r.A t Q No s
/-- an expression whose value is told by P; what is owned stays -/
abbrev Ev (g : Gd) (r : Frm) (ρ : Loc) (Z : Zp) (O : Own) (e : Expr) (P : AV) : Prop := Op g r ρ Z O (eval e r.env) (fun Z' O' v => O' = O ∧ P.P Z' v)

section
variable {α β : Type} {g : Gd} {r : Frm} {ρ : Loc} {Z : Zp} {O : Own}
theorem Op.of_con {t : Sem α} {P : Zp → Own → α → Prop} (h : ∀ Z₁, Z.Le Z₁ → Con g r.k Z₁ O t P) : Op g r ρ Z O t P :=
  fun B Z₁ s Q hz x hq => h Z₁ hz r.A s Q x.room x.ok fun v s' Z' O' st p => hq v s' Z' O' st.le (x.step st) p
theorem Op.mono {t : Sem α} {P P' : Zp → Own → α → Prop} (h : Op g r ρ Z O t P) (hP : ∀ Z' O' v, Z.Le Z' → P Z' O' v → P' Z' O' v) : Op g r ρ Z O t P' :=
  fun B Z₁ s Q hz x hq => h B Z₁ s Q hz x fun v s' Z' O' hz' x' p => hq v s' Z' O' hz' x' (hP Z' O' v (hz.trans hz') p)
theorem Op.le {Z' : Zp} {t : Sem α} {P : Zp → Own → α → Prop} (h : Op g r ρ Z O t P) (hz : Z.Le Z') : Op g r ρ Z' O t P :=
  fun B Z₁ s Q hz' x hq => h B Z₁ s Q (hz.trans hz') x hq
end

/-! values -/
def aVal (v : Value) : AV := ⟨fun _ x => x = v, fun _ h => h⟩
def aInt (i : Int) : AV := ⟨fun _ x => ∃ t, x = .int i t, fun _ h => h⟩
def aBool (b : Bool) : AV := ⟨fun _ x => x = .bool b, fun _ h => h⟩
def aNone : AV := ⟨fun _ x => x = .none, fun _ h => h⟩
def aAny : AV := ⟨fun _ _ => True, fun _ h => h⟩

section
variable {g : Gd} {r : Frm} {ρ : Loc} {Z : Zp} {O : Own}
theorem Ev.mono {e : Expr} {P P' : AV} (h : Ev g r ρ Z O e P) (hP : ∀ Z' v, Z.Le Z' → P.P Z' v → P'.P Z' v) : Ev g r ρ Z O e P' :=
  Op.mono h fun Z' _ v hz p => ⟨p.1, hP Z' v hz p.2⟩

theorem Ev.name {x : String} {av : AV} {pos : Pos} (h : (x, av) ∈ ρ) (hd : (Str.ofString x == ("__debug__" : Str)) = false := by decide) : Ev g r ρ Z O (.Name (Str.ofString x) pos) av := by
  intro B Z₁ s Q hz st hq
  obtain ⟨m, hn, hl⟩ := st.loc
  obtain ⟨v, hv, hp⟩ := hl x av h
  have fin := hq v s Z₁ O (.refl _) st ⟨rfl, hp⟩
  rcases hv with ⟨hk, hm⟩ | ⟨hk | ⟨hk, hcd⟩, c, o, hc, ho, hdat⟩
  · exact wpAny_Name (wpAny_loadName_local st.hk hk hn hm fin) hd
  · exact wpAny_Name (wpAny_loadName_cell st.hk hk hc ⟨o, st.zin c o ho, hdat⟩ fin) hd
  · exact wpAny_Name (wpAny_loadName_free st.hk hk hc ⟨o, st.zin c o ho, hdat⟩ fin hcd) hd
/-- a name of the text's top -/
theorem Ev.glob {K : Frag} {x : Str} {v : Value} {pos : Pos} (hK : g.K = K) (e : nsIn K mainGlobals x = some (some v)) (hx : r.env.kindOf x = some .globalImplicit := by rfl)
    (hd : (x == ("__debug__" : Str)) = false := by decide) : Ev g r ρ Z O (.Name x pos) (aVal v) := by
  subst hK
  intro B Z₁ s Q hz st hq
  exact Calls.Name_function_global st.hk hx (Calls.loadGlobal_global (env := r.env) st.ok.top.g (mg_of g.X g.R.g e) (hq v s Z₁ O (.refl _) st ⟨rfl, rfl⟩)) hd
theorem Ev.boot {K : Frag} {x : Str} {v : Value} {pos : Pos} (hK : g.K = K) (e : nsIn K mainGlobals x = some none) (hv : bootBuiltins x = some v) (hn : x ≠ "__name__" := by decide) (hx : r.env.kindOf x = some .globalImplicit := by rfl)
    (hd : (x == ("__debug__" : Str)) = false := by decide) : Ev g r ρ Z O (.Name x pos) (aVal v) := by
  subst hK
  intro B Z₁ s Q hz st hq
  exact Calls.Name_function_global st.hk hx (Calls.loadGlobal_builtin (env := r.env) st.ok.top.g (mg_none_of g.X g.R.g e) st.ok.top.b ((g.R.builtins x hn).trans hv) (hq v s Z₁ O (.refl _) st ⟨rfl, rfl⟩)) hd
theorem Ev.int {i : Int} {k : Nat} {pos : Pos} : Ev g r ρ Z O (.Constant (.int i) k pos) (aInt i) :=
  fun B Z₁ s _ _ st hq => wpAny_Constant_int (hq _ _ Z₁ O (.refl _) (st.toks _) ⟨rfl, _, rfl⟩)
theorem Ev.bool {b : Bool} {k : Nat} {pos : Pos} : Ev g r ρ Z O (.Constant (.bool b) k pos) (aBool b) :=
  fun B Z₁ s _ _ st hq => wpAny_Constant_bool (hq _ _ Z₁ O (.refl _) st ⟨rfl, rfl⟩)
theorem Ev.none {k : Nat} {pos : Pos} : Ev g r ρ Z O (.Constant .none k pos) aNone :=
  fun B Z₁ s _ _ st hq => wpAny_Constant_none (hq _ _ Z₁ O (.refl _) st ⟨rfl, rfl⟩)

/-- a two-place operation -/
def BinR (g : Gd) (k : Nat) (op : Operator) (a b c : AV) : Prop := ∀ Z x y, a.P Z x → b.P Z y → Con g k Z [] (binaryOp op x y) (pur c)
def CmpR (g : Gd) (k : Nat) (op : CmpOp) (a b c : AV) : Prop := ∀ Z x y, a.P Z x → b.P Z y → Con g k Z [] (compareOp op x y) (pur c)
theorem Ev.bin {l rr : Expr} {op : Operator} {pos : Pos} {a b c : AV} (h1 : Ev g r ρ Z O l a) (h2 : Ev g r ρ Z O rr b) (h3 : BinR g r.k op a b c) : Ev g r ρ Z O (.BinOp l op rr pos) c := by
  intro B Z₁ s Q hz st hq
  refine wpAny_BinOp (h1 B Z₁ s _ hz st fun v s' Z' O' hz' st' ⟨e, p⟩ => ?_)
  subst e
  refine h2 B Z' s' _ (hz.trans hz') st' fun v2 s2 Z2 O2 hz2 st2 ⟨e, p2⟩ => ?_
  subst e
  exact Op.of_con (ρ := ρ) (fun Z₃ hz3 => Con.pur_beside (h3 Z₃ v v2 (a.mono (hz2.trans hz3) p) (b.mono hz3 p2))) B Z2 s2 Q (.refl _) st2 fun v' s'' Z'' O'' hz'' st'' p' => hq v' s'' Z'' O'' (hz'.trans (hz2.trans hz'')) st'' p'
/-- a test -/
abbrev Tst (g : Gd) (r : Frm) (ρ : Loc) (Z : Zp) (O : Own) (e : Expr) (b : Bool) : Prop := Op g r ρ Z O (isTrue e r.env (eval e r.env)) (fun _ O' v => O' = O ∧ v = b)
def TruR (g : Gd) (k : Nat) (a : AV) (b : Bool) : Prop := ∀ Z x, a.P Z x → Con g k Z [] (truthy x) (fun _ O v => O = [] ∧ v = b)
theorem TruR.bool {k : Nat} {b : Bool} : TruR g k (aBool b) b := fun Z x h => by
  obtain rfl : x = .bool b := h
  exact fun A s Q _ ok hq => wpAny_truthy_bool (hq b s Z [] (Step.refl ok (t := s.toks)) ⟨rfl, rfl⟩)
theorem Tst.of {e : Expr} {P : AV} {b : Bool} (h : Ev g r ρ Z O e P) (ht : TruR g r.k P b) (he : isTrue e r.env (eval e r.env) = (do let v ← eval e r.env; standAt e.pos; holding [v] (truthy v)) := by rfl) : Tst g r ρ Z O e b := by
  intro B Z₁ s Q hz st hq
  refine wpAny_isTrue_value (h B Z₁ s _ hz st fun v s' Z' O' hz' st' ⟨e, p⟩ => ?_) he
  subst e
  exact Op.of_con (ρ := ρ) (fun Z₃ hz3 => (Con.beside (R := O') (ht Z₃ v (P.mono hz3 p))).mono fun _ _ _ _ ⟨_, e, e1, q⟩ => ⟨by rw [e, e1]; rfl, q⟩) B Z' s' Q (.refl _) st' fun v' s'' Z'' O'' hz'' st'' p' => hq v' s'' Z'' O'' (hz'.trans hz'') st'' p'
theorem Tst.cmp {l rr : Expr} {op : CmpOp} {pos : Pos} {a b : AV} {c : Bool} (h1 : Ev g r ρ Z O l a) (h2 : Ev g r ρ Z O rr b) (h3 : CmpR g r.k op a b (aBool c)) (hm : behindInMarks op rr = false := by with_unfolding_all rfl) :
    Tst g r ρ Z O (.Compare l [op] [rr] pos) c := by
  intro B Z₁ s Q hz st hq
  refine wpAny_isTrue_Compare1 (h1 B Z₁ s _ hz st fun v s' Z' O' hz' st' ⟨e, p⟩ => ?_) hm
  subst e
  refine h2 B Z' s' _ (hz.trans hz') st' fun v2 s2 Z2 O2 hz2 st2 ⟨e, p2⟩ => ?_
  subst e
  refine Op.of_con (ρ := ρ) (fun Z₃ hz3 => Con.pur_beside (h3 Z₃ v v2 (a.mono (hz2.trans hz3) p) (b.mono hz3 p2))) B Z2 s2 _ (.refl _) st2 fun v' s'' Z'' O'' hz'' st'' p' => ?_
  obtain ⟨e, e'⟩ := p'
  subst e
  obtain rfl : v' = .bool c := e'
  exact wpAny_truthy_bool (hq c s'' Z'' O'' (hz'.trans (hz2.trans hz'')) st'' ⟨rfl, rfl⟩)
theorem Tst.not {x : Expr} {pos : Pos} {b : Bool} (h : Tst g r ρ Z O x b) : Tst g r ρ Z O (.UnaryOp .Not x pos) (!b) :=
  fun B Z₁ s Q hz st hq => wpAny_isTrue_Not (h B Z₁ s _ hz st fun v s' Z' O' hz' st' ⟨e, p⟩ => hq (!v) s' Z' O' hz' st' ⟨e, by rw [p]⟩)
/-- and, or: item by item -/
abbrev TstAll (g : Gd) (r : Frm) (ρ : Loc) (Z : Zp) (O : Own) (op : BoolOp) (es : List Expr) (b : Bool) : Prop := Op g r ρ Z O (allTrue op es r.env) (fun _ O' v => O' = O ∧ v = b)
theorem Tst.all {op : BoolOp} {es : List Expr} {pos : Pos} {b : Bool} (h : TstAll g r ρ Z O op es b) : Tst g r ρ Z O (.BoolOp op es pos) b :=
  fun B Z₁ s Q hz st hq => wpAny_isTrue_BoolOp (h B Z₁ s Q hz st hq)
theorem TstAll.and_nil : TstAll g r ρ Z O .And [] true := fun B Z₁ s _ _ st hq => wpAny_allTrue_And_nil (hq _ s Z₁ O (.refl _) st ⟨rfl, rfl⟩)
theorem TstAll.or_nil : TstAll g r ρ Z O .Or [] false := fun B Z₁ s _ _ st hq => wpAny_allTrue_Or_nil (hq _ s Z₁ O (.refl _) st ⟨rfl, rfl⟩)
theorem TstAll.and_cons {x : Expr} {rest : List Expr} {b c : Bool} (h : Tst g r ρ Z O x b) (h2 : b = true → TstAll g r ρ Z O .And rest c) : TstAll g r ρ Z O .And (x :: rest) (b && c) := by
  intro B Z₁ s Q hz st hq
  refine wpAny_allTrue_And_cons (h B Z₁ s _ hz st fun v s' Z' O' hz' st' ⟨e, p⟩ => ?_)
  subst e p
  cases v with
  | false => exact hq _ s' Z' O' hz' st' ⟨rfl, rfl⟩
  | true => exact h2 rfl B Z' s' Q (hz.trans hz') st' fun v' s'' Z'' O'' hz'' st'' p' => hq v' s'' Z'' O'' (hz'.trans hz'') st'' p'
theorem TstAll.or_cons {x : Expr} {rest : List Expr} {b c : Bool} (h : Tst g r ρ Z O x b) (h2 : b = false → TstAll g r ρ Z O .Or rest c) : TstAll g r ρ Z O .Or (x :: rest) (b || c) := by
  intro B Z₁ s Q hz st hq
  refine wpAny_allTrue_Or_cons (h B Z₁ s _ hz st fun v s' Z' O' hz' st' ⟨e, p⟩ => ?_)
  subst e p
  cases v with
  | true => exact hq _ s' Z' O' hz' st' ⟨rfl, rfl⟩
  | false => exact h2 rfl B Z' s' Q (hz.trans hz') st' fun v' s'' Z'' O'' hz'' st'' p' => hq v' s'' Z'' O'' (hz'.trans hz'') st'' p'
theorem Ev.ite {test body orelse : Expr} {pos : Pos} {b : Bool} {P : AV} (h : Tst g r ρ Z O test b) (h1 : b = true → Ev g r ρ Z O body P) (h2 : b = false → Ev g r ρ Z O orelse P) : Ev g r ρ Z O (.IfExp test body orelse pos) P := by
  intro B Z₁ s Q hz st hq
  refine wpAny_IfExp (h B Z₁ s _ hz st fun v s' Z' O' hz' st' ⟨e, p⟩ => ?_)
  subst e p
  cases v with
  | true => exact h1 rfl B Z' s' Q (hz.trans hz') st' fun v' s'' Z'' O'' hz'' st'' p' => hq v' s'' Z'' O'' (hz'.trans hz'') st'' p'
  | false => exact h2 rfl B Z' s' Q (hz.trans hz') st' fun v' s'' Z'' O'' hz'' st'' p' => hq v' s'' Z'' O'' (hz'.trans hz'') st'' p'

/-- several expressions, one behind the other -/
def Dens (Z : Zp) : List Value → List AV → Prop
  | [], [] => True
  | v :: vs, a :: as => a.P Z v ∧ Dens Z vs as
  | _, _ => False
theorem Dens.mono {Z Z' : Zp} (h : Z.Le Z') : ∀ {vs : List Value} {as : List AV}, Dens Z vs as → Dens Z' vs as
  | [], [], _ => trivial
  | _ :: _, a :: _, ⟨x, y⟩ => ⟨a.mono h x, Dens.mono h y⟩
def Evs (g : Gd) (r : Frm) (ρ : Loc) (Z : Zp) (O : Own) (pos : Pos) (es : List Expr) (as : List AV) : Prop :=
  Op g r ρ Z O (spliced (backTo pos (starEach es r.env))) (fun Z' O' vs => O' = O ∧ Dens Z' vs as) ∧ starEach es r.env = es.map fun e => (false, eval e r.env)
theorem Evs.nil {pos : Pos} : Evs g r ρ Z O pos [] [] := ⟨fun B Z₁ s _ _ st hq => args_nil (hq [] s Z₁ O (.refl _) st ⟨rfl, trivial⟩), rfl⟩
theorem Evs.cons {pos : Pos} {e : Expr} {es : List Expr} {a : AV} {as : List AV} (h1 : Ev g r ρ Z O e a) (h2 : Evs g r ρ Z O pos es as)
    (he : starEach (e :: es) r.env = (false, eval e r.env) :: starEach es r.env := by rfl) : Evs g r ρ Z O pos (e :: es) (a :: as) := by
  refine ⟨?_, by rw [he, h2.2]; rfl⟩
  intro B Z₁ s Q hz st hq
  refine args_cons (h1 B Z₁ s _ hz st fun v s' Z' O' hz' st' ⟨e, p⟩ => ?_) he
  subst e
  refine h2.1 B Z' s' _ (hz.trans hz') st' fun vs s2 Z2 O2 hz2 st2 ⟨e, p2⟩ => ?_
  exact hq (v :: vs) s2 Z2 O2 (hz'.trans hz2) st2 ⟨e, a.mono hz2 p, p2⟩
theorem Evs.any {pos : Pos} {es : List Expr} {as : List AV} (h : Evs g r ρ Z O pos es as) : (backTo pos (starEach es r.env)).any (·.1) = false := by
  rw [h.2]
  have : ∀ l : List (Bool × Sem Value), (∀ p ∈ l, p.1 = false) → (backTo pos l).any (·.1) = false := by
    intro l hl
    unfold backTo
    rw [List.any_eq_false]
    intro p hp
    obtain ⟨q, hq, rfl⟩ := List.mem_map.mp hp
    have := hl q hq
    simp [this]
  exact this _ fun p hp => by obtain ⟨e, _, rfl⟩ := List.mem_map.mp hp; rfl

/-- what keeps a callee alive is known -/
def Kp (g : Gd) (f : Value) : Prop := ∀ h, g.K.In h → ∃ k, (k = Keeper.frame ∨ k = Keeper.machine ∨ k = Keeper.boundFrame) ∧ Looks g.M h (keeperOf f) k
theorem Kp.builtin {id : String} : Kp g (.builtin id) := fun _ _ => ⟨.machine, .inr (.inl rfl), Looks.of_pure rfl⟩
theorem Kp.type {t : String} : Kp g (.type t) := fun _ _ => ⟨.machine, .inr (.inl rfl), Looks.of_pure rfl⟩
theorem Kp.own {K : Frag} {f : Value} (hK : g.K = K) (h : keepIn K f = true) : Kp g f := by subst hK; exact keeps_K h

theorem evalArgs_any {M : Model} {A : Around} {E : Value → Shared → Prop} {s : Shared} {f : Value} {l : List (Bool × Sem Value)} {Q : Args → Shared → Prop} (hl : ∀ p ∈ l, p.1 = false)
    (h : wpAny M A (spliced l) (fun vs s' => Q ⟨vs, []⟩ s') E s) : wpAny M A (evalArgs f true l []) Q E s := by
  cases l with
  | nil =>
    unfold evalArgs
    show wpAny M A (spliced [] >>= _) Q E s
    refine wpAny_bind (wpAny_mono h (fun vs s' h' => ?_) fun _ _ x => x)
    exact wpAny_bind (wpAny_pure (wpAny_holding (wpAny_bind (wpAny_pure (wpAny_bind (wpAny_pure (wpAny_pure h')))))))
  | cons p l =>
    obtain ⟨b, x⟩ := p
    obtain rfl : b = false := hl _ (.head _)
    exact Calls.evalArgs_plain h
end
end Mine
end
section
open PySem PySem.W PyProof.Rows
set_option Elab.async false
set_option maxRecDepth 100000
set_option linter.unusedVariables false
namespace Mine

theorem map_toNat_inj : ∀ {a b : List Char}, a.map Char.toNat = b.map Char.toNat → a = b
  | [], [], _ => rfl
  | x :: a, y :: b, h => by
    rw [List.map_cons, List.map_cons] at h
    injection h with h1 h2
    rw [map_toNat_inj h2, Char.ext (UInt32.toNat_inj.mp h1)]
theorem ofString_inj {a b : String} (h : Str.ofString a = Str.ofString b) : a = b := by
  rw [Str.ofString_eq_toList, Str.ofString_eq_toList] at h
  have h1 : (a.toList.map Char.toNat).toArray = (b.toList.map Char.toNat).toArray := by injection h
  have h2 : a.toList.map Char.toNat = b.toList.map Char.toNat := by simpa using h1
  exact String.toList_inj.mp (map_toNat_inj h2)

section
variable {g : Gd} {r : Frm} {ρ : Loc} {Z : Zp} {O : Own}
theorem Evs.le {Z' : Zp} {pos : Pos} {es : List Expr} {as : List AV} (h : Evs g r ρ Z O pos es as) (hz : Z.Le Z') : Evs g r ρ Z' O pos es as := ⟨h.1.le hz, h.2⟩

theorem opCallWith {f : Value} {first : List Value} {pos p : Pos} {es : List Expr} {as : List AV} {P : Zp → Own → Value → Prop} (hk : Kp g f) (h : Evs g r ρ Z O pos es as)
    (hc : ∀ Z₁ vs, Z.Le Z₁ → Dens Z₁ vs as → Con g r.k Z₁ O (call f (first ++ vs)) P) : Op g r ρ Z O (callWith p f first (backTo pos (starEach es r.env)) []) P := by
  intro B Z₁ s Q hz st hq
  refine callWith_of (P := g.K.In) ?_ hk ?_
  · rw [h.any]; rfl
  · refine evalArgs_any ?_ (h.1 B Z₁ s _ hz st fun vs s' Z' O' hz' st' ⟨e, p⟩ => ⟨st'.ok.K_in, ?_⟩)
    · intro p hp
      have := h.any
      rw [List.any_eq_false] at this
      simpa using this p hp
    · subst e
      exact Op.of_con (ρ := ρ) (fun Z₃ hz3 => hc Z₃ vs (hz.trans (hz'.trans hz3)) (p.mono hz3)) B Z' s' Q (.refl _) st' fun v' s'' Z'' O'' hz'' st'' p' => hq v' s'' Z'' O'' (hz'.trans hz'') st'' p'

theorem opCall {func : Expr} {f : Value} {pos : Pos} {es : List Expr} {as : List AV} {P : Zp → Own → Value → Prop} (hf : Ev g r ρ Z O func (aVal f)) (hk : Kp g f) (h : Evs g r ρ Z O pos es as)
    (hc : ∀ Z₁ vs, Z.Le Z₁ → Dens Z₁ vs as → Con g r.k Z₁ O (call f vs) P)
    (he : eval (.Call func es [] pos) r.env = (do callWith pos (← eval func r.env) [] (backTo pos (starEach es r.env)) (backToKw pos (keywordEach [] r.env))) := by rfl) : Op g r ρ Z O (eval (.Call func es [] pos) r.env) P := by
  intro B Z₁ s Q hz st hq
  refine Call_ (hf B Z₁ s _ hz st fun v s' Z' O' hz' st' ⟨e, p⟩ => ?_) he
  subst e
  obtain rfl : v = f := p
  exact opCallWith (first := []) hk h hc B Z' s' Q (hz.trans hz') st' fun v' s'' Z'' O'' hz'' st'' p' => hq v' s'' Z'' O'' (hz'.trans hz'') st'' p'

theorem opMeth {o : Expr} {nm : Str} {f : Value} {apos pos : Pos} {es : List Expr} {as : List AV} {Po : AV} {pl : Sem Bool} {P : Zp → Own → Value → Prop} (ho : Ev g r ρ Z O o Po)
    (hm : ∀ Z₁ ov, Z.Le Z₁ → Po.P Z₁ ov → Con g r.k Z₁ O (getMethod ov nm pl) (fun Z' O' fx => O' = O ∧ fx = (f, [ov]))) (hk : Kp g f) (h : Evs g r ρ Z O pos es as)
    (hc : ∀ Z₁ ov vs, Z.Le Z₁ → Po.P Z₁ ov → Dens Z₁ vs as → Con g r.k Z₁ O (call f (ov :: vs)) P)
    (he : eval (.Call (.Attribute o nm apos) es [] pos) r.env = (do
      let ov ← eval o r.env
      standAt apos.atName
      let (f, first) ← holding [ov] (getMethod ov nm pl)
      callWith pos f first (backTo pos (starEach es r.env)) []) := by rfl) : Op g r ρ Z O (eval (.Call (.Attribute o nm apos) es [] pos) r.env) P := by
  intro B Z₁ s Q hz st hq
  refine MethodCall_ (ho B Z₁ s _ hz st fun ov s' Z' O' hz' st' ⟨e, p⟩ => ?_) he
  subst e
  refine Op.of_con (ρ := ρ) (fun Z₃ hz3 => hm Z₃ ov (hz.trans (hz'.trans hz3)) (Po.mono hz3 p)) B Z' s' _ (.refl _) st' fun fx s2 Z2 O2 hz2 st2 ⟨e, p2⟩ => ?_
  subst e p2
  exact opCallWith (first := [ov]) (Z := Z2) hk (h.le (hz.trans (hz'.trans hz2))) (fun Z₃ vs h3 d => hc Z₃ ov vs (hz.trans (hz'.trans (hz2.trans h3))) (Po.mono (hz2.trans h3) p) d) B Z2 s2 Q (.refl _) st2
    fun v' s'' Z'' O'' hz'' st'' p' => hq v' s'' Z'' O'' (hz'.trans (hz2.trans hz'')) st'' p'

theorem evAttr {value : Expr} {attr : Str} {pos : Pos} {Po P : AV} (h : Ev g r ρ Z O value Po) (ha : ∀ Z₁ o, Z.Le Z₁ → Po.P Z₁ o → Con g r.k Z₁ O (getAttr o attr true) (fun Z' O' v => O' = O ∧ P.P Z' v))
    (he : eval (.Attribute value attr pos) r.env = (do
      let o ← eval value r.env
      standAt pos.atName
      let r ← holding [o] (getAttr o attr true)
      letTemporaryGo value o r
      pure r) := by with_unfolding_all rfl) : Ev g r ρ Z O (.Attribute value attr pos) P := by
  intro B Z₁ s Q hz st hq
  refine Attribute_any_ (h B Z₁ s _ hz st fun v s' Z' O' hz' st' ⟨e, p⟩ => ?_) he
  subst e
  exact Op.of_con (ρ := ρ) (fun Z₃ hz3 => ha Z₃ v (hz.trans (hz'.trans hz3)) (Po.mono hz3 p)) B Z' s' Q (.refl _) st' fun v' s'' Z'' O'' hz'' st'' p' => hq v' s'' Z'' O'' (hz'.trans hz'') st'' p'

theorem opSub {value slice : Expr} {pos : Pos} {Pa Pb : AV} {P : Zp → Own → Value → Prop} (h1 : Ev g r ρ Z O value Pa) (h2 : Ev g r ρ Z O slice Pb)
    (h3 : ∀ Z₁ o i, Z.Le Z₁ → Pa.P Z₁ o → Pb.P Z₁ i → Con g r.k Z₁ O (subscriptTail value slice o i) P) : Op g r ρ Z O (eval (.Subscript value slice pos) r.env) P := by
  intro B Z₁ s Q hz st hq
  refine Subscript_ (h1 B Z₁ s _ hz st fun v s' Z' O' hz' st' ⟨e, p⟩ => ?_)
  subst e
  refine h2 B Z' s' _ (hz.trans hz') st' fun v2 s2 Z2 O2 hz2 st2 ⟨e, p2⟩ => ?_
  subst e
  exact Op.of_con (ρ := ρ) (fun Z₃ hz3 => h3 Z₃ v v2 (hz.trans (hz'.trans (hz2.trans hz3))) (Pa.mono (hz2.trans hz3) p) (Pb.mono hz3 p2)) B Z2 s2 Q (.refl _) st2 fun v' s'' Z'' O'' hz'' st'' p' => hq v' s'' Z'' O'' (hz'.trans (hz2.trans hz'')) st'' p'
/-- what the library's rule says of a subscript, for values of our kinds -/
def SubR (g : Gd) (k : Nat) (value slice : Expr) (a b c : AV) : Prop := ∀ Z o i, a.P Z o → b.P Z i → Con g k Z [] (subscriptTail value slice o i) (pur c)
theorem evSub {value slice : Expr} {pos : Pos} {Pa Pb P : AV} (h1 : Ev g r ρ Z O value Pa) (h2 : Ev g r ρ Z O slice Pb) (h3 : SubR g r.k value slice Pa Pb P) : Ev g r ρ Z O (.Subscript value slice pos) P :=
  opSub h1 h2 fun Z₁ o i _ p q => Con.pur_beside (h3 Z₁ o i p q)

/-! statements -/
def Ex (g : Gd) (r : Frm) (ρ : Loc) (Z : Zp) (O : Own) (t : Sem Flow) (F : Flow → Loc → Zp → Own → Prop) : Prop :=
  ∀ B Z₁ s (Q : Flow → Shared → Prop), Z.Le Z₁ → Sta g r B s ρ Z₁ O → (∀ fl ρ' s' Z' O', Z₁.Le Z' → Sta g r B s' ρ' Z' O' → F fl ρ' Z' O' → Q fl s') → wpAny g.M r.A t Q No s
abbrev Exs (g : Gd) (r : Frm) (ρ : Loc) (Z : Zp) (O : Own) (ss : List Stmt) (F : Flow → Loc → Zp → Own → Prop) : Prop := Ex g r ρ Z O (execs ss r.env) F

theorem Ex.le {Z' : Zp} {t : Sem Flow} {F : Flow → Loc → Zp → Own → Prop} (h : Ex g r ρ Z O t F) (hz : Z.Le Z') : Ex g r ρ Z' O t F :=
  fun B Z₁ s Q hz' x hq => h B Z₁ s Q (hz.trans hz') x hq
theorem Ex.mono {t : Sem Flow} {F F' : Flow → Loc → Zp → Own → Prop} (h : Ex g r ρ Z O t F) (hF : ∀ fl ρ' Z' O', Z.Le Z' → F fl ρ' Z' O' → F' fl ρ' Z' O') : Ex g r ρ Z O t F' :=
  fun B Z₁ s Q hz x hq => h B Z₁ s Q hz x fun fl ρ' s' Z' O' hz' x' p => hq fl ρ' s' Z' O' hz' x' (hF fl ρ' Z' O' (hz.trans hz') p)
theorem Ex.less {ρ' : Loc} {t : Sem Flow} {F : Flow → Loc → Zp → Own → Prop} (h : Ex g r ρ' Z O t F) (hl : ∀ p ∈ ρ', p ∈ ρ) : Ex g r ρ Z O t F :=
  fun B Z₁ s Q hz x hq => h B Z₁ s Q hz (x.less hl) hq
theorem exs_nil {F : Flow → Loc → Zp → Own → Prop} (h : ∀ Z₁, Z.Le Z₁ → F .next ρ Z₁ O) : Exs g r ρ Z O [] F :=
  fun B Z₁ s Q hz st hq => wpAny_execs_nil (hq .next ρ s Z₁ O (.refl _) st (h Z₁ hz))
theorem exs_cons {st : Stmt} {rest : List Stmt} {F₁ F : Flow → Loc → Zp → Own → Prop} (h : Ex g r ρ Z O (exec st r.env) F₁) (hn : ∀ ρ' Z' O', Z.Le Z' → F₁ .next ρ' Z' O' → Exs g r ρ' Z' O' rest F)
    (ho : ∀ fl ρ' Z' O', fl ≠ .next → Z.Le Z' → F₁ fl ρ' Z' O' → F fl ρ' Z' O') : Exs g r ρ Z O (st :: rest) F := by
  intro B Z₁ s Q hz x hq
  refine wpAny_execs_cons (h B Z₁ s _ hz x fun fl ρ' s' Z' O' hz' x' p => ?_)
  have go : fl ≠ .next → Q fl s' := fun hne => hq fl ρ' s' Z' O' hz' x' (ho fl ρ' Z' O' hne (hz.trans hz') p)
  cases fl with
  | next => exact hn ρ' Z' O' (hz.trans hz') p B Z' s' Q (.refl _) x' fun fl ρ'' s'' Z'' O'' hz'' x'' p' => hq fl ρ'' s'' Z'' O'' (hz'.trans hz'') x'' p'
  | brk => exact go (by intro h; cases h)
  | cont => exact go (by intro h; cases h)
  | ret v => exact go (by intro h; cases h)

theorem execs_append {env : Env} : ∀ (a b : List Stmt), execs (a ++ b) env = (execs a env >>= fun f => match f with | .next => execs b env | f => pure f)
  | [], b => by show execs b env = (Pure.pure Flow.next >>= _); rfl
  | s :: a, b => by
    rw [List.cons_append, execs_cons, execs_cons]
    rw [bind_assoc]
    congr 1
    funext f
    cases f <;> first | exact execs_append a b | rfl
end
end Mine
end
section
open PySem PySem.W PyProof.Rows
set_option Elab.async false
set_option maxRecDepth 100000
set_option linter.unusedVariables false
namespace Mine

def updL (x : String) (av : AV) (ρ : Loc) : Loc := (x, av) :: ρ.filter (fun p => p.1 != x)
theorem updL_mem {x y : String} {av b : AV} {ρ : Loc} (h : (y, b) ∈ updL x av ρ) : (y = x ∧ b = av) ∨ ((y, b) ∈ ρ ∧ y ≠ x) := by
  rcases List.mem_cons.mp h with e | h
  · injection e with e1 e2; exact .inl ⟨e1, e2⟩
  · obtain ⟨h1, h2⟩ := List.mem_filter.mp h
    exact .inr ⟨h1, by simpa using h2⟩

section
variable {g : Gd} {r : Frm} {ρ : Loc} {Z : Zp} {O : Own}

theorem sta_store {B : Zp} {s : Shared} {x : String} {av : AV} {v : Value} {Q : Unit → Shared → Prop} (st : Sta g r B s ρ Z O) (hl : r.env.kindOf (Str.ofString x) = some .local) (hv : av.P Z v)
    (h : ∀ s', Sta g r B s' (updL x av ρ) Z O → Q () s') : wpAny g.M r.A (storeName r.env (Str.ofString x) v) Q No s := by
  obtain ⟨m, hn, hm⟩ := st.loc
  refine wpAny_storeName_local hl hn (fun h' hn' hs => h _ ?_) (by show (r.scope.kind == .class || (r.scope.kind == .module && r.L != mainGlobals)) = false; rw [st.hk]; rfl)
  have hne : ∀ a o, Z a = some o → a ≠ r.L := fun a o e ha => by rw [ha, st.zL] at e; cases e
  exact { st with
    loc := ⟨_, hn', fun y b hy => by
      rcases updL_mem hy with ⟨rfl, rfl⟩ | ⟨hy, hne⟩
      · exact ⟨v, .inl ⟨hl, if_pos rfl⟩, hv⟩
      · obtain ⟨w, hw, hp⟩ := hm y b hy
        refine ⟨w, ?_, hp⟩
        rcases hw with ⟨h1, h2⟩ | h
        · exact .inl ⟨h1, by rw [← h2]; exact if_neg fun e => hne (ofString_inj e)⟩
        · exact .inr h⟩
    zin := fun a o e => (hs.2 a (hne a o e)).trans (st.zin a o e)
    bin := fun a o e => (hs.2 a fun ha => by rw [ha, st.bL] at e; cases e).trans (st.bin a o e)
    own := fun p hp => ⟨(hs.2 p.1 (st.own p hp).2.2.2).trans (st.own p hp).1, (st.own p hp).2⟩
    gens := st.gens
    os := st.os }

theorem exAssign {x : String} {px pos : Pos} {e : Expr} {P : AV} {rest : List Stmt} {F : Flow → Loc → Zp → Own → Prop} (he : Ev g r ρ Z O e P) (h : Exs g r (updL x P ρ) Z O rest F)
    (hl : r.env.kindOf (Str.ofString x) = some .local := by rfl) (hs : swapsWith e (some (.Name (Str.ofString x) px)) pos.line r.env = pure false := by rfl) :
    Exs g r ρ Z O (.Assign [.Name (Str.ofString x) px] e pos :: rest) F := by
  refine exs_cons (F₁ := fun fl ρ' Z' O' => fl = .next ∧ ρ' = updL x P ρ ∧ O' = O) ?_ (fun ρ' Z' O' hz ⟨_, e1, e2⟩ => by subst e1 e2; exact h.le hz) fun fl ρ' Z' O' hne _ p => absurd p.1 hne
  intro B Z₁ s Q hz st hq
  refine wpAny_Assign_Name (he B Z₁ s _ hz st fun v s' Z' O' hz' st' ⟨e, p⟩ => ?_) hs
  subst e
  exact sta_store st' hl p fun s'' st'' => hq .next _ s'' Z' O' hz' st'' ⟨rfl, rfl, rfl⟩
/-- the value itself is kept -/
theorem exAssignO {x : String} {px pos : Pos} {e : Expr} {P : Zp → Own → Value → Prop} {rest : List Stmt} {F : Flow → Loc → Zp → Own → Prop} (he : Op g r ρ Z O (eval e r.env) P)
    (h : ∀ Z' O' v, Z.Le Z' → P Z' O' v → Exs g r (updL x (aVal v) ρ) Z' O' rest F)
    (hl : r.env.kindOf (Str.ofString x) = some .local := by rfl) (hs : swapsWith e (some (.Name (Str.ofString x) px)) pos.line r.env = pure false := by rfl) :
    Exs g r ρ Z O (.Assign [.Name (Str.ofString x) px] e pos :: rest) F := by
  refine exs_cons (F₁ := fun fl ρ' Z' O' => fl = .next ∧ ∃ Z₁ v, Z.Le Z₁ ∧ Z₁.Le Z' ∧ P Z₁ O' v ∧ ρ' = updL x (aVal v) ρ) ?_ (fun ρ' Z' O' hz ⟨_, Z₁, v, h1, h2, e1, e2⟩ => by subst e2; exact (h Z₁ O' v h1 e1).le h2) fun fl ρ' Z' O' hne _ p => absurd p.1 hne
  intro B Z₁ s Q hz st hq
  refine wpAny_Assign_Name (he B Z₁ s _ hz st fun v s' Z' O' hz' st' p => ?_) hs
  exact sta_store (av := aVal v) st' hl rfl fun s'' st'' => hq .next _ s'' Z' O' hz' st'' ⟨rfl, Z', v, hz.trans hz', .refl _, p, rfl⟩
def AugR (g : Gd) (k : Nat) (op : Operator) (a b c : AV) : Prop := ∀ Z x y, a.P Z x → b.P Z y → Con g k Z [] (inplaceOp op x y) (pur c)
theorem exAug {x : String} {px pos : Pos} {op : Operator} {e : Expr} {a b c : AV} {rest : List Stmt} {F : Flow → Loc → Zp → Own → Prop} (ha : (x, a) ∈ ρ) (hb : Ev g r ρ Z O e b) (ho : AugR g r.k op a b c)
    (h : Exs g r (updL x c ρ) Z O rest F) (hl : r.env.kindOf (Str.ofString x) = some .local := by rfl) :
    Exs g r ρ Z O (.AugAssign (.Name (Str.ofString x) px) op e pos :: rest) F := by
  refine exs_cons (F₁ := fun fl ρ' Z' O' => fl = .next ∧ ρ' = updL x c ρ ∧ O' = O) ?_ (fun ρ' Z' O' hz ⟨_, e1, e2⟩ => by subst e1 e2; exact h.le hz) fun fl ρ' Z' O' hne _ p => absurd p.1 hne
  intro B Z₁ s Q hz st hq
  obtain ⟨m, hn, hm⟩ := st.loc
  obtain ⟨v, hv, p⟩ := hm x a ha
  obtain ⟨_, hv⟩ : r.env.kindOf (Str.ofString x) = some .local ∧ m (Str.ofString x) = some v := by
    rcases hv with h | ⟨h | ⟨h, _⟩, _⟩
    · exact h
    · rw [hl] at h; cases h
    · rw [hl] at h; cases h
  refine wpAny_AugAssign_Name (wpAny_loadName_local st.hk hl hn hv ?_)
  refine hb B Z₁ s _ hz st fun v2 s2 Z2 O2 hz2 st2 ⟨e, p2⟩ => ?_
  subst e
  refine Op.of_con (ρ := ρ) (fun Z₃ hz3 => Con.pur_beside (ho Z₃ v v2 (a.mono (hz2.trans hz3) p) (b.mono hz3 p2))) B Z2 s2 _ (.refl _) st2 fun v' s'' Z'' O'' hz'' st'' ⟨e, p'⟩ => ?_
  subst e
  exact sta_store st'' hl p' fun s3 st3 => hq .next _ s3 Z'' _ (hz2.trans hz'') st3 ⟨rfl, rfl, rfl⟩

theorem execs_If {env : Env} (test : Expr) (body orelse rest : List Stmt) (pos : Pos) : execs (.If test body orelse pos :: rest) env =
    (do standAt pos; let b ← isTrue test env (eval test env); if b then execs (body ++ rest) env else execs (orelse ++ rest) env) := by
  rw [execs_cons, exec_If, execs_append, execs_append, bind_assoc]
  congr 1
  funext _
  rw [bind_assoc]
  congr 1
  funext b
  cases b <;> rfl
theorem exIf {test : Expr} {body orelse rest : List Stmt} {pos : Pos} {b : Bool} {F : Flow → Loc → Zp → Own → Prop} (ht : Tst g r ρ Z O test b) (h1 : b = true → Exs g r ρ Z O (body ++ rest) F) (h2 : b = false → Exs g r ρ Z O (orelse ++ rest) F) :
    Exs g r ρ Z O (.If test body orelse pos :: rest) F := by
  intro B Z₁ s Q hz st hq
  rw [execs_If]
  refine wpAny_bind (wpAny_standAt (wpAny_bind (ht B Z₁ s _ hz st fun v s' Z' O' hz' st' ⟨e, p⟩ => ?_)))
  subst e p
  cases v with
  | true => exact h1 rfl B Z' s' Q (hz.trans hz') st' fun fl ρ' s'' Z'' O'' hz'' st'' p' => hq fl ρ' s'' Z'' O'' (hz'.trans hz'') st'' p'
  | false => exact h2 rfl B Z' s' Q (hz.trans hz') st' fun fl ρ' s'' Z'' O'' hz'' st'' p' => hq fl ρ' s'' Z'' O'' (hz'.trans hz'') st'' p'
theorem exRet {e : Expr} {pos : Pos} {rest : List Stmt} {P : Zp → Own → Value → Prop} {F : Flow → Loc → Zp → Own → Prop} (he : Op g r ρ Z O (eval e r.env) P) (h : ∀ Z' O' v, Z.Le Z' → P Z' O' v → F (.ret v) ρ Z' O') :
    Exs g r ρ Z O (.Return (some e) pos :: rest) F := by
  refine exs_cons (F₁ := fun fl ρ' Z' O' => ∃ v, fl = .ret v ∧ ρ' = ρ ∧ P Z' O' v) ?_ (fun ρ' Z' O' hz ⟨_, e1, _⟩ => by cases e1) fun fl ρ' Z' O' hne hz ⟨v, e1, e2, p⟩ => by subst e1 e2; exact h Z' O' v hz p
  intro B Z₁ s Q hz st hq
  exact wpAny_Return_some (he B Z₁ s _ hz st fun v s' Z' O' hz' st' p => hq _ ρ s' Z' O' hz' st' ⟨v, rfl, rfl, p⟩)
/-- an expression alone in its row, that gives back None -/
theorem exExpr {e : Expr} {pos : Pos} {rest : List Stmt} {P : Zp → Own → Prop} {F : Flow → Loc → Zp → Own → Prop} (he : Op g r ρ Z O (eval e r.env) (fun Z' O' v => v = .none ∧ P Z' O')) (h : ∀ Z' O', Z.Le Z' → P Z' O' → Exs g r ρ Z' O' rest F)
    (hi : interactive r.env = false := by rfl) (hs : swapsWith e none pos.line r.env = pure false := by rfl) : Exs g r ρ Z O (.Expr e pos :: rest) F := by
  refine exs_cons (F₁ := fun fl ρ' Z' O' => fl = .next ∧ ρ' = ρ ∧ P Z' O') ?_ (fun ρ' Z' O' hz ⟨_, e1, p⟩ => by subst e1; exact h Z' O' hz p) fun fl ρ' Z' O' hne hz ⟨e1, _⟩ => absurd e1 hne
  intro B Z₁ s Q hz st hq
  refine wpAny_Expr (he B Z₁ s _ hz st fun v s' Z' O' hz' st' ⟨e, p⟩ => ?_) hi hs
  subst e
  exact hq .next ρ s' Z' O' hz' st' ⟨rfl, rfl, p⟩

theorem lookup_of_mem {x : Str} {v : Value} : ∀ {l : List (Str × Value)}, (l.map Prod.fst).Nodup → (x, v) ∈ l → l.lookup x = some v
  | [], _, h => nomatch h
  | (y, u) :: l, hn, h => by
    rw [List.map_cons, List.nodup_cons] at hn
    rw [List.lookup_cons]
    rcases List.mem_cons.mp h with e | h
    · injection e with e1 e2; subst e1 e2; simp
    · have hne : x ≠ y := fun e => hn.1 (e ▸ List.mem_map.mpr ⟨(x, v), h, rfl⟩)
      rw [show (x == y) = false from by simpa using hne]
      exact lookup_of_mem hn.2 h
/-- what a def gives back -/
def retOf : Flow → Value
  | .ret v => v
  | _ => .none
/-- the contract of a def of the text's own -/
theorem conFn {K : Frag} {f : Addr} {name qual : Str} {params : Arguments} {body : List Stmt} {scope : Scope} {cl : List (Str × Addr)} {dV kV doc pm cdv ct oc : Value} {an od : Option Addr} {osl : Array (Option Value)} {args : Args} {k : Nat}
    {P : Zp → Own → Value → Prop} (bs : List (String × Value)) (hK : g.K = K)
    (ho : K.lookup f = some ⟨oc, od, .func (fnX name qual params body scope cl dV kV doc pm an cdv ct), osl⟩) (hcd : codeIn K cdv qual = true)
    (hbind : ∀ s, Ok g Z O s → BindsTo s (fnX name qual params body scope cl dV kV doc pm an cdv ct) args (bs.map fun p => (Str.ofString p.1, p.2)))
    (hloc : (bs.all fun p => decide (scope.names.lookup (Str.ofString p.1) = some .local)) = true) (hnd : (bs.map (·.1)).Nodup)
    (hcell : (scope.names.all fun x => x.2 != .cell) = true) (hco : scope.isCoroutine = false) (hgen : scope.isGenerator = false) (hk : scope.kind = .function)
    (h : ∀ (L : Addr) (A : Around) (gs : Array GenState) (os : OsState),
      Exs g { name := qual, scope := scope, L := L, f := f, cd := cdv, cells := cl, A := A, k := k, Z₀ := Z, gens := gs, os := os } (bs.map fun p => (p.1, aVal p.2)) Z O body (fun fl _ Z' O' => P Z' O' (retOf fl))) :
    ∀ (A : Around) (s : Shared) (R : Result → Shared → Prop), Room A (k + 1) → Ok g Z O s → (∀ v s' Z' O', Step Z O s s' Z' O' → P Z' O' v → R (.ok (.ret v)) s') → codeAny g.M A (.call (.ref f) args) R s := by
  subst hK
  intro A s R hr ok hq
  have hlocs : ∀ x ∈ bs.map (fun p => (Str.ofString p.1, p.2)), scope.names.lookup x.1 = some .local := fun x hx => by
    obtain ⟨p, hp, rfl⟩ := List.mem_map.mp hx
    exact of_decide_eq_true (List.all_eq_true.mp hloc p hp)
  refine codeAny_call_def (fd := fnX name qual params body scope cl dV kV doc pm an cdv ct) (body := body) (binds := bs.map fun p => (Str.ofString p.1, p.2)) hr.depth (ok.K_in _ _ ho) rfl ok.top.nolimit (codeRec_of ok.K_in hcd) rfl (hbind s ok)
    (fun x hx => by have := List.all_eq_true.mp hcell x hx; simpa using this) hlocs (fun h₀ hns hkeep => ?_) hco hgen hk
  have hL : s.heap.get? s.heap.objs.size = none := by
    cases hz : s.heap.get? s.heap.objs.size with
    | none => rfl
    | some o' => exact absurd (Heap.lt_size hz) (Nat.lt_irrefl _)
  let B : Zp := fun a => if a ∈ O.map Prod.fst then none else s.heap.get? a
  have hB : ∀ a o, B a = some o → s.heap.get? a = some o := fun a o e => by
    show s.heap.get? a = some o
    by_cases hm : a ∈ O.map Prod.fst
    · rw [show B a = none from if_pos hm] at e; cases e
    · rw [show B a = s.heap.get? a from if_neg hm] at e; exact e
  let rr : Frm := { name := qual, scope := scope, L := s.heap.objs.size, f := f, cd := cdv, cells := cl, A := A.deeper (callEnv (fnX name qual params body scope cl dV kV doc pm an cdv ct) s.heap.objs.size f), k := k, Z₀ := Z, gens := s.gens, os := s.os }
  have hlook : ∀ p ∈ bs, (bs.map fun p => (Str.ofString p.1, p.2)).reverse.lookup (Str.ofString p.1) = some p.2 := by
    intro p hp
    refine lookup_of_mem ?_ (List.mem_reverse.mpr (List.mem_map.mpr ⟨p, hp, rfl⟩))
    rw [List.map_reverse, List.map_map]
    have : (bs.map fun p => Str.ofString p.1).Nodup := by
      have h2 := List.pairwise_map.mp hnd
      exact List.pairwise_map.mpr (h2.imp fun hne e => hne (ofString_inj e))
    exact (List.reverse_perm _).nodup_iff.mpr this
  have st : Sta g rr B { s with heap := h₀, toks := s.toks + (bs.map fun p => (Str.ofString p.1, p.2)).length } (bs.map fun p => (p.1, aVal p.2)) Z O :=
    { loc := ⟨_, hns, fun y b hy => by
        obtain ⟨p, hp, e⟩ := List.mem_map.mp hy
        injection e with e1 e2
        subst e1 e2
        exact ⟨p.2, .inl ⟨hlocs _ (List.mem_map.mpr ⟨p, hp, rfl⟩), hlook p hp⟩, rfl⟩⟩
      hk := hk
      room := hr.deeper
      zin := fun a o e => hkeep a o (ok.zin a o e)
      tz := ok.tz
      zL := by
        show Z s.heap.objs.size = none
        cases hz : Z s.heap.objs.size with
        | none => rfl
        | some o' => rw [ok.zin _ _ hz] at hL; cases hL
      bin := fun a o e => hkeep a o (hB a o e)
      bL := by
        cases hz : B s.heap.objs.size with
        | none => rfl
        | some o' => rw [hB _ _ hz] at hL; cases hL
      new := fun a o e _ => by show Z a ≠ none; rw [e]; intro h; cases h
      z0 := .refl _
      own := fun p hp => ⟨hkeep _ _ (ok.own p hp).1, (ok.own p hp).2, if_pos (List.mem_map_of_mem hp), Nat.ne_of_lt (Heap.lt_size (ok.own p hp).1)⟩
      nod := ok.nod
      gens := rfl
      os := rfl }
  have hnone : ∀ a, B a = none → s.heap.get? a = none ∨ ∃ p ∈ O, p.1 = a := fun a e => by
    by_cases hm : a ∈ O.map Prod.fst
    · obtain ⟨p, hp, e⟩ := List.mem_map.mp hm; exact .inr ⟨p, hp, e⟩
    · rw [show B a = s.heap.get? a from if_neg hm] at e; exact .inl e
  refine wpAny_mono (h s.heap.objs.size rr.A s.gens s.os B Z _ (fun fl s' => R (.ok (.ret (retOf fl))) s') (.refl _) st fun fl ρ' s' Z' O' hz' st' p => hq _ s' Z' O' ?_ p) (fun fl s' x => by cases fl <;> exact x) fun _ _ x => x.elim
  exact {
    le := hz'
    zin := st'.zin
    keep := fun a o e hp => st'.bin a o (by
      show B a = some o
      rw [show B a = s.heap.get? a from if_neg fun hm => by obtain ⟨p, hp', e'⟩ := List.mem_map.mp hm; exact hp p hp' e']; exact e)
    new := fun a o e e0 => hnone a (by
      cases hb : B a with
      | none => rfl
      | some ob => exact absurd e0 (st'.new a o e (by show B a ≠ none; rw [hb]; intro h; cases h)))
    own := fun p hp => ⟨(st'.own p hp).1, (st'.own p hp).2.1, hnone _ (st'.own p hp).2.2.1⟩
    nod := st'.nod
    gens := st'.gens
    os := st'.os }
end
end Mine
end
section
open PySem PySem.W PyProof.Rows
set_option Elab.async false
set_option maxRecDepth 100000
set_option linter.unusedVariables false
namespace Mine
section
variable {α : Type} {g : Gd} {r : Frm} {ρ : Loc} {Z : Zp} {O R : Own}
/-- what is beside counts as the ground -/
def besideB (B : Zp) (R : Own) : Zp := fun a => if a ∈ R.map Prod.fst then (R.lookup a) else B a
theorem lookup_mem_own : ∀ {R : Own} {a : Addr} {o : Obj}, (R.map Prod.fst).Nodup → (a, o) ∈ R → R.lookup a = some o
  | [], _, _, _, h => nomatch h
  | (qa, qo) :: R, a, o, hn, h => by
    rw [List.map_cons, List.nodup_cons] at hn
    rw [List.lookup_cons]
    rcases List.mem_cons.mp h with e | h'
    · injection e with e1 e2; subst e1 e2; simp
    · have hne : (a == qa) = false := by
        simp only [beq_eq_false_iff_ne, ne_eq]
        exact fun e => hn.1 (List.mem_map.mpr ⟨(a, o), h', e⟩)
      rw [hne]
      exact lookup_mem_own hn.2 h'
theorem lookup_own_mem : ∀ {R : Own} {a : Addr} {o : Obj}, R.lookup a = some o → (a, o) ∈ R
  | [], _, _, h => by cases h
  | (qa, qo) :: R, a, o, h => by
    rw [List.lookup_cons] at h
    by_cases e : a = qa
    · subst e; simp only [beq_self_eq_true] at h; cases h; exact .head _
    · have : (a == qa) = false := by simpa using e
      rw [this] at h
      exact .tail _ (lookup_own_mem h)
theorem Sta.toBeside {B : Zp} {s : Shared} (x : Sta g r B s ρ Z (O ++ R)) : Sta g r (besideB B R) s ρ Z O := by
  have hn := x.nod
  rw [List.map_append, List.nodup_append] at hn
  have hB : ∀ a o, besideB B R a = some o → s.heap.get? a = some o := fun a o e => by
    unfold besideB at e
    split at e
    · exact (x.own (a, o) (List.mem_append_right _ (lookup_own_mem e))).1
    · exact x.bin a o e
  exact { x with
    bin := hB
    bL := by
      unfold besideB
      rw [if_neg]
      · exact x.bL
      · intro h
        obtain ⟨p, hp, e⟩ := List.mem_map.mp h
        exact (x.own p (List.mem_append_right _ hp)).2.2.2 e
    new := fun a o e hb => by
      by_cases hm : a ∈ R.map Prod.fst
      · obtain ⟨p, hp, rfl⟩ := List.mem_map.mp hm
        have := (x.own p (List.mem_append_right _ hp)).2.1
        rw [e] at this; cases this
      · unfold besideB at hb
        rw [if_neg hm] at hb
        exact x.new a o e hb
    own := fun p hp => ⟨(x.own p (List.mem_append_left _ hp)).1, (x.own p (List.mem_append_left _ hp)).2.1, by
      unfold besideB
      rw [if_neg]
      · exact (x.own p (List.mem_append_left _ hp)).2.2.1
      · intro h
        obtain ⟨q, hq, e⟩ := List.mem_map.mp h
        exact hn.2.2 p.1 (List.mem_map_of_mem hp) q.1 (List.mem_map_of_mem hq) e.symm, (x.own p (List.mem_append_left _ hp)).2.2.2⟩
    nod := hn.1 }
theorem Sta.ofBeside {B : Zp} {s s' : Shared} {ρ' : Loc} {Z' : Zp} {O' : Own} (x : Sta g r B s ρ Z (O ++ R)) (hz : Z.Le Z') (y : Sta g r (besideB B R) s' ρ' Z' O') : Sta g r B s' ρ' Z' (O' ++ R) := by
  have hn := x.nod
  rw [List.map_append, List.nodup_append] at hn
  have hR : ∀ p ∈ R, besideB B R p.1 = some p.2 := fun p hp => by
    unfold besideB
    rw [if_pos (List.mem_map_of_mem hp)]
    exact lookup_mem_own hn.2.1 hp
  have hB : ∀ a o, B a = some o → besideB B R a = some o := fun a o e => by
    unfold besideB
    rw [if_neg]
    · exact e
    · intro h
      obtain ⟨p, hp, e'⟩ := List.mem_map.mp h
      have := (x.own p (List.mem_append_right _ hp)).2.2.1
      rw [e', e] at this; cases this
  have hRz : ∀ p ∈ R, Z' p.1 = none := fun p hp => by
    cases hq : Z' p.1 with
    | none => rfl
    | some o =>
      have h1 := y.new p.1 o hq (by rw [hR p hp]; intro h; cases h)
      obtain ⟨o0, h2⟩ := Option.ne_none_iff_exists'.mp h1
      have h3 := x.z0 _ _ h2
      rw [(x.own p (List.mem_append_right _ hp)).2.1] at h3; cases h3
  exact { y with
    bin := fun a o e => y.bin a o (hB a o e)
    bL := x.bL
    new := fun a o e hb => y.new a o e (by
      obtain ⟨ob, hob⟩ := Option.ne_none_iff_exists'.mp hb
      rw [hB a ob hob]; intro h; cases h)
    own := fun p hp => by
      rcases List.mem_append.mp hp with hp | hp
      · obtain ⟨h1, h2, h3, h4⟩ := y.own p hp
        refine ⟨h1, h2, ?_, h4⟩
        cases hb : B p.1 with
        | none => rfl
        | some ob => rw [hB _ _ hb] at h3; cases h3
      · exact ⟨y.bin _ _ (hR p hp), hRz p hp, (x.own p (List.mem_append_right _ hp)).2.2⟩
    nod := by
      rw [List.map_append, List.nodup_append]
      refine ⟨y.nod, hn.2.1, fun a ha b hb e => ?_⟩
      obtain ⟨p, hp, rfl⟩ := List.mem_map.mp ha
      obtain ⟨q, hq, rfl⟩ := List.mem_map.mp hb
      have := (y.own p hp).2.2.1
      rw [e, hR q hq] at this; cases this }
theorem Op.beside {t : Sem α} {P : Zp → Own → α → Prop} (h : Op g r ρ Z O t P) : Op g r ρ Z (O ++ R) t (fun Z' O' v => ∃ O₁, O' = O₁ ++ R ∧ P Z' O₁ v) :=
  fun B Z₁ s Q hz st hq => h (besideB B R) Z₁ s Q hz st.toBeside fun v s' Z' O' hz' st' p => hq v s' Z' (O' ++ R) hz' (st.ofBeside hz' st') ⟨O', rfl, p⟩
theorem Ex.beside {t : Sem Flow} {F : Flow → Loc → Zp → Own → Prop} (h : Ex g r ρ Z O t F) : Ex g r ρ Z (O ++ R) t (fun fl ρ' Z' O' => ∃ O₁, O' = O₁ ++ R ∧ F fl ρ' Z' O₁) :=
  fun B Z₁ s Q hz st hq => h (besideB B R) Z₁ s Q hz st.toBeside fun fl ρ' s' Z' O' hz' st' p => hq fl ρ' s' Z' (O' ++ R) hz' (st.ofBeside hz' st') ⟨O', rfl, p⟩
/-- the owned in another order; something let go; something frozen -/
theorem Ex.step {t : Sem Flow} {F : Flow → Loc → Zp → Own → Prop} {O' : Own} {Z' : Zp} (hs : ∀ Z₁ s, Z.Le Z₁ → Ok g Z₁ O s → ∃ Z₂, Z'.Le Z₂ ∧ Step Z₁ O s s Z₂ O') (h : Ex g r ρ Z' O' t F) : Ex g r ρ Z O t F := by
  intro B Z₁ s Q hz st hq
  obtain ⟨Z₂, h2, st2⟩ := hs Z₁ s hz st.ok
  exact h B Z₂ s Q h2 (st.step st2) fun fl ρ' s' Z'' O'' hz' st' p => hq fl ρ' s' Z'' O'' (st2.le.trans hz') st' p
theorem Ex.perm {t : Sem Flow} {F : Flow → Loc → Zp → Own → Prop} {O' : Own} (hp : O.Perm O') (h : Ex g r ρ Z O' t F) : Ex g r ρ Z O t F :=
  Ex.step (fun Z₁ s hz ok => ⟨Z₁, hz, Step.perm ok hp⟩) h
/-- freeze the first -/
theorem Ex.frz {t : Sem Flow} {F : Flow → Loc → Zp → Own → Prop} {a : Addr} {o : Obj} (h : ∀ Z', Z.Le Z' → Z' a = some o → Ex g r ρ Z' O t F) : Ex g r ρ Z ((a, o) :: O) t F := by
  intro B Z₁ s Q hz st hq
  have st2 := Step.freeze st.ok
  exact h (Z₁.set a o) (hz.trans st2.le) (Zp.set_self _ _ _) B _ s Q (.refl _) (st.step st2) fun fl ρ' s' Z'' O'' hz' st' p => hq fl ρ' s' Z'' O'' (st2.le.trans hz') st' p
end
end Mine
end
section
open PySem PySem.W PyProof.Rows
set_option Elab.async false
set_option maxRecDepth 100000
set_option linter.unusedVariables false
namespace Mine
section
variable {g : Gd} {k : Nat} {i j : Int}
theorem binAdd : BinR g k .Add (aInt i) (aInt j) (aInt (i + j)) := by
  rintro Z x y ⟨t, rfl⟩ ⟨u, rfl⟩
  exact fun A s Q hr ok hq => add_int (hq _ _ Z [] (Step.refl ok) ⟨rfl, _, rfl⟩)
theorem binSub : BinR g k .Sub (aInt i) (aInt j) (aInt (i - j)) := by
  rintro Z x y ⟨t, rfl⟩ ⟨u, rfl⟩
  exact fun A s Q hr ok hq => sub_int (hq _ _ Z [] (Step.refl ok) ⟨rfl, _, rfl⟩)
theorem binMul (hm : IntMulOk i j) : BinR g k .Mult (aInt i) (aInt j) (aInt (i * j)) := by
  rintro Z x y ⟨t, rfl⟩ ⟨u, rfl⟩
  exact fun A s Q hr ok hq => mul_int (hq _ _ Z [] (Step.refl ok) ⟨rfl, _, rfl⟩) hm
theorem binMod (hj : j ≠ 0) : BinR g k .Mod (aInt i) (aInt j) (aInt (i.fmod j)) := by
  rintro Z x y ⟨t, rfl⟩ ⟨u, rfl⟩
  exact fun A s Q hr ok hq => mod_int' hj (hq _ _ Z [] (Step.refl ok) ⟨rfl, _, rfl⟩)
theorem binDiv (hj : j ≠ 0) (hp : Builtin.divisionGoesByPylong i j = false) : BinR g k .FloorDiv (aInt i) (aInt j) (aInt (i.fdiv j)) := by
  rintro Z x y ⟨t, rfl⟩ ⟨u, rfl⟩
  exact fun A s Q hr ok hq => floordiv_int hj (hq _ _ Z [] (Step.refl ok) ⟨rfl, _, rfl⟩) (.inl hp)
theorem binAnd : BinR g k .BitAnd (aInt i) (aInt j) (aInt (Builtin.bitAnd i j)) := by
  rintro Z x y ⟨t, rfl⟩ ⟨u, rfl⟩
  exact fun A s Q hr ok hq => and_int (hq _ _ Z [] (Step.refl ok) ⟨rfl, _, rfl⟩)
theorem binShr (hj : 0 ≤ j) : BinR g k .RShift (aInt i) (aInt j) (aInt (i.fdiv (2 ^ j.toNat))) := by
  rintro Z x y ⟨t, rfl⟩ ⟨u, rfl⟩
  exact fun A s Q hr ok hq => rshift_int hj (hq _ _ Z [] (Step.refl ok) ⟨rfl, _, rfl⟩)
theorem binShl (hj : 0 ≤ j) (h2 : j ≤ 1000000) (hi : i.natAbs < 2 ^ 64) : BinR g k .LShift (aInt i) (aInt j) (aInt (i * 2 ^ j.toNat)) := by
  rintro Z x y ⟨t, rfl⟩ ⟨u, rfl⟩
  exact fun A s Q hr ok hq => lshift_int_small hj h2 hi (hq _ _ Z [] (Step.refl ok) ⟨rfl, _, rfl⟩)
theorem augAdd : AugR g k .Add (aInt i) (aInt j) (aInt (i + j)) := by
  rintro Z x y ⟨t, rfl⟩ ⟨u, rfl⟩
  exact fun A s Q hr ok hq => iadd_int (hq _ _ Z [] (Step.refl ok) ⟨rfl, _, rfl⟩)
theorem augSub : AugR g k .Sub (aInt i) (aInt j) (aInt (i - j)) := by
  rintro Z x y ⟨t, rfl⟩ ⟨u, rfl⟩
  exact fun A s Q hr ok hq => isub_int (hq _ _ Z [] (Step.refl ok) ⟨rfl, _, rfl⟩)
theorem cmpLt : CmpR g k .Lt (aInt i) (aInt j) (aBool (decide (i < j))) := by
  rintro Z x y ⟨t, rfl⟩ ⟨u, rfl⟩
  exact fun A s Q hr ok hq => lt_int (hq _ _ Z [] (Step.refl ok (t := s.toks)) ⟨rfl, rfl⟩)
theorem cmpLe : CmpR g k .LtE (aInt i) (aInt j) (aBool (decide (i ≤ j))) := by
  rintro Z x y ⟨t, rfl⟩ ⟨u, rfl⟩
  exact fun A s Q hr ok hq => le_int (hq _ _ Z [] (Step.refl ok (t := s.toks)) ⟨rfl, rfl⟩)
theorem cmpGt : CmpR g k .Gt (aInt i) (aInt j) (aBool (decide (j < i))) := by
  rintro Z x y ⟨t, rfl⟩ ⟨u, rfl⟩
  exact fun A s Q hr ok hq => gt_int (hq _ _ Z [] (Step.refl ok (t := s.toks)) ⟨rfl, rfl⟩)
theorem cmpGe : CmpR g k .GtE (aInt i) (aInt j) (aBool (decide (j ≤ i))) := by
  rintro Z x y ⟨t, rfl⟩ ⟨u, rfl⟩
  exact fun A s Q hr ok hq => ge_int (hq _ _ Z [] (Step.refl ok (t := s.toks)) ⟨rfl, rfl⟩)
theorem cmpEq : CmpR g k .Eq (aInt i) (aInt j) (aBool (i == j)) := by
  rintro Z x y ⟨t, rfl⟩ ⟨u, rfl⟩
  exact fun A s Q hr ok hq => eq_int (hq _ _ Z [] (Step.refl ok (t := s.toks)) ⟨rfl, rfl⟩)
theorem cmpNe : CmpR g k .NotEq (aInt i) (aInt j) (aBool (i != j)) := by
  rintro Z x y ⟨t, rfl⟩ ⟨u, rfl⟩
  exact fun A s Q hr ok hq => ne_int (hq _ _ Z [] (Step.refl ok (t := s.toks)) ⟨rfl, rfl⟩)
theorem truInt : TruR g k (aInt i) (i != 0) := by
  rintro Z x ⟨t, rfl⟩
  exact fun A s Q hr ok hq => truthy_int (hq _ _ Z [] (Step.refl ok (t := s.toks)) ⟨rfl, rfl⟩)
theorem evNeg {r : Frm} {ρ : Loc} {Z : Zp} {O : Own} {e : Expr} {pos : Pos} (h : Ev g r ρ Z O e (aInt i)) : Ev g r ρ Z O (.UnaryOp .USub e pos) (aInt (-i)) := by
  intro B Z₁ s Q hz st hq
  refine wpAny_UnaryOp (h B Z₁ s _ hz st fun v s' Z' O' hz' st' ⟨e, t, p⟩ => ?_)
  subst e p
  exact neg_int (hq _ _ Z' O' hz' (st'.toks _) ⟨rfl, _, rfl⟩)
end

/-! lists -/
abbrev listO (vs : List Value) (n : Nat) : Obj := { cls := .type "list", dict := none, data := .seq vs.toArray n, slots := #[] }
abbrev tupO (vs : List Value) (n : Nat) : Obj := { cls := .type "tuple", dict := none, data := .seq vs.toArray n, slots := #[] }
/-- in reach: frozen or owned -/
def At (Z : Zp) (O : Own) (a : Addr) (o : Obj) : Prop := Z a = some o ∨ (a, o) ∈ O
theorem At.get {g : Gd} {Z : Zp} {O : Own} {s : Shared} {a : Addr} {o : Obj} (x : At Z O a o) (ok : Ok g Z O s) : s.heap.get? a = some o := by
  rcases x with h | h
  · exact ok.zin a o h
  · exact (ok.own (a, o) h).1
theorem At.le {Z Z' : Zp} {O : Own} {a : Addr} {o : Obj} (x : At Z O a o) (h : Z.Le Z') : At Z' O a o := x.imp (h a o) id

section
variable {g : Gd} {k : Nat} {Z : Zp} {O : Own} {a b : Addr} {vs ws : List Value} {n m : Nat}
theorem conLen (h : At Z O a (listO vs n)) (hs : vs.length ≤ sizeLine) : Con g k Z O (call (.builtin "len") [.ref a]) (fun Z' O' v => Z' = Z ∧ O' = O ∧ ∃ t, v = .int vs.length t) := by
  intro A s Q hr ok hq
  refine len_list (items := vs.toArray) ⟨_, h.get ok, rfl, n, rfl⟩ (by rw [List.size_toArray]; rw [sizeLine_eq] at hs; omega) (hq _ _ Z O (Step.refl ok) ⟨rfl, rfl, s.toks + 1, by rw [List.size_toArray]⟩)
theorem conNewList (hs : vs.length ≤ sizeLine) : Con g k Z O (newList vs) (fun Z' O' v => ∃ a, v = .ref a ∧ Z' = Z ∧ O' = (a, listO vs 0) :: O) := by
  intro A s Q hr ok hq
  exact wpAny_newObj_type (hq _ _ Z _ (Step.pushO ok (listO vs 0) s.toks) ⟨_, rfl, rfl, rfl⟩) (by show vs.toArray.size ≤ sizeLine; rw [List.size_toArray]; exact hs)
theorem conNewTup (hs : vs.length ≤ sizeLine) : Con g k Z O (newTuple vs) (fun Z' O' v => ∃ a, v = .ref a ∧ Z'.Le Z' ∧ Z' a = some (tupO vs 0) ∧ O' = O) := by
  intro A s Q hr ok hq
  exact wpAny_newObj_type (hq _ _ _ _ (Step.push ok (tupO vs 0) s.toks) ⟨_, rfl, .refl _, Zp.set_self _ _ _, rfl⟩) (by show vs.toArray.size ≤ sizeLine; rw [List.size_toArray]; exact hs)
/-- items of a list at a place -/
theorem conItem {value slice : Expr} {i : Int} {u : Tok} {x : Value} (h : At Z O a (listO vs n)) (h0 : 0 ≤ i) (hf : i < 2 ^ 63) (hx : vs[i.toNat]? = some x)
    (hs : subscripted slice false (.ref a) (.int i u) = operate [.ref a, .int i u] (getItem (.ref a) (.int i u))) (hg : ∀ r, letTemporaryGo value (.ref a) r = pure ()) :
    Con g k Z O (subscriptTail value slice (.ref a) (.int i u)) (fun Z' O' v => Z' = Z ∧ O' = O ∧ v = x) := by
  intro A s Q hr ok hq
  exact item_list (items := vs.toArray) ⟨_, h.get ok, rfl, n, rfl⟩ h0 hf (by simpa using hx) (hq _ _ Z O (Step.refl ok (t := s.toks)) ⟨rfl, rfl, rfl⟩) hs hg
end
end Mine
end
section
open PySem PySem.W PyProof.Rows PySem.Calls
set_option Elab.async false
set_option maxRecDepth 100000
set_option linter.unusedVariables false
namespace Mine
section
variable {g : Gd} {k : Nat} {Z : Zp} {O : Own} {a b : Addr} {vs ws : List Value} {n m : Nat}
/-- a frozen list of these values -/
def LZ (Z : Zp) (a : Addr) (vs : List Value) : Prop := ∃ n, Z a = some (listO vs n)
theorem LZ.le {Z' : Zp} (h : Z.Le Z') (x : LZ Z a vs) : LZ Z' a vs := let ⟨n, e⟩ := x; ⟨n, h _ _ e⟩
/-- a new list that is owned -/
def NewL (Z : Zp) (O : Own) (vs : List Value) : Zp → Own → Value → Prop := fun Z' O' v => ∃ a n, v = .ref a ∧ Z' = Z ∧ O' = (a, listO vs n) :: O
theorem conGetL {name : Str} {id : String} {pl : Sem Bool} (slot : Slot "list" name id) (hty : typeOf (.builtin id) = pure (.type "method_descriptor")) (h : At Z O a (listO vs n)) :
    Con g k Z O (getMethod (.ref a) name pl) (fun Z' O' fx => O' = O ∧ fx = (.builtin id, [.ref a])) := by
  intro A s Q hr ok hq
  have ho := h.get ok
  exact getMethod_list_of slot hty (items := vs.toArray) ⟨_, ho, rfl, n, rfl⟩ ⟨_, ho, rfl⟩ (hq _ s Z O (Step.refl ok (t := s.toks)) ⟨rfl, rfl⟩)
theorem md_append : typeOf (.builtin "list.append") = pure (.type "method_descriptor") := by kernel_rfl
theorem md_extend : typeOf (.builtin "list.extend") = pure (.type "method_descriptor") := by kernel_rfl
theorem conAppend {x : Value} (hs : vs.length ≤ sizeLine) : Con g k Z ((a, listO vs n) :: O) (call (.builtin "list.append") [.ref a, x]) (fun Z' O' v => v = .none ∧ Z' = Z ∧ O' = (a, listO (vs ++ [x]) (n + 1)) :: O) := by
  intro A s Q hr ok hq
  refine append_at (its := vs.toArray) (n := n) (ok.own _ (.head _)).1 (fun h' hsb ho => ?_) (by simpa using hs)
  exact hq _ _ Z _ (Step.write ok s.toks hsb (by rw [ho]; simp)) ⟨rfl, rfl, rfl⟩
theorem conExtend (hb : At Z ((a, listO vs n) :: O) b (listO ws m)) (hs : vs.length + ws.length ≤ sizeLine) : Con g k Z ((a, listO vs n) :: O) (call (.builtin "list.extend") [.ref a, .ref b]) (fun Z' O' v => v = .none ∧ Z' = Z ∧ ∃ n', O' = (a, listO (vs ++ ws) n') :: O) := by
  intro A s Q hr ok hq
  have ha := (ok.own _ (.head _)).1
  refine call_meets F.slot_list_extend ⟨_, ha, rfl⟩ F.entry_list_extend (F.args_list_extend_2 _ _) (AutoSeq1.list_extend_list_list_0 a vs.toArray n b ws.toArray m ?_ (by simp; omega) (by simp; omega)) ⟨ha, hb.get ok, ?_⟩
  · simp [Builtin.List.listTooLong]; intro _; omega
  · refine hq _ _ Z ((a, listO (vs ++ ws) (if (vs.toArray ++ ws.toArray).size == vs.toArray.size then n else n + 1)) :: O) (Step.write ok s.toks (Heap.SameBut.update ..) ?_) ⟨rfl, rfl, _, rfl⟩
    have := IsL.update ha (fun x => x ++ ws.toArray)
    rw [this]
    simp
theorem conListOf {T : String} {o : Obj} (hT : T = "list" ∨ T = "tuple") (h : At Z O b o) (hc : o.cls = .type T) (hd : o.data = .seq vs.toArray m) (hs : vs.length ≤ sizeLine) : Con g k Z O (call (.type "list") [.ref b]) (NewL Z O vs) := by
  intro A s Q hr ok hq
  refine call_list_seq b hT (h.get ok) hc hd (fun h' c' hk hnew => ?_) (by simpa using hs)
  have hsz : s.heap.get? s.heap.objs.size = none := by
    cases hz : s.heap.get? s.heap.objs.size with
    | none => rfl
    | some o' => exact absurd (Heap.lt_size hz) (Nat.lt_irrefl _)
  refine hq _ _ Z ((s.heap.objs.size, listO vs c') :: O) ?_ ⟨_, _, rfl, rfl, rfl⟩
  exact {
    le := .refl _
    zin := fun x o e => hk x o (ok.zin x o e)
    keep := fun x o e _ => hk x o e
    new := fun x o e e0 => by rw [e] at e0; cases e0
    own := fun p hp => by
      rcases List.mem_cons.mp hp with rfl | hp
      · refine ⟨hnew, ?_, .inl hsz⟩
        show Z s.heap.objs.size = none
        cases hz : Z s.heap.objs.size with
        | none => rfl
        | some o' => rw [ok.zin _ _ hz] at hsz; cases hsz
      · exact ⟨hk _ _ (ok.own p hp).1, (ok.own p hp).2, .inr ⟨p, hp, rfl⟩⟩
    nod := by
      rw [List.map_cons, List.nodup_cons]
      refine ⟨fun h => ?_, ok.nod⟩
      obtain ⟨p, hp, e⟩ := List.mem_map.mp h
      exact absurd (Heap.lt_size (ok.own p hp).1) (by rw [e]; exact Nat.lt_irrefl _)
    gens := rfl
    os := rfl }
theorem conAddL (ha : At Z O a (listO vs n)) (hb : At Z O b (listO ws m)) (hs : vs.length + ws.length ≤ sizeLine) : Con g k Z O (binaryOp .Add (.ref a) (.ref b)) (NewL Z O (vs ++ ws)) := by
  intro A s Q hr ok hq
  refine P.add_list (ha.get ok) (hb.get ok) (hq _ _ Z _ (Step.pushO ok (listO (vs ++ ws) 0) s.toks) ⟨_, _, rfl, rfl, rfl⟩ |> fun h => by simpa using h) (by simpa using hs)
theorem conTruL (h : At Z O a (listO vs n)) (hs : vs.length ≤ sizeLine) : Con g k Z O (truthy (.ref a)) (fun Z' O' v => Z' = Z ∧ O' = O ∧ v = !vs.isEmpty) := by
  intro A s Q hr ok hq
  exact wpAny_truthy_list (items := vs.toArray) ⟨_, h.get ok, rfl, n, rfl⟩ (by rw [List.size_toArray]; rw [sizeLine_eq] at hs; omega) (hq _ _ Z O (Step.refl ok) ⟨rfl, rfl, by simp⟩)

/-! slices -/
abbrev sliceO (l u st : Value) : Obj := { cls := .type "slice", dict := none, data := .fields #[l, u, st], slots := #[] }
/-- the items that a slice picks -/
def pick (vs : List Value) (lo hi st : Option Int) : List Value := (slicePick vs.toArray lo hi st).toList
theorem conSlice {sl : Addr} {vl vu vst : Value} {lo hi st : Option Int} (ha : At Z O a (listO vs n)) (hs : At Z O sl (sliceO vl vu vst)) (pl : IsPart vl lo) (pu : IsPart vu hi) (ps : IsPart vst st) (h0 : st ≠ some 0) (hz : vs.length ≤ sizeLine) :
    Con g k Z O (getItem (.ref a) (.ref sl)) (NewL Z O (pick vs lo hi st)) := by
  intro A s Q hr ok hq
  refine wpAny_getItem_list_slice (items := vs.toArray) ⟨_, ha.get ok, rfl, n, rfl⟩ ⟨_, hs.get ok, rfl, rfl⟩ pl pu ps h0 ?_ (by simpa using hz)
  have := hq _ _ Z _ (Step.pushO ok (listO (pick vs lo hi st) 0) s.toks) ⟨_, _, rfl, rfl, rfl⟩
  simpa [pick] using this
end
end Mine
end
section
open PySem PySem.W PyProof.Rows
set_option Elab.async false
set_option maxRecDepth 100000
set_option linter.unusedVariables false
namespace Mine
/-- an iterator that is owned: n items, told by item; oi tells how it stands -/
structure Iter (g : Gd) (Z : Zp) (it : Addr) (n : Nat) (item : Nat → AV) (oi : Nat → Obj → Prop) : Prop where
  next : ∀ Z₁, Z.Le Z₁ → ∀ i o, i < n → oi i o → ∀ k, Con g k Z₁ [(it, o)] (pyNext (.ref it)) (fun Z' O' v => Z' = Z₁ ∧ ∃ x o', v = some x ∧ (item i).P Z' x ∧ O' = [(it, o')] ∧ oi (i + 1) o')
  done : ∀ Z₁, Z.Le Z₁ → ∀ o, oi n o → ∀ k, Con g k Z₁ [(it, o)] (pyNext (.ref it)) (fun Z' O' v => Z' = Z₁ ∧ v = none ∧ O' = [])
def Iters (g : Gd) (n : Nat) (item : Nat → AV) (O : Own) : Zp → Own → Value → Prop := fun Z' O' w => ∃ it o oi, w = .ref it ∧ O' = (it, o) :: O ∧ oi 0 o ∧ Iter g Z' it n item oi
theorem Step.gone {g : Gd} {Z : Zp} {a : Addr} {o : Obj} {s : Shared} (ok : Ok g Z [(a, o)] s) {h' : Heap} (t : Nat) (hs : Heap.ExtBut a s.heap h') : Step Z [(a, o)] s { s with heap := h', toks := t } Z [] where
  le := .refl _
  zin := fun b ob e => hs b ob (by rintro rfl; have := (ok.own (b, o) (.head _)).2; rw [e] at this; cases this) (ok.zin b ob e)
  keep := fun b ob e hb => hs b ob (fun e' => hb (a, o) (.head _) e'.symm) e
  new := fun b ob e e0 => by rw [e] at e0; cases e0
  own := fun p hp => nomatch hp
  nod := List.Pairwise.nil
  gens := rfl
  os := rfl
section
variable {g : Gd} {k : Nat} {Z : Zp} {O : Own} {a l : Addr} {vs : List Value} {n : Nat}
theorem iterList (h : Z l = some (listO vs n)) : Con g k Z O (pyIter (.ref l)) (Iters g vs.length (fun i => aVal (vs.getD i .none)) O) := by
  intro A s Q hr ok hq
  have hl : s.heap.IsList l vs.toArray := ⟨_, ok.zin _ _ h, rfl, n, rfl⟩
  refine wpAny_pyIter_list hl (hq _ _ Z _ (Step.pushO ok { cls := .type "list_iterator", data := .fields #[.ref l, .int 0 0] } s.toks) ?_)
  refine ⟨_, _, fun i o => o.cls = .type "list_iterator" ∧ o.data = .fields #[.ref l, .int i 0], rfl, rfl, ⟨rfl, rfl⟩, ?_, ?_⟩
  · rintro Z₁ hz i o hi ⟨h1, h2⟩ k A s Q hr ok hq
    refine wpAny_pyNext_list_item (l := l) (i := i) (items := vs.toArray) (x := vs.getD i .none) ⟨o, (ok.own _ (.head _)).1, h1, h2⟩ ⟨_, ok.zin _ _ (hz _ _ h), rfl, n, rfl⟩ (by simp [List.getD, hi]) fun h' hit hs => ?_
    obtain ⟨o', ho', e1, e2⟩ := hit
    exact hq _ _ Z₁ _ (Step.write ok s.toks hs ho') ⟨rfl, _, o', rfl, rfl, rfl, e1, e2⟩
  · rintro Z₁ hz o ⟨h1, h2⟩ k A s Q hr ok hq
    refine wpAny_pyNext_list_end hr.1 (l := l) (i := vs.length) (items := vs.toArray) ⟨o, (ok.own _ (.head _)).1, h1, h2⟩ ⟨_, ok.zin _ _ (hz _ _ h), rfl, n, rfl⟩ (by simp) fun h' hs => ?_
    exact hq _ _ Z₁ _ (Step.gone ok s.toks hs) ⟨rfl, rfl, rfl⟩

abbrev rangeO (a b c : Int) (t u v : Tok) : Obj := { cls := .type "range", dict := none, data := .fields #[.int a t, .int b u, .int c v], slots := #[] }
theorem iterRange {b c x : Int} {t u v : Tok} (h : Z a = some (rangeO x b c t u v)) (hs : Builtin.Range.small x b c = true) : Con g k Z O (pyIter (.ref a)) (Iters g (Builtin.Range.rangeSize x b c).toNat (fun i => aInt (x + i * c)) O) := by
  intro A s Q hr ok hq
  refine wpAny_pyIter_range (ok.zin _ _ h) hs (hq _ _ Z _ (Step.pushO ok { cls := .type "range_iterator", data := .fields #[rawInt x, rawInt (Builtin.Range.rangeSize x b c), rawInt c] } s.toks) ?_)
  refine ⟨_, _, fun i o => o = { cls := .type "range_iterator", data := .fields #[rawInt (x + i * c), rawInt (Builtin.Range.rangeSize x b c - i), rawInt c] }, rfl, rfl, by simp, ?_, ?_⟩
  · rintro Z₁ hz i o hi e k A s Q hr ok hq
    subst e
    refine wpAny_pyNext_range_item (x := x + i * c) (left := Builtin.Range.rangeSize x b c - i) (step := c) (ok.own _ (.head _)).1 (by omega) fun h' hit hs => ?_
    refine hq _ _ Z₁ _ (Step.write ok (s.toks + 1) hs hit) ⟨rfl, _, _, rfl, ⟨_, rfl⟩, rfl, ?_⟩
    have e1 : x + (i : Int) * c + c = x + ((i + 1 : Nat) : Int) * c := by rw [Int.natCast_add, Int.add_mul]; simp; omega
    have e2 : Builtin.Range.rangeSize x b c - (i : Int) - 1 = Builtin.Range.rangeSize x b c - ((i + 1 : Nat) : Int) := by omega
    rw [e1, e2]
  · rintro Z₁ hz o e k A s Q hr ok hq
    subst e
    refine wpAny_pyNext_range_end hr.1 (x := x + (Builtin.Range.rangeSize x b c).toNat * c) (left := Builtin.Range.rangeSize x b c - (Builtin.Range.rangeSize x b c).toNat) (step := c) (ok.own _ (.head _)).1 (by omega) fun h' hs => ?_
    exact hq _ _ Z₁ _ (Step.gone ok s.toks hs) ⟨rfl, rfl, rfl⟩
end

section
variable {g : Gd} {r : Frm} {ρ : Loc} {Z : Zp} {O : Own}
theorem exFor {x : String} {px pos : Pos} {iter : Expr} {body rest : List Stmt} {Pi : AV} {F : Flow → Loc → Zp → Own → Prop} (n : Nat) (item : Nat → AV) (J : Nat → Loc → Zp → Own → Prop)
    (hi : Ev g r ρ Z O iter Pi) (hit : ∀ Z₁ v, Z.Le Z₁ → Pi.P Z₁ v → Con g r.k Z₁ O (pyIter v) (Iters g n item O)) (h0 : ∀ Z₁, Z.Le Z₁ → J 0 ρ Z₁ O)
    (step : ∀ i ρ' Z' O', Z.Le Z' → i < n → J i ρ' Z' O' → Exs g r (updL x (item i) ρ') Z' O' body (fun fl ρ'' Z'' O'' => match fl with | .next | .cont => J (i + 1) ρ'' Z'' O'' | .ret u => F (.ret u) ρ'' Z'' O'' | .brk => False))
    (done : ∀ ρ' Z' O', Z.Le Z' → J n ρ' Z' O' → Exs g r ρ' Z' O' rest F)
    (hl : r.env.kindOf (Str.ofString x) = some .local := by rfl) (hs : ∀ x, foldedSetIterable iter r.env x = pure x := by intro _; rfl) :
    Exs g r ρ Z O (.For (.Name (Str.ofString x) px) iter body [] pos :: rest) F := by
  refine exs_cons (F₁ := fun fl ρ' Z' O' => (fl = .next ∧ ∃ Z₁, Z.Le Z₁ ∧ Z₁.Le Z' ∧ J n ρ' Z₁ O') ∨ (∃ u, fl = .ret u ∧ F (.ret u) ρ' Z' O')) ?_
    (fun ρ' Z' O' hz p => by
      rcases p with ⟨_, Z₁, h1, h2, p⟩ | ⟨u, e, _⟩
      · exact (done ρ' Z₁ O' h1 p).le h2
      · cases e)
    (fun fl ρ' Z' O' hne hz p => by
      rcases p with ⟨e, _⟩ | ⟨u, e, p⟩
      · exact absurd e hne
      · subst e; exact p)
  intro B Z₁ s Q hz st hq
  refine wpAny_For (hi B Z₁ s _ hz st fun xv s1 Z1 O1 hz1 st1 ⟨e, p⟩ => ?_) hs
  subst e
  refine Op.of_con (ρ := ρ) (fun Z₃ hz3 => hit Z₃ xv (hz.trans (hz1.trans hz3)) (Pi.mono hz3 p)) B Z1 s1 _ (.refl _) st1 fun w s2 Z2 O2 hz2 st2 ⟨it, o, oi, e1, e2, ho, hI⟩ => ?_
  subst e1 e2
  have hzz : Z₁.Le Z2 := hz1.trans hz2
  refine codeAny_forLoop (fun m s' => ∃ i ρ' Z' O' o', m = n - i ∧ i ≤ n ∧ Z2.Le Z' ∧ oi i o' ∧ J i ρ' Z' O' ∧ Sta g r B s' ρ' Z' (O' ++ [(it, o')])) ?_ n ⟨0, ρ, Z2, O1, o, rfl, Nat.zero_le _, .refl _, ho, h0 Z2 (hz.trans hzz), st2.step (Step.perm st2.ok (List.perm_append_singleton (it, o) O1).symm)⟩ (by intro _; rfl)
  rintro m s' ⟨i, ρ', Z', O', o', rfl, hin, hz', hoi, hJ, st'⟩
  have stp := st'.step (Step.perm st'.ok (List.perm_append_comm (l₁ := O') (l₂ := [(it, o')])))
  have hzZ : Z.Le Z' := hz.trans (hzz.trans hz')
  rcases Nat.lt_or_ge i n with hlt | hge
  · refine wpAny_mono (Con.beside (R := O') (hI.next Z' hz' i o' hlt hoi r.k) r.A s' _ stp.room stp.ok fun v s3 Z3 O3 stp3 p3 => ?_) (fun _ _ h => h) fun _ _ h => h.elim
    obtain ⟨O₁, e1, ez, xx, o'', e2, hp, e3, hoi'⟩ := p3
    subst e1 e2 e3 ez
    have st3 := stp.step stp3
    have st4 := st3.step (Step.perm st3.ok (List.perm_append_comm (l₁ := [(it, o'')]) (l₂ := O')))
    refine wpAny_mono (wpAny_assign_Name (sta_store st4 hl hp fun s5 st5 => ?_)) (fun _ _ h => h) fun _ _ h => h.elim
    refine wpAny_mono ((Ex.beside (R := [(it, o'')]) (step i ρ' Z3 O' hzZ hlt hJ)) B Z3 s5 _ (.refl _) st5 fun fl ρ'' s6 Z6 O6 hz6 st6 p6 => ?_) (fun _ _ h => h) fun _ _ h => h.elim
    obtain ⟨O₂, e4, p6⟩ := p6
    subst e4
    have again : J (i + 1) ρ'' Z6 O₂ → ∃ m, m < n - i ∧ ∃ i' ρ' Z' O' o', m = n - i' ∧ i' ≤ n ∧ Z2.Le Z' ∧ oi i' o' ∧ J i' ρ' Z' O' ∧ Sta g r B s6 ρ' Z' (O' ++ [(it, o')]) := fun h =>
      ⟨n - (i + 1), by omega, i + 1, ρ'', Z6, O₂, o'', rfl, by omega, hz'.trans hz6, hoi', h, st6⟩
    cases fl with
    | next => exact again p6
    | cont => exact again p6
    | brk => exact p6.elim
    | ret u => exact hq _ ρ'' s6 Z6 O₂ (hzz.trans (hz'.trans hz6)) (st6.step (Step.drop st6.ok (List.sublist_append_left _ _))) (.inr ⟨u, rfl, p6⟩)
  · have hi : i = n := Nat.le_antisymm hin hge
    subst hi
    refine wpAny_mono (Con.beside (R := O') (hI.done Z' hz' o' hoi r.k) r.A s' _ stp.room stp.ok fun v s3 Z3 O3 stp3 p3 => ?_) (fun _ _ h => h) fun _ _ h => h.elim
    obtain ⟨O₁, e1, ez, e2, e3⟩ := p3
    subst e1 e2 e3 ez
    have st3 := stp.step stp3
    exact wpAny_execs_nil (hq .next ρ' s3 Z3 O' (hzz.trans hz') st3 (.inl ⟨rfl, Z3, hzZ, .refl _, hJ⟩))

theorem exWhile {test : Expr} {pos : Pos} {body rest : List Stmt} {F : Flow → Loc → Zp → Own → Prop} (N : Nat) (J : Nat → Loc → Zp → Own → Prop) (h0 : ∀ Z₁, Z.Le Z₁ → J N ρ Z₁ O)
    (step : ∀ n ρ' Z' O', Z.Le Z' → J n ρ' Z' O' → ∃ b, Tst g r ρ' Z' O' test b ∧
      (b = true → Exs g r ρ' Z' O' body (fun fl ρ'' Z'' O'' => match fl with | .next | .cont => ∃ m, m < n ∧ J m ρ'' Z'' O'' | .ret u => F (.ret u) ρ'' Z'' O'' | .brk => False)) ∧ (b = false → Exs g r ρ' Z' O' rest F)) :
    Exs g r ρ Z O (.While test body [] pos :: rest) F := by
  refine exs_cons (F₁ := fun fl ρ' Z' O' => (fl = .next ∧ Exs g r ρ' Z' O' rest F) ∨ (∃ u, fl = .ret u ∧ F (.ret u) ρ' Z' O')) ?_
    (fun ρ' Z' O' hz p => by
      rcases p with ⟨_, p⟩ | ⟨u, e, _⟩
      · exact p
      · cases e)
    (fun fl ρ' Z' O' hne hz p => by
      rcases p with ⟨e, _⟩ | ⟨u, e, p⟩
      · exact absurd e hne
      · subst e; exact p)
  intro B Z₁ s Q hz st hq
  refine wpAny_While (codeAny_whileLoop (fun n s' => ∃ ρ' Z' O', Z₁.Le Z' ∧ J n ρ' Z' O' ∧ Sta g r B s' ρ' Z' O') ?_ N ⟨ρ, Z₁, O, .refl _, h0 Z₁ hz, st⟩)
  rintro n s' ⟨ρ', Z', O', hz', hJ, st'⟩
  obtain ⟨b, ht, hb, hr⟩ := step n ρ' Z' O' (hz.trans hz') hJ
  refine wpAny_mono (ht B Z' s' _ (.refl _) st' fun v s2 Z2 O2 hz2 st2 ⟨e, p⟩ => ?_) (fun _ _ h => h) fun _ _ h => h.elim
  subst e p
  cases v with
  | true =>
    refine wpAny_mono (hb rfl B Z2 s2 _ hz2 st2 fun fl ρ'' s6 Z6 O6 hz6 st6 p6 => ?_) (fun _ _ h => h) fun _ _ h => h.elim
    have again : (∃ m, m < n ∧ J m ρ'' Z6 O6) → ∃ m, m < n ∧ ∃ ρ' Z' O', Z₁.Le Z' ∧ J m ρ' Z' O' ∧ Sta g r B s6 ρ' Z' O' := fun ⟨m, hm, h⟩ => ⟨m, hm, ρ'', Z6, O6, hz'.trans (hz2.trans hz6), h, st6⟩
    cases fl with
    | next => exact again p6
    | cont => exact again p6
    | brk => exact p6.elim
    | ret u => exact hq _ ρ'' s6 Z6 O6 (hz'.trans (hz2.trans hz6)) st6 (.inr ⟨u, rfl, p6⟩)
  | false => exact wpAny_mono (wpAny_execs_nil (hq .next ρ' s2 Z2 O2 (hz'.trans hz2) st2 (.inl ⟨rfl, (hr rfl).le hz2⟩))) (fun _ _ h => h) fun _ _ h => h
end
end Mine
end
section
open PySem PySem.W PyProof.Rows PySem.Calls
set_option Elab.async false
set_option maxRecDepth 100000
set_option linter.unusedVariables false
namespace Mine
theorem look_newObject : typeLookup (.type "object") "__new__" = pure (some (.builtin "object.__new__")) := by rw [typeLookup_type, builtinLookup_eq_fast]; kernel_rfl
theorem mro_object : mroOf (.type "object") = pure [.type "object"] := by rw [mroOf_type]; kernel_rfl
theorem madeBy_object : Bind.madeBy (.type "object") = pure (some "object.__new__") := by
  unfold Bind.madeBy
  rw [mro_object]
  show (pure [Value.type "object"] >>= _) = _
  rw [pure_bind]
  simp only [List.forIn_cons, look_newObject, pure_bind]
  kernel_rfl
theorem best_object : Builtin.Slots.bestBase [.type "object"] = pure (.type "object") := by kernel_rfl
/-- a class whose own __new__ stands in the text -/
structure OwnNew (K : Frag) (C : Addr) (cd : ClassData) : Prop where
  ho : ∃ oc od sl, K.lookup C = some ⟨oc, od, .cls cd, sl⟩ ∧ (sl.toList[4]?).join = some .none
  mro : cd.mro = [.ref C, .type "object"]
  bases : cd.bases = [.type "object"]
  abs : cd.abstract = false
  del : cd.hasDel = false
  typ : instIn K (.ref C) (.type "type") = some true
  call : specialIn K (.ref C) "__call__" = some (some (.builtin "type.__call__"))
  init : findIn K (.ref C) "__init__" = some (some (.builtin "object.__init__"))
section
variable {K : Frag} {C : Addr} {cd : ClassData} {M : Model} {h : Heap}
theorem OwnNew.cls (x : OwnNew K C cd) : clsIn K C = some cd := by obtain ⟨oc, od, sl, ho, _⟩ := x.ho; unfold clsIn; rw [ho]
theorem OwnNew.mros (x : OwnNew K C cd) (X : K.In h) : Looks M h (mroOf (.ref C)) [.ref C, .type "object"] := x.mro ▸ (looks_clsIn X x.cls).andThen .now
theorem OwnNew.made (x : OwnNew K C cd) (X : K.In h) : Looks M h (Bind.madeBy (.ref C)) none := by
  intro A Q E s k q
  obtain ⟨oc, od, sl, ho, h4⟩ := x.ho
  unfold Bind.madeBy
  refine wpAny_bind (x.mros X A _ E s k ?_)
  rw [List.forIn_cons]
  refine wpAny_bind (wpAny_bind (wpAny_bind (wpAny_bind (wpAny_loadPart (k _ _ (X _ _ ho)) (wpAny_pure ?_)))))
  dsimp only
  rw [← Array.getElem?_toList, h4]
  exact wpAny_pure (wpAny_pure (wpAny_pure q))
theorem OwnNew.base (x : OwnNew K C cd) (X : K.In h) : Looks M h (Bind.staticBase (.ref C)) (.type "object") := by
  intro A Q E s k q
  obtain ⟨oc, od, sl, ho, h4⟩ := x.ho
  unfold Bind.staticBase
  refine wpAny_bind (x.mros X A _ E s k ?_)
  rw [List.forIn_cons]
  refine wpAny_bind (wpAny_bind ?_)
  dsimp only
  refine wpAny_bind (x.made X A _ E s k ?_)
  simp only [Option.isSome_none, Bool.false_eq_true, if_false]
  refine wpAny_bind (wpAny_bind (wpAny_load (k _ _ (X _ _ ho)) (wpAny_pure ?_)))
  rw [x.bases, best_object]
  refine wpAny_bind (wpAny_pure (wpAny_pure ?_))
  dsimp only
  rw [List.forIn_cons]
  refine wpAny_bind ?_
  dsimp only
  rw [madeBy_object]
  refine wpAny_bind (wpAny_pure ?_)
  exact wpAny_pure (wpAny_pure (wpAny_pure q))
end

section
variable {g : Gd} {K : Frag} {C : Addr} {cd : ClassData} {k : Nat} {Z : Zp} {O : Own}
theorem OwnNew.top (x : OwnNew K C cd) {M : Model} {h : Heap} (X : K.In h) : Looks M h (isSubtype (.ref C) (.type "object")) true := looks_mroIn X (by unfold mroIn; rw [x.cls, Option.bind_some, x.mro]; simp)
theorem OwnNew.self (x : OwnNew K C cd) {M : Model} {h : Heap} (X : K.In h) : Looks M h (isSubtype (.ref C) (.ref C)) true := looks_mroIn X (by unfold mroIn; rw [x.cls, Option.bind_some, x.mro]; simp)

theorem code_objNew (x : OwnNew K C cd) {prog : Program} {w : World} {A : Around} {R : Result → Shared → Prop} {h : Heap} {g : Array GenState} {d : Drawn} {t : Nat} {os : OsState} (X : K.In h)
    (hq : R (.ok (.ret (.ref (h.objs.size + 1)))) ⟨(h.push emptyDict).push (instObj C h.objs.size), g, d, t, os⟩) :
    codeAny (model prog w) A (.call (.builtin "object.__new__") ⟨[.ref C], []⟩) R ⟨h, g, d, t, os⟩ := by
  obtain ⟨oc, od, sl, ho, h4⟩ := x.ho
  have hC := X _ _ ho
  have made : Looks (model prog w) h (Bind.madeBy (.ref C)) none := x.made X
  have madeO : Looks (model prog w) h (Bind.madeBy (.type "object")) (some "object.__new__") := Looks.of_pure madeBy_object
  have base : Looks (model prog w) h (Bind.staticBase (.ref C)) (.type "object") := x.base X
  have top : Looks (model prog w) h (isSubtype (.ref C) (.type "object")) true := x.top X
  have typ : Looks (model prog w) h (isInstance (.ref C) (.type "type")) true := looks_instIn X x.typ
  have e1 := x.abs
  have e2 := x.del
  have F := PySem.F.objNew
  refine codeAny_call_builtin_code (Code.quiet_builtin _ F.quiet) ?_
  simp only [checkBuiltinCall, F.kind, F.split, F.row]
  have here : Looks (model prog w) h (Bind.madeHere "object.__new__" (.ref C)) () := base.andThen (madeO.andThen (Looks.of_pure (by simp only [Option.map_some, bne_self_eq_false, Bool.false_eq_true, if_false])))
  have args : Bind.checkArgs "object.__new__" ⟨.hand, "object.__new__", "__new__", .cls, []⟩ ⟨[.ref C], []⟩ = pure () := by kernel_rfl
  rw [args]
  repeat (first | simp only [bne_self_eq_false, Bool.false_eq_true, if_false] | lk)
  refine codeAny_builtin F.entry ?_
  unfold Builtin.«object.__new__»
  have fin : ∀ A', wpAny (model prog w) A' (do
      let d ← if typeHasDict (.ref C) then some <$> alloc { cls := .type "dict", data := .dict #[] } else pure none
      ret (← newObj (.ref C) .plain d)) (fun fin s' => match fin with | .done f => R (.ok f) s' | .again c' => c'.quiet = true ∧ codeAny (model prog w) A c' R s') (fun e s' => R (.error e) s') ⟨h, g, d, t, os⟩ := by
    intro A'
    show wpAny _ _ ((alloc emptyDict >>= fun x => pure (some x)) >>= _) _ _ _
    refine wpAny_bind (wpAny_bind (wpAny_alloc (wpAny_pure (wpAny_bind ?_))))
    show wpAny _ _ (newObjAsIs _ _ _) _ _ _
    unfold newObjAsIs classHasDel
    refine wpAny_bind (wpAny_alloc (wpAny_bind (wpAny_bind (wpAny_load (Heap.get?_push_of_some _ (Heap.get?_push_of_some _ hC)) (wpAny_pure ?_)))))
    rw [e2]
    refine wpAny_pure (wpAny_pure ?_)
    show R _ _
    rw [Heap.size_push]
    exact hq
  repeat (first | simp only [e1, Bool.false_eq_true, if_false] | exact fin _ | lk)

theorem conObjNew (hK : g.K = K) (x : OwnNew K C cd) : Con g k Z O (call (.builtin "object.__new__") [.ref C]) (fun Z' O' v => ∃ a d, v = .ref a ∧ O' = (a, instObj C d) :: O ∧ Z' d = some emptyDict) := by
  subst hK
  intro A s Q hr ok hq
  refine wpAny_call ?_
  have st1 := Step.push ok emptyDict s.toks
  have st2 := Step.pushO (st1.ok ok) (instObj C s.heap.objs.size) s.toks
  have hfin := hq (.ref (s.heap.objs.size + 1)) _ _ _ (st1.trans st2) ⟨s.heap.objs.size + 1, s.heap.objs.size, rfl, by rw [Heap.size_push], Zp.set_self _ _ _⟩
  obtain ⟨hh, gg, dd, tt, oo⟩ := s
  exact code_objNew x ok.K_in hfin
end
end Mine
end
section
open PySem PySem.W PyProof.Rows PySem.Calls
set_option Elab.async false
set_option maxRecDepth 100000
set_option linter.unusedVariables false
namespace Mine
abbrev superO (C : Addr) : Obj := { cls := .type "super", dict := none, data := .fields #[.ref C, .ref C, .ref C], slots := #[] }
section
variable {g : Gd} {K : Frag} {C : Addr} {cd : ClassData} {k : Nat} {Z : Zp} {O : Own}
theorem wp_super {prog : Program} {w : World} {A : Around} {E : Value → Shared → Prop} {h : Heap} {g : Array GenState} {d : Drawn} {t : Nat} {os : OsState} {oD : Obj} {Q : Value → Shared → Prop} (hD : h.get? C = some oD) (hDt : oD.data = .cls cd)
    (hsub : Looks (model prog w) h (isSubtype (.ref C) (.ref C)) true)
    (hq : ∀ h', h'.get? h.objs.size = some (superO C) → (∀ y o, h.get? y = some o → h'.get? y = some o) → Q (.ref h.objs.size) ⟨h', g, d, t, os⟩) :
    wpAny (model prog w) A (call (.type "super") [.ref C, .ref C]) Q E ⟨h, g, d, t, os⟩ := by
  refine ks_callType_codesW (Q₁ := fun obj s₁ => obj = .ref h.objs.size ∧ s₁ = ⟨h.push { cls := .type "super", data := .fields #[.none, .none, .none] }, g, d, t, os⟩) F.ks_called_super (ks_wpAny_checkTypeCall_super hD hDt) F.ks_entry_super_init
    (ks_code_super_new _ _ ⟨rfl, rfl⟩) fun obj s₁ h₁ => ?_
  obtain ⟨rfl, rfl⟩ := h₁
  have up : ∀ y o, h.get? y = some o → (h.push { cls := .type "super", data := .fields #[.none, .none, .none] }).get? y = some o := fun y o e => Heap.get?_push_of_some _ e
  have hso : (h.push { cls := .type "super", data := .fields #[.none, .none, .none] }).get? h.objs.size = some { cls := .type "super", dict := none, data := .fields #[.none, .none, .none], slots := #[] } := Heap.get?_push_at rfl rfl
  have hD' := up _ _ hD
  have hsub' := hsub.keeps up
  refine ⟨⟨_, hso, rfl⟩, F.ks_initArgs_super _ _ _, ?_⟩
  unfold Builtin.«super.__init__» noKeywords
  repeat (first | (with_reducible refine ks_wpAny_isType_cls hD' hDt ?_) | (with_reducible refine Looks.at hsub' ?_) | (with_reducible refine ks_wpAny_super_set3 hso ?_) | wp_step)
  all_goals first
    | (intro h' e k; exact ⟨rfl, hq h' e fun y o ey => k y o (Nat.ne_of_lt (Heap.lt_size ey)) (up y o ey)⟩)
    | (refine ks_wpAny_super_set3 hso ?_; intro h' e k; exact ⟨rfl, hq h' e fun y o ey => k y o (Nat.ne_of_lt (Heap.lt_size ey)) (up y o ey)⟩)

theorem typ_objectNew : typeOf (.builtin "object.__new__") = pure (.type "builtin_function_or_method") := by kernel_rfl
theorem get_bfm : typeLookup (.type "builtin_function_or_method") "__get__" = pure none := by rw [typeLookup_type, builtinLookup_eq_fast]; kernel_rfl
theorem handed_objectNew : handedOut (.builtin "object.__new__") = pure (.builtin "object.__new__") := by kernel_rfl
theorem super_ga {prog : Program} {w : World} {A : Around} {E : Value → Shared → Prop} {h : Heap} {g : Array GenState} {d : Drawn} {t : Nat} {os : OsState} {so : Addr} {K : Frag} {name : Str} {tk : Tok} {Q : Fin → Shared → Prop}
    (hn : (name == ("__class__" : Str)) = false) (hf : alongIn K name [.type "object"] = some (some (.builtin "object.__new__"))) (hso : h.get? so = some (superO C)) (hno : Looks (model prog w) h (opaqueClassAbove (.ref C)) none)
    (hC : Looks (model prog w) h (mroOf (.ref C)) [.ref C, .type "object"]) (X : K.In h)
    (hq : Q (.done (.ret (.builtin "object.__new__"))) ⟨h, g, d, t, os⟩) :
    wpAny (model prog w) A (Builtin.«super.__getattribute__» ⟨[.ref so, .str name tk], []⟩) Q E ⟨h, g, d, t, os⟩ := by
  have hdt : (superO C).data = .fields #[.ref C, .ref C, .ref C] := rfl
  have f0 : (#[.ref C, .ref C, .ref C] : Array Value)[0]? = some (.ref C) := rfl
  have f1 : (#[.ref C, .ref C, .ref C] : Array Value)[1]? = some (.ref C) := rfl
  have f2 : (#[.ref C, .ref C, .ref C] : Array Value)[2]? = some (.ref C) := rfl
  have hl : (([.ref C, .type "object"] : List Value).dropWhile (· != .ref C)).drop 1 = [.type "object"] := by simp
  unfold Builtin.«super.__getattribute__»
  repeat (first
    | (with_reducible refine wpAny_field hso hdt f0 ?_) | (with_reducible refine wpAny_field hso hdt f1 ?_) | (with_reducible refine wpAny_field hso hdt f2 ?_)
    | (with_reducible refine ks_wpAny_notOpaque hno ?_)
    | (with_reducible refine Looks.at hC ?_; rw [hl])
    | (refine ks_forIn_along X (fun _ _ => rfl) rfl ?_ hf)
    | (simp only [hn, Bool.or_false, Bool.false_eq_true, if_false])
    | rw [typ_objectNew]
    | rw [get_bfm]
    | rw [handed_objectNew]
    | wp_step
    | dsimp only)
  all_goals exact hq
theorem along_new (K : Frag) : alongIn K "__new__" [.type "object"] = some (some (.builtin "object.__new__")) := by
  show (match ownIn K "__new__" (.type "object") with | some (some v) => some (some v) | some none => alongIn K "__new__" [] | none => none) = _
  rw [show ownIn K "__new__" (.type "object") = some (some (.builtin "object.__new__")) from by unfold ownIn; kernel_rfl]
theorem conSuper (hK : g.K = K) (x : OwnNew K C cd) : Con g k Z O (call (.type "super") [.ref C, .ref C]) (fun Z' O' v => ∃ so, v = .ref so ∧ O' = O ∧ Z' so = some (superO C)) := by
  subst hK
  intro A s Q hr ok hq
  obtain ⟨oc, od, sl, ho, h4⟩ := x.ho
  obtain ⟨hh, gg, dd, tt, oo⟩ := s
  refine wp_super (ok.K_in _ _ ho) rfl (x.self ok.K_in) fun h' e keep => ?_
  have hnone : hh.get? hh.objs.size = none := by
    cases hz : hh.get? hh.objs.size with
    | none => rfl
    | some o' => exact absurd (Heap.lt_size hz) (Nat.lt_irrefl _)
  have hZ : Z hh.objs.size = none := by
    cases hz : Z hh.objs.size with
    | none => rfl
    | some o' => have := ok.zin _ _ hz; rw [show (Shared.mk hh gg dd tt oo).heap = hh from rfl, hnone] at this; cases this
  refine hq _ _ (Z.set hh.objs.size (superO C)) O ?_ ⟨_, rfl, rfl, Zp.set_self _ _ _⟩
  exact {
    le := Zp.le_set _ hZ
    zin := fun a o e' => by
      by_cases ha : a = hh.objs.size
      · subst ha; rw [Zp.set_self] at e'; cases e'; exact e
      · rw [Zp.set_ne _ _ ha] at e'; exact keep a o (ok.zin a o e')
    keep := fun a o e' _ => keep a o e'
    new := fun a o e' e0 => by
      by_cases ha : a = hh.objs.size
      · subst ha; exact .inl hnone
      · rw [Zp.set_ne _ _ ha, e0] at e'; cases e'
    own := fun p hp => ⟨keep _ _ (ok.own p hp).1, by
      rw [Zp.set_ne _ _ (Nat.ne_of_lt (Heap.lt_size (ok.own p hp).1))]; exact (ok.own p hp).2, .inr ⟨p, hp, rfl⟩⟩
    nod := ok.nod
    gens := rfl
    os := rfl }
theorem conSuperNew (hK : g.K = K) (x : OwnNew K C cd) {so : Addr} {pl : Sem Bool} (hz : Z so = some (superO C)) (ho : nsIn K cStatics "thirdparty.any" = some none) :
    Con g k Z O (getMethod (.ref so) "__new__" pl) (fun Z' O' v => O' = O ∧ v = (.builtin "object.__new__", [])) := by
  subst hK
  intro A s Q hr ok hq
  have hso := ok.zin _ _ hz
  have fin := hq (.builtin "object.__new__", []) { s with toks := s.toks + 1 } Z O (Step.refl ok) ⟨rfl, rfl⟩
  have X := ok.K_in
  obtain ⟨h, gg, d, t, os⟩ := s
  have hlk := F.ks_slot_super_ga.lookup
  have hcan := F.ks_canon_super_ga
  have hT : ∀ t', (⟨h, gg, d, t', os⟩ : Shared).TypeIs (.ref so) "super" := fun _ => ⟨_, hso, rfl⟩
  unfold getMethod
  refine wpAny_bind (wpAny_specialOf (hT _) hlk ?_)
  show wpAny _ _ (if (Manifest.canonical "super.__getattribute__" != "object.__getattribute__") = true then _ else _) _ _ _
  rw [if_pos hcan]
  unfold getAttr getAttrBy
  refine wpAny_bind (wpAny_bind (wpAny_mkText (wpAny_holding (wpAny_bind (wpAny_typeOf (hT _) (wpAny_bind (wpAny_of_eq hlk ?_)))))))
  show wpAny _ _ (getAttrByItsOwn (.ref so) (.str "__new__" t) (.type "super") (.builtin "super.__getattribute__") true false) _ _ _
  unfold getAttrByItsOwn hookBefore callGetattribute boundAndCalled
  refine wpAny_bind (wpAny_of_eq (show (if onTheHeap (.type "super") then typeLookup (.type "super") "__getattr__" else pure none) = pure none from rfl) ?_)
  refine wpAny_bind (wpAny_attempt (wpAny_holding ?_))
  show wpAny _ _ (bindSpecial (.builtin "super.__getattribute__") (.ref so) >>= _) _ _ _
  refine wpAny_bind (wpAny_of_eq (F.ks_slot_super_ga.bind _) ?_)
  refine wpAny_mono (Q := fun v s' => v = .builtin "object.__new__" ∧ s' = ⟨h, gg, d, t + 1, os⟩) (E := fun _ _ => False)
    (wpAny_call_entry F.ks_slot_super_ga (hT _) F.ks_entry_super_ga (super_ga (by decide) (along_new g.K) hso (looks_opaque X ho) (x.mros X) X ⟨_, rfl, rfl, rfl⟩) (F.ks_gaArgs_super _ _)) (fun v s' hv => ?_) fun _ _ z => z.elim
  obtain ⟨rfl, rfl⟩ := hv
  exact wpAny_pure (wpAny_pure fin)
end
end Mine
end
section
open PySem PySem.W PyProof.Rows PySem.Calls
set_option Elab.async false
set_option maxRecDepth 100000
set_option linter.unusedVariables false
set_option linter.unusedSimpArgs false
namespace Mine
def ConC (g : Gd) (k : Nat) (Z : Zp) (O : Own) (c : Code) (P : Zp → Own → Value → Prop) : Prop :=
  ∀ (A : Around) (s : Shared) (R : Result → Shared → Prop), Room A k → Ok g Z O s → (∀ v s' Z' O', Step Z O s s' Z' O' → P Z' O' v → R (.ok (.ret v)) s') → codeAny g.M A c R s
theorem ConC.con {g : Gd} {k : Nat} {Z : Zp} {O : Own} {f : Value} {vs : List Value} {P : Zp → Own → Value → Prop} (h : ConC g k Z O (.call f ⟨vs, []⟩) P) : Con g k Z O (call f vs) P :=
  fun A s Q hr ok hq => wpAny_call (h A s _ hr ok hq)
theorem Room.make {A : Around} {k : Nat} {C : Addr} {vs : List Value} (x : Room A (k + 1)) : Room (A.under (.builtin "type.__call__" ⟨.ref C :: vs, []⟩)) k :=
  ⟨x.1, by rw [depth_under_make]; have := x.2.1; omega, by
    have h1 : (A.under (.builtin "type.__call__" ⟨.ref C :: vs, []⟩)).units ≤ A.units + 16 := by
      show A.units + Code.cUnits _ ≤ A.units + 16
      have : Code.cUnits (.builtin "type.__call__" ⟨.ref C :: vs, []⟩) ≤ 16 := by
        show 1 + 3 * Code.frames (.builtin "type.__call__" ⟨.ref C :: vs, []⟩) ≤ 16
        rw [show Code.frames (.builtin "type.__call__" ⟨.ref C :: vs, []⟩) = 0 from rfl]; decide
      omega
    have := x.2.2; omega⟩
section
variable {g : Gd} {K : Frag} {C fN p : Addr} {cd : ClassData} {k : Nat} {Z : Zp} {O : Own} {mc : Value} {rest' args : List Value} {P : Zp → Own → Value → Prop}
theorem code_objInit (x : OwnNew K C cd) {prog : Program} {w : World} {A : Around} {R : Result → Shared → Prop} {s : Shared} {a : Addr} {o : Obj} {rest : List Value} (X : K.In s.heap) (ha : s.heap.get? a = some o) (hc : o.cls = .ref C)
    (hne : rest.isEmpty = false) (hq : R (.ok (.ret .none)) s) : codeAny (model prog w) A (.call (.builtin "object.__init__") ⟨.ref a :: rest, []⟩) R s := by
  obtain ⟨h, g, d, t, os⟩ := s
  have t1 : Looks (model prog w) h (typeOf (.ref a)) (.ref C) := hc ▸ (Looks.ld ha).andThen .now
  have t2 : Looks (model prog w) h (isInstance (.ref a) (.type "object")) true := t1.andThen (x.top X)
  have i1 : Looks (model prog w) h (typeLookup (.ref C) "__init__") (some (.builtin "object.__init__")) := looks_findIn X x.init
  have made : Looks (model prog w) h (Bind.madeBy (.ref C)) none := x.made X
  have ag : argsOk "object.__init__" ⟨.ref a :: rest, []⟩ := by unfold argsOk; kernel_rfl
  refine codeAny_call_builtin oi_plain entry_oi (@check_slot (model prog w) _ _ _ "object.__init__" "object" "__init__" (.ref a) rest [] _ oi_kind oi_split t2 ag ?_)
  unfold Builtin.«object.__init__»
  dsimp only
  rw [hne]
  repeat (first | simp only [Bool.not_false, Bool.true_or, if_true, bne_self_eq_false, Bool.false_eq_true, if_false] | lk)
  all_goals exact hq

theorem code_class (hK : g.K = K) (x : OwnNew K C cd) (hr : readsIn K C mc = true) (e : findCls K (.ref C) mc "__new__" = some (.get (.builtin "staticmethod.__get__") (.ref p) .none (.ref C)))
    (hp : recIn K p "staticmethod" = some (.ref fN :: rest')) (hargs : args.isEmpty = false) (hN : ConC g k Z O (.call (.ref fN) ⟨.ref C :: args, []⟩) P) (hP : ∀ Z' O' v, P Z' O' v → ∃ a o, v = .ref a ∧ At Z' O' a o ∧ o.cls = .ref C) :
    ConC g (k + 1) Z O (.call (.ref C) ⟨args, []⟩) P := by
  subst hK
  intro A s R hroom ok hq
  obtain ⟨oc, od, sl, ho, h4⟩ := x.ho
  have X := ok.K_in
  have hC := X _ _ ho
  have call : Looks g.M s.heap (specialOf (.ref C) "__call__") (some (.builtin "type.__call__")) := looks_specialIn X x.call
  have typ : Looks g.M s.heap (isInstance (.ref C) (.type "type")) true := looks_instIn X x.typ
  have hm : Looks g.M s.heap (mroOf (.ref C)) [.ref C, .type "object"] := x.mros X
  have made : Looks g.M s.heap (Bind.madeBy (.ref C)) none := x.made X
  obtain ⟨h, gg, d, t, os⟩ := s
  dsimp only at *
  refine codeAny_of_tree ?_
  show wpAny _ _ (callAny (.ref C) _) _ _ _
  refine nd_load hC ?_
  show wpAny _ _ (callAny.viaDunder (.ref C) _) _ _ _
  unfold callAny.viaDunder
  refine wpAny_bind (call.at ?_)
  dsimp only
  rw [tc_bind]
  refine wpAny_bind (wpAny_pure (wpAny_bind (wpAny_pure ?_)))
  refine wpAny_pure (a := Fin.again (.call (.builtin "type.__call__") ⟨.ref C :: args, []⟩)) (And.intro rfl ?_)
  refine codeAny_call_builtin_at (Code.quiet_builtin _ (by decide +kernel)) entry_typeCall (check_slot tc_kind tc_split typ (tc_args _ _ _) ?_)
  unfold Builtin.«type.__call__»
  have hget : ∀ {A' : Around} {Q' : Value → Shared → Prop} {E' : Value → Shared → Prop}, Q' (.ref fN) ⟨h, gg, d, t + 1, os⟩ → wpAny (model g.prog g.w) A' (getAttr (.ref C) "__new__") Q' E' ⟨h, gg, d, t, os⟩ := fun hq' =>
    cls_bind (s := ⟨h, gg, d, t, os⟩) X hr e (wpAny_call (sm_get (s := ⟨h, gg, d, t + 1, os⟩) X hp (handed_on rfl hq')))
  repeat (first | (with_reducible refine hget ?_) | simp only [List.isEmpty_cons, Bool.false_eq_true, if_false] | (with_reducible refine wpAny_call ?_) | lk)
  refine hN _ ⟨h, gg, d, t + 1, os⟩ _ hroom.make (Step.ok ok (Step.refl ok)) fun v s' Z' O' st p => ?_
  have ok' := st.ok (Step.ok ok (Step.refl ok))
  obtain ⟨a, o, rfl, hat, hcls⟩ := hP Z' O' v p
  have hx := hat.get ok'
  have X' := ok'.K_in
  have st' := (Step.refl ok (t := t + 1)).trans st
  have fin := hq _ s' Z' O' st' p
  clear hget hm made typ call hN
  have t1 : Looks g.M s'.heap (typeOf (.ref a)) (.ref C) := hcls ▸ (Looks.ld hx).andThen .now
  have s1 : Looks g.M s'.heap (isSubtype (.ref C) (.ref C)) true := x.self X'
  have i1 : Looks g.M s'.heap (typeLookup (.ref C) "__init__") (some (.builtin "object.__init__")) := looks_findIn X' x.init
  have b1 : Looks g.M s'.heap (bindSpecial (.builtin "object.__init__") (.ref a)) (.builtin "object.__init__", [.ref a]) := Looks.of_pure (oi_bind _)
  have hinit : ∀ {A' : Around} {R' : Result → Shared → Prop}, R' (.ok (.ret .none)) s' → codeAny (model g.prog g.w) A' (.call (.builtin "object.__init__") ⟨.ref a :: args, []⟩) R' s' := fun hq' => code_objInit x X' hx hcls hargs hq'
  obtain ⟨h', gg', d', t', os'⟩ := s'
  unfold isInstance callSpecial? specialOf
  repeat (first | (with_reducible refine wpAny_call ?_) | lk)
  refine hinit ?_
  exact wpAny_pure (wpAny_pure fin)
end
end Mine
end
section
open PySem PySem.W PyProof.Rows PySem.Calls
set_option Elab.async false
set_option maxRecDepth 100000
set_option linter.unusedVariables false
namespace Mine
section
variable {g : Gd} {r : Frm} {ρ : Loc} {Z : Zp} {O : Own}
theorem Ex.weak {ρ' : Loc} {t : Sem Flow} {F : Flow → Loc → Zp → Own → Prop} (hw : ∀ x av, (x, av) ∈ ρ' → ∃ av0, (x, av0) ∈ ρ ∧ ∀ Z₁ v, Z.Le Z₁ → av0.P Z₁ v → av.P Z₁ v) (h : Ex g r ρ' Z O t F) : Ex g r ρ Z O t F :=
  fun B Z₁ s Q hz st hq => by
    have loc : ∃ m, s.heap.Ns r.L m ∧ ∀ x av, (x, av) ∈ ρ' → ∃ v, Rd r m Z₁ (Str.ofString x) v ∧ av.P Z₁ v := by
      obtain ⟨m, hn, hm⟩ := st.loc
      refine ⟨m, hn, fun x av hx => ?_⟩
      obtain ⟨av0, h0, hi⟩ := hw x av hx
      obtain ⟨v, hv, hp⟩ := hm x av0 h0
      exact ⟨v, hv, hi Z₁ v hz hp⟩
    exact h B Z₁ s Q hz { st with loc := loc } hq
/-- what a def starts with -/
def Start (Z : Zp) : List (String × Value) → Loc → Prop
  | [], [] => True
  | (x, v) :: bs, (y, av) :: ρ => x = y ∧ av.P Z v ∧ Start Z bs ρ
  | _, _ => False
theorem Start.mem {Z : Zp} : ∀ {bs : List (String × Value)} {ρ : Loc}, Start Z bs ρ → ∀ x av, (x, av) ∈ ρ → ∃ v, (x, v) ∈ bs ∧ av.P Z v
  | [], [], _, _, _, h => nomatch h
  | (x, v) :: bs, (y, av) :: ρ, ⟨e, hp, hs⟩, z, bv, h => by
    subst e
    rcases List.mem_cons.mp h with e | h
    · injection e with e1 e2; subst e1 e2; exact ⟨v, .head _, hp⟩
    · obtain ⟨w, hw, hp'⟩ := Start.mem hs z bv h; exact ⟨w, .tail _ hw, hp'⟩
  | [], _ :: _, h, _, _, _ => h.elim
  | _ :: _, [], h, _, _, _ => h.elim
/-- the contract of a def, with what its arguments are -/
theorem conDef {K : Frag} {f : Addr} {name qual : Str} {params : Arguments} {body : List Stmt} {scope : Scope} {cl : List (Str × Addr)} {dV kV doc pm cdv ct oc : Value} {an od : Option Addr} {osl : Array (Option Value)} {args : Args} {k : Nat}
    {P : Zp → Own → Value → Prop} (bs : List (String × Value)) (ρ₀ : Loc) (hst : Start Z bs ρ₀) (hK : g.K = K)
    (ho : K.lookup f = some ⟨oc, od, .func (fnX name qual params body scope cl dV kV doc pm an cdv ct), osl⟩) (hcd : codeIn K cdv qual = true)
    (hbind : ∀ s, Ok g Z O s → BindsTo s (fnX name qual params body scope cl dV kV doc pm an cdv ct) args (bs.map fun p => (Str.ofString p.1, p.2)))
    (hloc : (bs.all fun p => decide (scope.names.lookup (Str.ofString p.1) = some .local)) = true) (hnd : (bs.map (·.1)).Nodup)
    (hcell : (scope.names.all fun x => x.2 != .cell) = true) (hco : scope.isCoroutine = false) (hgen : scope.isGenerator = false) (hk : scope.kind = .function)
    (h : ∀ (L : Addr) (A : Around) (gs : Array GenState) (os : OsState),
      Exs g { name := qual, scope := scope, L := L, f := f, cd := cdv, cells := cl, A := A, k := k, Z₀ := Z, gens := gs, os := os } ρ₀ Z O body (fun fl _ Z' O' => P Z' O' (retOf fl))) :
    ConC g (k + 1) Z O (.call (.ref f) args) P :=
  conFn bs hK ho hcd hbind hloc hnd hcell hco hgen hk fun L A gs os => Ex.weak (fun x av hx => by
    obtain ⟨v, hv, hp⟩ := hst.mem x av hx
    exact ⟨aVal v, List.mem_map.mpr ⟨(x, v), hv, rfl⟩, fun Z₁ w hz e => by obtain rfl : w = v := e; exact av.mono hz hp⟩) (h L A gs os)
theorem evInt {e : Expr} {i : Int} {t : Tok} (h : Ev g r ρ Z O e (aVal (.int i t))) : Ev g r ρ Z O e (aInt i) := Ev.mono h fun _ v _ p => ⟨t, p⟩
end
end Mine
namespace Mine
theorem Dens.nil {Z : Zp} {vs : List Value} (h : Dens Z vs []) : vs = [] := by cases vs with | nil => rfl | cons _ _ => exact h.elim
theorem Dens.cons {Z : Zp} {vs : List Value} {a : AV} {as : List AV} (h : Dens Z vs (a :: as)) : ∃ v r, vs = v :: r ∧ a.P Z v ∧ Dens Z r as := by
  cases vs with
  | nil => exact h.elim
  | cons v r => exact ⟨v, r, rfl, h.1, h.2⟩
theorem Dens.one {Z : Zp} {vs : List Value} {a : AV} (h : Dens Z vs [a]) : ∃ v, vs = [v] ∧ a.P Z v := by
  obtain ⟨v, r, rfl, p, d⟩ := h.cons
  obtain rfl := d.nil
  exact ⟨v, rfl, p⟩
theorem Dens.two {Z : Zp} {vs : List Value} {a b : AV} (h : Dens Z vs [a, b]) : ∃ v w, vs = [v, w] ∧ a.P Z v ∧ b.P Z w := by
  obtain ⟨v, r, rfl, p, d⟩ := h.cons
  obtain ⟨w, rfl, q⟩ := d.one
  exact ⟨v, w, rfl, p, q⟩
theorem Dens.three {Z : Zp} {vs : List Value} {a b c : AV} (h : Dens Z vs [a, b, c]) : ∃ v w x, vs = [v, w, x] ∧ a.P Z v ∧ b.P Z w ∧ c.P Z x := by
  obtain ⟨v, r, rfl, p, d⟩ := h.cons
  obtain ⟨w, x, rfl, q⟩ := d.two
  exact ⟨v, w, x, rfl, p, q⟩
theorem Dens.four {Z : Zp} {vs : List Value} {a b c e : AV} (h : Dens Z vs [a, b, c, e]) : ∃ v w x y, vs = [v, w, x, y] ∧ a.P Z v ∧ b.P Z w ∧ c.P Z x ∧ e.P Z y := by
  obtain ⟨v, r, rfl, p, d⟩ := h.cons
  obtain ⟨w, x, y, rfl, q⟩ := d.three
  exact ⟨v, w, x, y, rfl, p, q⟩
end Mine
namespace Mine
section
variable {g : Gd} {r : Frm} {ρ : Loc} {Z : Zp} {O : Own}
/-- a for over known items; base tells the names that the turns keep -/
theorem exForB {x : String} {px pos : Pos} {iter : Expr} {body rest : List Stmt} {Pi : AV} {F : Flow → Loc → Zp → Own → Prop} (n : Nat) (item : Nat → AV) (base : Nat → Loc) (J : Nat → Zp → Own → Prop)
    (hi : Ev g r ρ Z O iter Pi) (hit : ∀ Z₁ v, Z.Le Z₁ → Pi.P Z₁ v → Con g r.k Z₁ O (pyIter v) (Iters g n item O)) (hb : ∀ p ∈ base 0, p ∈ ρ) (hx : ∀ i, ∀ p ∈ base i, p.1 ≠ x) (h0 : ∀ Z₁, Z.Le Z₁ → J 0 Z₁ O)
    (step : ∀ i Z' O', Z.Le Z' → i < n → J i Z' O' → Exs g r ((x, item i) :: base i) Z' O' body (fun fl ρ'' Z'' O'' => match fl with | .next | .cont => (∀ p ∈ base (i + 1), p ∈ ρ'') ∧ J (i + 1) Z'' O'' | .ret u => F (.ret u) ρ'' Z'' O'' | .brk => False))
    (done : ∀ Z' O', Z.Le Z' → J n Z' O' → Exs g r (base n) Z' O' rest F)
    (hl : r.env.kindOf (Str.ofString x) = some .local := by rfl) (hs : ∀ x, foldedSetIterable iter r.env x = pure x := by intro _; rfl) :
    Exs g r ρ Z O (.For (.Name (Str.ofString x) px) iter body [] pos :: rest) F := by
  refine exFor n item (fun i ρ' Z' O' => (∀ p ∈ base i, p ∈ ρ') ∧ J i Z' O') hi hit (fun Z₁ hz => ⟨hb, h0 Z₁ hz⟩) (fun i ρ' Z' O' hz hin ⟨hsub, hJ⟩ => ?_) (fun ρ' Z' O' hz ⟨hsub, hJ⟩ => Ex.less (done Z' O' hz hJ) hsub) hl hs
  refine Ex.less (step i Z' O' hz hin hJ) fun p hp => ?_
  rcases List.mem_cons.mp hp with rfl | hp
  · exact .head _
  · exact .tail _ (List.mem_filter.mpr ⟨hsub p hp, by simpa using hx i p hp⟩)
end
end Mine
end
section
open PySem PySem.W PyProof.Rows PySem.Calls PySem.Builtin PySem.Builtin.ObjectAttr PySem.Builtin.Getset_descriptor
set_option Elab.async false
set_option maxRecDepth 100000
set_option linter.unusedVariables false
set_option linter.unusedSimpArgs false
namespace Mine
abbrev instO (C d : Addr) (sl : List (Option Value)) : Obj := ⟨.ref C, some d, .plain, sl.toArray⟩
section
variable {g : Gd} {K : Frag} {C p a d : Addr} {k i : Nat} {Z : Zp} {O : Own} {name : Str} {od : Obj} {sl : List (Option Value)} {v : Value}
theorem inst_at {h : Heap} (h1 : h.get? a = some (instO C d sl)) (h2 : h.get? d = some od) : InstAt h a (instO C d sl) C (some od) := ⟨h1, rfl, rfl, h2⟩

/-- what K says of a slot of a class -/
structure SlotK (K : Frag) (C : Addr) (name : Str) (p : Addr) (i : Nat) : Prop where
  get : plainGet K C name = true
  cls : isClsIn K C = true
  find : findIn K (.ref C) name = some (some (.ref p))
  dget : specialIn K (.ref p) "__get__" = some (some (.builtin "member_descriptor.__get__"))
  takes : takesIn K (.ref p) = some true
  slot : slotIn K p C = some i
  sets : findIn K (.ref C) "__setattr__" = some (some (.builtin "object.__setattr__"))
  over : plainOver K C = true
  taker : takerIn K C name = some (some (.ref p))
  typ : typeIn K (.ref p) = some (.type "member_descriptor")
theorem conSlot {e : Bool} (hK : g.K = K) (x : SlotK K C name p i) (h : At Z O a (instO C d sl)) (hd : At Z O d od) (hv : (sl[i]?).join = some v) (hh : handedIn v = true) :
    Con g k Z O (getAttr (.ref a) name e) (fun Z' O' y => Z' = Z ∧ O' = O ∧ y = v) := by
  subst hK
  intro A s Q hr ok hq
  have I := inst_at (h.get ok) (hd.get ok)
  refine get_bind ok.K_in I (plainGet_of x.get).1 (findObj_data x.cls x.find x.dget x.takes) (plainGet_of x.get).2 (wpAny_call (slot_get (s := { s with toks := s.toks + 1 }) ok.K_in I x.slot (by simpa using hv) (handed_on hh ?_)))
  exact hq _ _ Z O (Step.refl ok) ⟨rfl, rfl, rfl⟩

/-- the slots with one of them set -/
def setAt (sl : List (Option Value)) (i : Nat) (v : Value) : List (Option Value) := (sl ++ List.replicate (i + 1 - sl.length) none).set i (some v)
theorem slot_write {prog : Program} {w : World} {A : Around} {R : Result → Shared → Prop} {s : Shared} (X : K.In s.heap) (I : InstAt s.heap a (instO C d sl) C (some od)) (hp : slotIn K p C = some i) (hi : i < 1000)
    (h : ∀ h', Heap.SameBut a s.heap h' → h'.get? a = some (instO C d (setAt sl i v)) → R (.ok (.ret .none)) { s with heap := h' }) :
    codeAny (model prog w) A (.call (.builtin "member_descriptor.__set__") ⟨[.ref p, .ref a, v], []⟩) R s := by
  obtain ⟨n, tn, owner, behind, tb, dd, sl', cd, ho, hc, hm, hb, rfl⟩ := slot_of X hp
  obtain ⟨hh, g, dr, t, os⟩ := s
  have L0 := I.type (M := model prog w)
  have L1 := looks_mroIn (M := model prog w) X hm
  have L2 : Looks (model prog w) hh (Slots.slotNamesOf (.ref C)) cd.slotNames := (looks_clsIn X hc).andThen .now
  have hx := I.at_
  dsimp only at ho hx L0 L1
  have f0 := looks_field (M := model prog w) ho 0 (v := .str n tn) rfl
  have f1 := looks_field (M := model prog w) ho 1 (v := owner) rfl
  have f3 := looks_field (M := model prog w) ho 3 (v := .builtin "proto.slot#set") rfl
  have f4 := looks_field (M := model prog w) ho 4 (v := .int behind tb) rfl
  refine codeAny_call_builtin KF.slot_mset.plain KF.entry_mset (KF.slot_mset.check _ _ _ _ _ _ _ _ ⟨_, ho, rfl⟩ (KF.args_mset _ _ _) ?_)
  unfold Builtin.«member_descriptor.__set__» descrSet descrStoreThrough descrCheckInstance descrNameAndClass isInstance
  have f5 : Looks (model prog w) hh (descrItself (.ref p)) [.ref p] := ((Looks.ld (part := none) ho).andThen .now).andThen (Looks.of_pure (by kernel_rfl))
  repeat lk
  refine ⟨Code.quiet_builtin _ (by decide +kernel), codeAny_builtin KF.entry_slotset ?_⟩
  unfold Builtin.«proto.slot#set» Slots.target
  repeat lk
  rw [if_neg hb]
  refine wpAny_pure (wpAny_bind ?_)
  unfold setSlotAt
  dsimp only
  rw [if_neg (by rw [sizeLine_eq]; omega)]
  refine wpAny_updatePart hx (wpAny_pure (h _ (Heap.SameBut.update ..) ?_))
  rw [Heap.get?_update_self _ hx (by rfl)]
  simp only [setAt, instO, Option.some.injEq, Obj.mk.injEq, true_and, List.size_toArray]
  apply Array.ext'
  simp
theorem conSetSlot (hK : g.K = K) (x : SlotK K C name p i) (hi : i < 1000) (hd : Z d = some od) :
    Con g k Z ((a, instO C d sl) :: O) (setAttr (.ref a) name v) (fun Z' O' _ => Z' = Z ∧ O' = (a, instO C d (setAt sl i v)) :: O) := by
  subst hK
  intro A s Q hr ok hq
  have I := inst_at (ok.own _ (.head _)).1 (ok.zin _ _ hd)
  refine set_plain ok.K_in I x.sets (osa_descr (s := { s with toks := s.toks + 1 }) KF.slot_mset ok.K_in I x.over x.taker x.typ (slot_write (s := { s with toks := s.toks + 1 }) ok.K_in I x.slot hi fun h' hs ha => ?_))
  exact hq _ _ Z _ (Step.write ok (s.toks + 1) hs ha) ⟨rfl, rfl⟩
end
end Mine
end
section
open PySem PySem.W PyProof.Rows PySem.Calls
set_option Elab.async false
set_option maxRecDepth 100000
set_option linter.unusedVariables false
namespace Mine
theorem bt_super : bootBuiltins "super" = some (.type "super") := by decide +kernel
theorem bt_list : bootBuiltins "list" = some (.type "list") := by decide +kernel
theorem bt_tuple : bootBuiltins "tuple" = some (.type "tuple") := by decide +kernel
theorem bt_slice : bootBuiltins "slice" = some (.type "slice") := by decide +kernel
theorem bt_range : bootBuiltins "range" = some (.type "range") := by decide +kernel
theorem bt_int : bootBuiltins "int" = some (.type "int") := by decide +kernel
theorem bt_isinstance : bootBuiltins "isinstance" = some (.builtin "isinstance") := by decide +kernel
theorem bt_max : bootBuiltins "max" = some (.builtin "max") := by decide +kernel
theorem bt_min : bootBuiltins "min" = some (.builtin "min") := by decide +kernel
section
variable {g : Gd} {r : Frm} {ρ : Loc} {Z : Zp} {O : Own}
theorem Evs.len {pos : Pos} {es : List Expr} {as : List AV} {Z' : Zp} {vs : List Value} (h : Dens Z' vs as) : vs.length = as.length := by
  induction vs generalizing as with
  | nil => cases as with | nil => rfl | cons _ _ => exact h.elim
  | cons v vs ih => cases as with | nil => exact h.elim | cons a as => simp [ih h.2]
theorem opList {pos : Pos} {es : List Expr} {as : List AV} (h : Evs g r ρ Z O pos es as) (hs : as.length ≤ sizeLine) :
    Op g r ρ Z O (eval (.List es pos) r.env) (fun Z' O' v => ∃ a vs, v = .ref a ∧ O' = (a, listO vs 0) :: O ∧ Dens Z' vs as) := by
  intro B Z₁ s Q hz st hq
  refine List_ (h.1 B Z₁ s _ hz st fun vs s' Z' O' hz' st' ⟨e, p⟩ => ?_)
  subst e
  exact Op.of_con (ρ := ρ) (fun Z₃ hz3 => (conNewList (by rw [Evs.len (pos := pos) (es := es) p]; exact hs)).mono fun Z4 O4 v hz4 ⟨a, e1, e2, e3⟩ => ⟨a, vs, e1, e3, p.mono (hz3.trans hz4)⟩) B Z' s' Q (.refl _) st' fun v' s'' Z'' O'' hz'' st'' p' => hq v' s'' Z'' O'' (hz'.trans hz'') st'' p'
theorem opNil {pos : Pos} : Op g r ρ Z O (eval (.List [] pos) r.env) (fun Z' O' v => ∃ a, v = .ref a ∧ O' = (a, listO [] 0) :: O) :=
  (opList Evs.nil (Nat.zero_le _)).mono fun Z' O' v _ ⟨a, vs, e1, e2, d⟩ => ⟨a, e1, by rw [e2, d.nil]⟩
theorem opTuple {pos : Pos} {es : List Expr} {as : List AV} {n : Nat} (h : Evs g r ρ Z O pos es as) (hs : as.length ≤ sizeLine) :
    Op g r ρ Z O (eval (.Tuple es n pos) r.env) (fun Z' O' v => O' = O ∧ ∃ a vs, v = .ref a ∧ Z' a = some (tupO vs 0) ∧ Dens Z' vs as) := by
  intro B Z₁ s Q hz st hq
  refine Tuple_ (h.1 B Z₁ s _ hz st fun vs s' Z' O' hz' st' ⟨e, p⟩ => ?_)
  subst e
  exact Op.of_con (ρ := ρ) (fun Z₃ hz3 => (conNewTup (by rw [Evs.len (pos := pos) (es := es) p]; exact hs)).mono fun Z4 O4 v hz4 ⟨a, e1, _, e2, e3⟩ => ⟨e3, a, vs, e1, e2, p.mono (hz3.trans hz4)⟩) B Z' s' Q (.refl _) st' fun v' s'' Z'' O'' hz'' st'' p' => hq v' s'' Z'' O'' (hz'.trans hz'') st'' p'
theorem evSlot {K : Frag} {C a d p : Addr} {nm : Str} {i : Nat} {e : Expr} {pos : Pos} {sl : List (Option Value)} {od : Obj} {v : Value} (hK : g.K = K) (x : SlotK K C nm p i) (he : Ev g r ρ Z O e (aVal (.ref a)))
    (h : At Z O a (instO C d sl)) (hd : At Z O d od) (hv : (sl[i]?).join = some v) (hh : handedIn v = true := by rfl)
    (heq : eval (.Attribute e nm pos) r.env = (do
      let o ← eval e r.env
      standAt pos.atName
      let r ← holding [o] (getAttr o nm true)
      letTemporaryGo e o r
      pure r) := by with_unfolding_all rfl) : Ev g r ρ Z O (.Attribute e nm pos) (aVal v) :=
  evAttr he (fun Z₁ o hz ho => by
    obtain rfl : o = .ref a := ho
    exact (conSlot hK x (h.le hz) (hd.le hz) hv hh).mono fun Z' O' y _ ⟨_, e2, e3⟩ => ⟨e2, e3⟩) heq
theorem exRetEv {e : Expr} {pos : Pos} {rest : List Stmt} {P : AV} {F : Flow → Loc → Zp → Own → Prop} (he : Ev g r ρ Z O e P) (h : ∀ Z' v, Z.Le Z' → P.P Z' v → F (.ret v) ρ Z' O) :
    Exs g r ρ Z O (.Return (some e) pos :: rest) F := exRet he fun Z' O' v hz ⟨e1, p⟩ => by subst e1; exact h Z' v hz p
/-- self.name = value -/
theorem exSetAttr {K : Frag} {C a d p : Addr} {nm : Str} {i : Nat} {o e : Expr} {apos pos : Pos} {sl : List (Option Value)} {od : Obj} {rest : List Stmt} {P : Zp → Own → Value → Prop} {F : Flow → Loc → Zp → Own → Prop} (hK : g.K = K) (x : SlotK K C nm p i) (hi : i < 1000) (hd : Z d = some od)
    (he : Op g r ρ Z ((a, instO C d sl) :: O) (eval e r.env) P) (ho : ∀ Z' O' v, Z.Le Z' → P Z' O' v → ∃ O₁, O' = (a, instO C d sl) :: O₁ ∧ Ev g r ρ Z' O' o (aVal (.ref a)))
    (h : ∀ Z' O' v, Z.Le Z' → P Z' ((a, instO C d sl) :: O') v → Exs g r ρ Z' ((a, instO C d (setAt sl i v)) :: O') rest F)
    (hs : swapsWith e (some (.Attribute o nm apos)) pos.line r.env = pure false := by rfl) : Exs g r ρ Z ((a, instO C d sl) :: O) (.Assign [.Attribute o nm apos] e pos :: rest) F := by
  refine exs_cons (F₁ := fun fl ρ' Z' O' => fl = .next ∧ ρ' = ρ ∧ Exs g r ρ Z' O' rest F) ?_ (fun ρ' Z' O' hz ⟨_, e1, e2⟩ => by subst e1; exact e2) fun fl ρ' Z' O' hne _ q => absurd q.1 hne
  intro B Z₁ s Q hz st hq
  refine plainObj_wpAny_Assign_Attribute (he B Z₁ s _ hz st fun v s' Z' O' hz' st' pv => ?_) hs
  obtain ⟨O₁, e1, hov⟩ := ho Z' O' v (hz.trans hz') pv
  subst e1
  refine hov B Z' s' _ (.refl _) st' fun ov s2 Z2 O2 hz2 st2 ⟨e2, e3⟩ => ?_
  subst e2
  obtain rfl : ov = .ref a := e3
  refine (conSetSlot (k := r.k) hK x hi (hz2 _ _ (hz' _ _ (hz _ _ hd)))) r.A s2 _ st2.room st2.ok fun _ s3 Z3 O3 stp ⟨e4, e5⟩ => ?_
  subst e4 e5
  exact hq .next ρ s3 Z3 _ (hz'.trans hz2) (st2.step stp) ⟨rfl, rfl, (h Z' O₁ v (hz.trans hz') pv).le hz2⟩
theorem exSetAttrEv {K : Frag} {C a d p : Addr} {nm : Str} {i : Nat} {o e : Expr} {apos pos : Pos} {sl : List (Option Value)} {od : Obj} {rest : List Stmt} {P : AV} {F : Flow → Loc → Zp → Own → Prop} (hK : g.K = K) (x : SlotK K C nm p i) (hd : Z d = some od)
    (he : Ev g r ρ Z ((a, instO C d sl) :: O) e P) (ho : Ev g r ρ Z ((a, instO C d sl) :: O) o (aVal (.ref a)))
    (h : ∀ Z' v, Z.Le Z' → P.P Z' v → Exs g r ρ Z' ((a, instO C d (setAt sl i v)) :: O) rest F) (hi : i < 1000 := by decide)
    (hs : swapsWith e (some (.Attribute o nm apos)) pos.line r.env = pure false := by rfl) : Exs g r ρ Z ((a, instO C d sl) :: O) (.Assign [.Attribute o nm apos] e pos :: rest) F :=
  exSetAttr hK x hi hd he (fun Z' O' v hz ⟨e1, _⟩ => ⟨O, e1, by rw [e1]; exact ho.le hz⟩) (fun Z' O' v hz ⟨e1, p⟩ => by injection e1 with _ e2; subst e2; exact h Z' v hz p) hs

theorem opMethG {o : Expr} {nm : Str} {f : Value} {first : Value → List Value} {apos pos : Pos} {es : List Expr} {as : List AV} {Po : AV} {pl : Sem Bool} {P : Zp → Own → Value → Prop} (ho : Ev g r ρ Z O o Po)
    (hm : ∀ Z₁ ov, Z.Le Z₁ → Po.P Z₁ ov → Con g r.k Z₁ O (getMethod ov nm pl) (fun Z' O' fx => O' = O ∧ fx = (f, first ov))) (hk : Kp g f) (h : Evs g r ρ Z O pos es as)
    (hc : ∀ Z₁ ov vs, Z.Le Z₁ → Po.P Z₁ ov → Dens Z₁ vs as → Con g r.k Z₁ O (call f (first ov ++ vs)) P)
    (he : eval (.Call (.Attribute o nm apos) es [] pos) r.env = (do
      let ov ← eval o r.env
      standAt apos.atName
      let (f, first) ← holding [ov] (getMethod ov nm pl)
      callWith pos f first (backTo pos (starEach es r.env)) []) := by rfl) : Op g r ρ Z O (eval (.Call (.Attribute o nm apos) es [] pos) r.env) P := by
  intro B Z₁ s Q hz st hq
  refine MethodCall_ (ho B Z₁ s _ hz st fun ov s' Z' O' hz' st' ⟨e, p⟩ => ?_) he
  subst e
  refine Op.of_con (ρ := ρ) (fun Z₃ hz3 => hm Z₃ ov (hz.trans (hz'.trans hz3)) (Po.mono hz3 p)) B Z' s' _ (.refl _) st' fun fx s2 Z2 O2 hz2 st2 ⟨e, p2⟩ => ?_
  subst e p2
  exact opCallWith (first := first ov) (Z := Z2) hk (h.le (hz.trans (hz'.trans hz2))) (fun Z₃ vs h3 d => hc Z₃ ov vs (hz.trans (hz'.trans (hz2.trans h3))) (Po.mono (hz2.trans h3) p) d) B Z2 s2 Q (.refl _) st2
    fun v' s'' Z'' O'' hz'' st'' p' => hq v' s'' Z'' O'' (hz'.trans (hz2.trans hz'')) st'' p'
/-- len of a list in reach -/
theorem evLen {K : Frag} {e : Expr} {pos p : Pos} {a : Addr} {vs : List Value} {n : Nat} (hK : g.K = K) (hb : nsIn K mainGlobals "len" = some none) (he : Ev g r ρ Z O e (aVal (.ref a))) (h : At Z O a (listO vs n)) (hs : vs.length ≤ sizeLine)
    (hx : r.env.kindOf "len" = some .globalImplicit := by rfl) (hstar : starEach [e] r.env = [(false, eval e r.env)] := by rfl)
    (heq : eval (.Call (.Name "len" p) [e] [] pos) r.env = (do callWith pos (← eval (.Name "len" p) r.env) [] (backTo pos (starEach [e] r.env)) (backToKw pos (keywordEach [] r.env))) := by rfl) :
    Ev g r ρ Z O (.Call (.Name "len" p) [e] [] pos) (aInt vs.length) :=
  opCall (f := .builtin "len") (Ev.boot hK hb boot_len (by decide) hx) Kp.builtin (Evs.cons he Evs.nil hstar) (fun Z₁ ws hz hd => by
    obtain ⟨v, rfl, e⟩ := hd.one
    obtain rfl : v = .ref a := e
    exact (conLen (h.le hz) hs).mono fun Z' O' v _ ⟨_, e2, e3⟩ => ⟨e2, e3⟩) heq
/-- a super object -/
def aSup (C : Addr) : AV := ⟨fun Z v => ∃ so, v = .ref so ∧ Z so = some (superO C), fun h ⟨so, a, b⟩ => ⟨so, a, h _ _ b⟩⟩
end
end Mine
end
section
open PySem PySem.W PyProof.Rows PySem.Calls
set_option Elab.async false
set_option maxRecDepth 100000
set_option linter.unusedVariables false
namespace Mine
/-- the children of a node: each but the last holds w leaves -/
def Kids (N : Addr → List Addr → Prop) (w : Nat) : List Addr → List Addr → Prop
  | [], ls => ls = []
  | c :: cs, ls => ls ≠ [] ∧ N c (ls.take w) ∧ Kids N w cs (ls.drop w)
/-- a node of height h and its leaves -/
def NodeZ (Z : Zp) : Nat → Addr → List Addr → Prop
  | 0 => fun a ls => ls = [a]
  | h + 1 => fun a ls => ∃ cs : List Addr, LZ Z a (cs.map .ref) ∧ Kids (NodeZ Z h) (32 ^ h) cs ls
theorem Kids.imp {N N' : Addr → List Addr → Prop} {w : Nat} (h : ∀ c ls, N c ls → N' c ls) : ∀ {cs ls}, Kids N w cs ls → Kids N' w cs ls
  | [], _, e => e
  | _ :: _, _, ⟨a, b, c⟩ => ⟨a, h _ _ b, Kids.imp h c⟩
theorem NodeZ.le {Z Z' : Zp} (hz : Z.Le Z') : ∀ {h a ls}, NodeZ Z h a ls → NodeZ Z' h a ls
  | 0, _, _, e => e
  | h + 1, _, _, ⟨cs, x, y⟩ => ⟨cs, x.le hz, y.imp fun _ _ => NodeZ.le hz⟩
/-- the leaves and what they hold -/
def Leaves (Z : Zp) : List Addr → List (List Value) → Prop
  | [], vss => vss = []
  | l :: ls, vss => ∃ vs r, vss = vs :: r ∧ LZ Z l vs ∧ vs.length = 32 ∧ Leaves Z ls r
theorem Leaves.le {Z Z' : Zp} (hz : Z.Le Z') : ∀ {ls vss}, Leaves Z ls vss → Leaves Z' ls vss
  | [], _, e => e
  | _ :: _, _, ⟨vs, r, a, b, c, d⟩ => ⟨vs, r, a, b.le hz, c, Leaves.le hz d⟩
theorem Leaves.length {Z : Zp} : ∀ {ls vss}, Leaves Z ls vss → vss.length = ls.length
  | [], _, e => by rw [show _ = [] from e]; rfl
  | _ :: _, _, ⟨vs, r, a, b, c, d⟩ => by subst a; simp [Leaves.length d]
theorem Leaves.flat {Z : Zp} : ∀ {ls vss}, Leaves Z ls vss → vss.flatten.length = 32 * ls.length
  | [], _, e => by rw [show _ = [] from e]; rfl
  | _ :: _, _, ⟨vs, r, a, b, c, d⟩ => by subst a; simp only [List.flatten_cons, List.length_append, Leaves.flat d, c, List.length_cons]; omega
theorem Leaves.take {Z : Zp} : ∀ {ls vss}, Leaves Z ls vss → ∀ n, Leaves Z (ls.take n) (vss.take n)
  | [], _, e, n => by rw [show _ = [] from e]; simp [Leaves]
  | _ :: _, _, ⟨vs, r, a, b, c, d⟩, 0 => rfl
  | _ :: _, _, ⟨vs, r, a, b, c, d⟩, n + 1 => by subst a; exact ⟨vs, _, rfl, b, c, Leaves.take d n⟩
theorem Leaves.drop {Z : Zp} : ∀ {ls vss}, Leaves Z ls vss → ∀ n, Leaves Z (ls.drop n) (vss.drop n)
  | [], _, e, n => by rw [show _ = [] from e]; simp [Leaves]
  | _ :: _, _, ⟨vs, r, a, b, c, d⟩, 0 => ⟨vs, r, a, b, c, d⟩
  | _ :: _, _, ⟨vs, r, a, b, c, d⟩, n + 1 => by subst a; exact Leaves.drop d n
theorem Leaves.append {Z : Zp} : ∀ {ls vss ls' vss'}, Leaves Z ls vss → Leaves Z ls' vss' → Leaves Z (ls ++ ls') (vss ++ vss')
  | [], _, _, _, e, y => by rw [show _ = [] from e]; exact y
  | _ :: _, _, _, _, ⟨vs, r, a, b, c, d⟩, y => by subst a; exact ⟨vs, _, rfl, b, c, Leaves.append d y⟩

abbrev vecO (C d : Addr) (n : Int) (t1 : Tok) (root : Addr) (sh : Int) (t2 : Tok) (tail : Addr) (off : Int) (t3 : Tok) : Obj :=
  instO C d [some (.int n t1), some (.ref root), some (.int sh t2), some (.ref tail), some (.int off t3)]
def capV : Nat := 1048576
/-- a vector whole: its instance, its leaves, its tail -/
structure Vec (Z : Zp) (C a : Addr) (ls : List Addr) (vss : List (List Value)) (t : Addr) (tl : List Value) (h : Nat) (root : Addr) : Prop where
  obj : ∃ d t1 t2 t3, Z a = some (vecO C d (32 * ls.length + tl.length) t1 root (5 * (h + 1)) t2 t (32 * ls.length) t3) ∧ Z d = some emptyDict
  node : NodeZ Z (h + 1) root ls
  cap : ls.length ≤ 32 ^ (h + 1)
  leaves : Leaves Z ls vss
  tail : LZ Z t tl
  tlen : tl.length ≤ 32
  small : 32 * ls.length + tl.length ≤ capV
  hmax : h ≤ 3
theorem Vec.le {Z Z' : Zp} {C a : Addr} {ls : List Addr} {vss : List (List Value)} {t : Addr} {tl : List Value} {h : Nat} {root : Addr} (hz : Z.Le Z') (x : Vec Z C a ls vss t tl h root) : Vec Z' C a ls vss t tl h root :=
  { x with obj := let ⟨d, t1, t2, t3, e1, e2⟩ := x.obj; ⟨d, t1, t2, t3, hz _ _ e1, hz _ _ e2⟩, node := x.node.le hz, leaves := x.leaves.le hz, tail := x.tail.le hz }
/-- a vector that holds these values -/
def PV (Z : Zp) (C a : Addr) (xs : List Value) : Prop := ∃ ls vss t tl h root, Vec Z C a ls vss t tl h root ∧ xs = vss.flatten ++ tl
theorem PV.le {Z Z' : Zp} {C a : Addr} {xs : List Value} (hz : Z.Le Z') (x : PV Z C a xs) : PV Z' C a xs :=
  let ⟨ls, vss, t, tl, h, root, v, e⟩ := x; ⟨ls, vss, t, tl, h, root, v.le hz, e⟩
theorem PV.len {Z : Zp} {C a : Addr} {xs : List Value} (x : PV Z C a xs) : xs.length ≤ capV := by
  obtain ⟨ls, vss, t, tl, h, root, v, rfl⟩ := x
  rw [List.length_append, v.leaves.flat]; exact v.small

section
variable {g : Gd} {K : Frag} {C a d f : Addr} {k : Nat} {Z : Zp} {O : Own} {nm : Str} {sl : List (Option Value)}
/-- what K says of a method -/
structure MethK (K : Frag) (C : Addr) (nm : Str) (f : Addr) : Prop where
  get : plainGet K C nm = true
  find : findIn K (.ref C) nm = some (some (.ref f))
  fn : isFn K (.ref f) = true
  keep : keepIn K (.ref f) = true
theorem conMeth {pl : Sem Bool} (hK : g.K = K) (x : MethK K C nm f) (h : At Z O a (instO C d sl)) (hd : At Z O d emptyDict) : Con g k Z O (getMethod (.ref a) nm pl) (fun Z' O' fx => O' = O ∧ fx = (.ref f, [.ref a])) := by
  subst hK
  intro A s Q hr ok hq
  exact method_fn ok.K_in (inst_at (h.get ok) (hd.get ok)) (plainGet_of x.get).1 (plainGet_of x.get).2 x.find (beq_iff_eq.mp x.fn) (by rfl) (hq _ s Z O (Step.refl ok (t := s.toks)) ⟨rfl, rfl⟩)
end
end Mine
end
section
open PySem PySem.W PyProof.Rows PySem.Calls
set_option Elab.async false
set_option maxRecDepth 100000
set_option maxHeartbeats 1000000
set_option linter.unusedVariables false
namespace Mine
local macro_rules | `(tactic| walk_at "mem") => `(tactic| first | exact List.Mem.head _ | (refine List.Mem.tail _ ?_; walk_at "mem"))
local macro_rules | `(tactic| walk_at "nm") => `(tactic| (refine' Ev.name ?hm ?hd; (case hm => walk_at "mem"); (case hd => decide)))
local macro_rules | `(tactic| walk_at "sub") => `(tactic| first | exact List.forall_mem_nil _ | (refine List.forall_mem_cons.mpr ⟨?_, ?_⟩; (first | walk_at "mem" | simp); walk_at "sub"))
local macro_rules | `(tactic| walk_at "upd") => `(tactic| dsimp only [updL, List.filter, String.reduceBNe])
theorem fillK (w : World) : (KK w.params = KK w.params) ∧ (PySem.Challenge.rw_nc0017_01.name = PySem.Challenge.rw_nc0017_01.name) := by k_fill; exact ⟨rfl, rfl⟩
/-- the class's own address and the text's objects -/
abbrev C : Addr := 296
theorem kCount (w : World) : SlotK (KK w.params) C "_count" 298 0 := by constructor <;> k_is
theorem kRoot (w : World) : SlotK (KK w.params) C "_root" 299 1 := by constructor <;> k_is
theorem kShift (w : World) : SlotK (KK w.params) C "_shift" 300 2 := by constructor <;> k_is
theorem kTail (w : World) : SlotK (KK w.params) C "_tail" 301 3 := by constructor <;> k_is
theorem kOff (w : World) : SlotK (KK w.params) C "_tail_offset" 302 4 := by constructor <;> k_is
theorem mFill (w : World) : MethK (KK w.params) C "_fill_list" 169 := by constructor <;> k_is
theorem mTolist (w : World) : MethK (KK w.params) C "tolist" 176 := by constructor <;> k_is
section
variable {g : Gd} (hK : g.K = KK g.w.params)
include hK
theorem fill_ok {self d : Addr} {sl : List (Option Value)} : ∀ (h : Nat) {Z : Zp} {O : Own} {node : Addr} {ls : List Addr} {vss : List (List Value)} {t : Addr} {pre : List Value} {n : Nat} {i : Int} {tk : Tok},
    i = 5 * h → NodeZ Z h node ls → Leaves Z ls vss → Z self = some (instO C d sl) → Z d = some emptyDict → pre.length + 32 * ls.length ≤ sizeLine →
    Con g (h + 1) Z ((t, listO pre n) :: O) (call (.ref 169) [.ref self, .ref node, .int i tk, .ref t]) (fun Z' O' v => v = .none ∧ ∃ n', O' = (t, listO (pre ++ vss.flatten) n') :: O) := by
  intro h
  induction h with
  | zero =>
    intro Z O node ls vss t pre n i tk hi hn hl hs hd hz
    refine ConC.con (conDef (bs := [("self", .ref self), ("node", .ref node), ("shift", .int i tk), ("the_list", .ref t)]) [("self", aVal (.ref self)), ("node", aVal (.ref node)), ("shift", aInt i), ("the_list", aVal (.ref t))] ⟨rfl, rfl, rfl, rfl, rfl, ⟨_, rfl⟩, rfl, rfl, trivial⟩ hK (by k_is) (by k_is) (fun s _ => BindsTo.of_eq rfl) (by rfl) (by simp) (by rfl) rfl rfl rfl ?_)
    intro L A gs os
    refine exIf (Tst.of (by walk_at "nm") truInt) (fun h => absurd h (by simp [hi])) (fun _ => ?_)
    obtain rfl : ls = [node] := hn
    obtain ⟨vs, rr, rfl, ⟨m, hm⟩, hlen, hr⟩ := hl
    obtain rfl : rr = [] := hr
    refine exExpr (P := fun Z' O' => ∃ n', O' = (t, listO (pre ++ [vs].flatten) n') :: O) (opMeth (f := .builtin "list.extend") (by walk_at "nm") (fun Z₁ ov hz hov => ?_) Kp.builtin (Evs.cons (by walk_at "nm") Evs.nil) (fun Z₁ ov ws hz1 hov hd => ?_)) (fun Z' O' hz h => exs_nil fun Z₁ hz1 => ⟨rfl, h⟩)
    · obtain rfl : ov = .ref t := hov
      exact conGetL F.slot_list_extend md_extend (.inr (.head _))
    · obtain rfl : ov = .ref t := hov
      obtain ⟨v, rfl, e⟩ := hd.one
      obtain rfl : v = .ref node := e
      refine (conExtend (.inl (hz1 _ _ hm)) (by simp at hz; omega)).mono fun Z' O' v _ ⟨e1, e2, e3⟩ => ⟨e1, by simpa using e3⟩
  | succ h ih =>
    intro Z O node ls vss t pre n i tk hi hn hl hs hd hz
    refine ConC.con (conDef (bs := [("self", .ref self), ("node", .ref node), ("shift", .int i tk), ("the_list", .ref t)]) [("self", aVal (.ref self)), ("node", aVal (.ref node)), ("shift", aInt i), ("the_list", aVal (.ref t))] ⟨rfl, rfl, rfl, rfl, rfl, ⟨_, rfl⟩, rfl, rfl, trivial⟩ hK (by k_is) (by k_is) (fun s _ => BindsTo.of_eq rfl) (by rfl) (by simp) (by rfl) rfl rfl rfl ?_)
    intro L A gs os
    refine exIf (Tst.of (by walk_at "nm") truInt) (fun _ => ?_) (fun h => absurd h (by simp [hi]; omega))
    refine exAug (by walk_at "mem") (evInt (Ev.glob hK (by k_is))) augSub ?_
    walk_at "upd"
    obtain ⟨cs, ⟨m, hm⟩, hkids⟩ := hn
    refine exForB cs.length (fun j => aVal ((cs.map Value.ref).getD j .none)) (fun _ => [("shift", aInt (i - 5)), ("self", aVal (.ref self)), ("the_list", aVal (.ref t))])
      (fun j Z' O' => Kids (NodeZ Z' h) (32 ^ h) (cs.drop j) (ls.drop (j * 32 ^ h)) ∧ ∃ n', O' = (t, listO (pre ++ (vss.take (j * 32 ^ h)).flatten) n') :: O) (by walk_at "nm") (fun Z₁ v hz1 e => ?_) (by walk_at "sub") (fun _ => by walk_at "sub") (fun Z₁ hz1 => ⟨?_, n, by simp⟩) (fun j Z' O' hz1 hj pk => ?_) (fun Z' O' hz1 ⟨hk, n', e⟩ => exs_nil fun Z₁ hz2 => ⟨rfl, n', ?_⟩)
    · obtain rfl : v = .ref node := e
      have := iterList (g := g) (k := h + 1) (O := (t, listO pre n) :: O) (hz1 _ _ hm)
      rw [List.length_map] at this
      exact this
    · simpa using hkids.imp fun _ _ => NodeZ.le hz1
    · obtain ⟨hk, n', e⟩ := pk
      subst e
      have hdrop : cs.drop j = cs[j] :: cs.drop (j + 1) := List.drop_eq_getElem_cons hj
      rw [hdrop] at hk
      obtain ⟨hne, hc, hk'⟩ := hk
      have hl' := ((hl.le hz1).drop (j * 32 ^ h)).take (32 ^ h)
      have hlen : (ls.drop (j * 32 ^ h)).length + j * 32 ^ h = ls.length := by
        rw [List.length_drop]
        have : (ls.drop (j * 32 ^ h)).length ≠ 0 := fun e => hne (List.length_eq_zero_iff.mp e)
        rw [List.length_drop] at this; omega
      have hfl := ((hl.take (j * 32 ^ h))).flat
      have hfl2 : (ls.take (j * 32 ^ h)).length = j * 32 ^ h := by rw [List.length_take]; rw [List.length_drop] at hlen; omega
      have hfl3 : ((ls.drop (j * 32 ^ h)).take (32 ^ h)).length ≤ (ls.drop (j * 32 ^ h)).length := by rw [List.length_take]; omega
      refine exExpr (P := fun Z' O' => ∃ n', O' = (t, listO (pre ++ (vss.take ((j + 1) * 32 ^ h)).flatten) n') :: O) (opMeth (f := .ref 169) (by walk_at "nm") (fun Z₁ ov hz hov => ?_) (Kp.own hK (by k_is)) (Evs.cons (by walk_at "nm") (Evs.cons (by walk_at "nm") (Evs.cons (by walk_at "nm") Evs.nil))) (fun Z₁ ov ws hz2 hov hds => ?_))
        (fun Z'' O'' hz2 p => exs_nil fun Z₁ hz3 => ⟨by walk_at "sub", ?_, p⟩)
      · obtain rfl : ov = .ref self := hov
        exact conMeth hK (mFill g.w) (.inl (hz _ _ (hz1 _ _ hs))) (.inl (hz _ _ (hz1 _ _ hd)))
      · obtain rfl : ov = .ref self := hov
        obtain ⟨v1, v2, v3, rfl, e1, ⟨tk2, rfl⟩, e3⟩ := hds.three
        obtain rfl : v3 = .ref t := e3
        have e1' : v1 = .ref cs[j] := by
          have : v1 = (cs.map Value.ref).getD j .none := e1
          rw [this]; simp [List.getD, hj]
        subst e1'
        refine (ih (by omega) (hc.le hz2) (hl'.le hz2) (hz2 _ _ (hz1 _ _ hs)) (hz2 _ _ (hz1 _ _ hd)) ?_).mono fun Z' O' v _ ⟨e1, n'', e2⟩ => ⟨e1, n'', ?_⟩
        · rw [List.length_append, hfl, hfl2]; omega
        · rw [e2, List.append_assoc, ← List.flatten_append]
          rw [show (j + 1) * 32 ^ h = j * 32 ^ h + 32 ^ h from by rw [Nat.add_mul]; omega, List.take_add]
      · have : (j + 1) * 32 ^ h = j * 32 ^ h + 32 ^ h := by rw [Nat.add_mul]; omega
        rw [List.drop_drop] at hk'
        rw [this]
        exact hk'.imp fun _ _ => NodeZ.le (hz2.trans hz3)
    · subst e
      rw [List.drop_length] at hk
      have : vss.take (cs.length * 32 ^ h) = vss := by
        apply List.take_of_length_le
        rw [hl.length]
        have : ls.drop (cs.length * 32 ^ h) = [] := hk
        exact List.drop_eq_nil_iff.mp this
      rw [this]

/-- a new list that is owned, whatever else was frozen -/
def NewL' (O : Own) (vs : List Value) : Zp → Own → Value → Prop := fun Z' O' v => ∃ a n, v = .ref a ∧ O' = (a, listO vs n) :: O
theorem tolist_ok {Z : Zp} {O : Own} {a : Addr} {xs : List Value} (hv : PV Z C a xs) : Con g 8 Z O (call (.ref 176) [.ref a]) (NewL' O xs) := by
  have hlen := hv.len
  obtain ⟨ls, vss, t, tl, h, root, v, rfl⟩ := hv
  obtain ⟨d, t1, t2, t3, hobj, hd⟩ := v.obj
  have hfl := v.leaves.flat
  have hcap : capV + 64 ≤ sizeLine := by decide
  rw [List.length_append] at hlen
  have hh := v.hmax
  refine ConC.con (conDef (bs := [("self", .ref a)]) [("self", aVal (.ref a))] ⟨rfl, rfl, trivial⟩ hK (by k_is) (by k_is) (fun s _ => BindsTo.of_eq rfl) (by rfl) (by simp) (by rfl) rfl rfl rfl ?_)
  intro L A gs os
  refine exAssignO opNil (fun Z₁ O₁ v₁ hz1 pk => ?_)
  obtain ⟨b, e1, e2⟩ := pk
  subst e1 e2
  walk_at "upd"
  refine exExpr (P := fun Z' O' => ∃ n', O' = (b, listO ([] ++ vss.flatten) n') :: O) (opMeth (f := .ref 169) (by walk_at "nm") (fun Z₂ ov hz hov => ?_) (Kp.own hK (by k_is))
    (Evs.cons (evSlot hK (kRoot g.w) (by walk_at "nm") (.inl (hz1 _ _ hobj)) (.inl (hz1 _ _ hd)) rfl) (Evs.cons (evSlot hK (kShift g.w) (by walk_at "nm") (.inl (hz1 _ _ hobj)) (.inl (hz1 _ _ hd)) rfl) (Evs.cons (by walk_at "nm") Evs.nil))) (fun Z₂ ov ws hz2 hov hds => ?_)) (fun Z₂ O₂ hz2 pk => ?_)
  · obtain rfl : ov = .ref a := hov
    exact conMeth hK (mFill g.w) (.inl (hz _ _ (hz1 _ _ hobj))) (.inl (hz _ _ (hz1 _ _ hd)))
  · obtain rfl : ov = .ref a := hov
    obtain ⟨v1, v2, v3, rfl, e1, e2, e3⟩ := hds.three
    obtain rfl : v1 = .ref root := e1
    obtain rfl : v2 = .int (5 * (h + 1)) t2 := e2
    obtain rfl : v3 = .ref b := e3
    refine ((fill_ok hK (h + 1) (by simp) (v.node.le (hz1.trans hz2)) (v.leaves.le (hz1.trans hz2)) (hz2 _ _ (hz1 _ _ hobj)) (hz2 _ _ (hz1 _ _ hd)) ?_).room (by show h + 1 + 1 ≤ 7; omega)).mono fun Z' O' v _ ⟨e1, n', e2⟩ => ⟨e1, n', e2⟩
    have := v.small
    simp only [List.length_nil, Nat.zero_add]; omega
  · obtain ⟨n', e⟩ := pk
    subst e
    rw [List.nil_append]
    refine exExpr (P := fun Z' O' => ∃ n', O' = (b, listO (vss.flatten ++ tl) n') :: O) (opMeth (f := .builtin "list.extend") (by walk_at "nm") (fun Z₃ ov hz hov => ?_) Kp.builtin
      (Evs.cons (evSlot hK (kTail g.w) (by walk_at "nm") (.inl (hz2 _ _ (hz1 _ _ hobj))) (.inl (hz2 _ _ (hz1 _ _ hd))) rfl) Evs.nil) (fun Z₃ ov ws hz3 hov hds => ?_)) (fun Z₃ O₃ hz3 pk => ?_)
    · obtain rfl : ov = .ref b := hov
      exact conGetL F.slot_list_extend md_extend (.inr (.head _))
    · obtain rfl : ov = .ref b := hov
      obtain ⟨v1, rfl, e1⟩ := hds.one
      obtain rfl : v1 = .ref t := e1
      obtain ⟨m, hm⟩ := v.tail
      exact (conExtend (.inl (hz3 _ _ (hz2 _ _ (hz1 _ _ hm)))) (by omega)).mono fun Z' O' v _ ⟨e1, e2, e3⟩ => ⟨e1, e3⟩
    · obtain ⟨n', e⟩ := pk
      subst e
      exact exRetEv (by walk_at "nm") fun Z₄ v4 _ e2 => ⟨b, n', e2, rfl⟩
end
theorem fillK2 (w : World) : (KK w.params = KK w.params) ∧ (PySem.Challenge.rw_nc0017_01.name = PySem.Challenge.rw_nc0017_01.name) := by k_fill; exact ⟨rfl, rfl⟩
theorem ownNew (w : World) : ∃ cd, OwnNew (KK w.params) C cd := by
  refine ⟨_, ⟨_, _, _, by k_is, by rfl⟩, by rfl, by rfl, by rfl, by rfl, by k_is, by k_is, by k_is⟩
section
variable {g : Gd} (hK : g.K = KK g.w.params)
include hK
theorem new_ok {Z : Zp} {O : Own} {n sh : Int} {tn ts : Tok} {root t : Addr} {tl : List Value} {m : Nat} (hT : At Z O t (listO tl m)) (hl : tl.length ≤ 64) :
    Con g 6 Z O (call (.ref C) [.int n tn, .int sh ts, .ref root, .ref t]) (fun Z' O' v => ∃ a d t3, v = .ref a ∧ O' = (a, vecO C d n tn root sh ts t (n - tl.length) t3) :: O ∧ Z' d = some emptyDict) := by
  obtain ⟨cd, hown⟩ := ownNew g.w
  have hsz : tl.length ≤ sizeLine := by have : 64 ≤ sizeLine := by decide
                                        omega
  refine ConC.con (code_class (k := 5) hK hown (mc := .type "type") (by k_is) (fN := 71) (p := 297) (by k_is) (by k_is) rfl ?_ (fun Z' O' v ⟨a, d, t3, e1, e2, e3⟩ => ⟨a, vecO C d n tn root sh ts t (n - tl.length) t3, e1, .inr (e2 ▸ .head _), rfl⟩))
  refine conDef (bs := [("cls", .ref C), ("count", .int n tn), ("shift", .int sh ts), ("root", .ref root), ("tail", .ref t)]) [("cls", aVal (.ref C)), ("count", aVal (.int n tn)), ("shift", aVal (.int sh ts)), ("root", aVal (.ref root)), ("tail", aVal (.ref t))]
    ⟨rfl, rfl, rfl, rfl, rfl, rfl, rfl, rfl, rfl, rfl, trivial⟩ hK (by k_is) (by k_is) (fun s _ => BindsTo.of_eq rfl) (by rfl) (by simp) (by rfl) rfl rfl rfl ?_
  intro L A gs os
  refine exAssignO (P := fun Z' O' v => ∃ a d, v = .ref a ∧ O' = (a, instO C d []) :: O ∧ Z' d = some emptyDict) (opMethG (Po := aSup C) (f := .builtin "object.__new__") (first := fun _ => [])
    (opCall (f := .type "super") (Ev.boot hK (by k_is) bt_super) Kp.type (Evs.cons (Ev.glob hK (by k_is)) (Evs.cons (by walk_at "nm") Evs.nil)) (fun Z₁ vs hz hds => ?_))
    (fun Z₁ ov hz pk => ?_) Kp.builtin (Evs.cons (by walk_at "nm") Evs.nil) (fun Z₁ ov vs hz _ hds => ?_)) (fun Z₁ O₁ v₁ hz1 ⟨a, d, e1, e2, hd⟩ => ?_)
  · obtain ⟨v1, v2, rfl, e1, e2⟩ := hds.two
    obtain rfl : v1 = .ref C := e1
    obtain rfl : v2 = .ref C := e2
    exact (conSuper hK hown).mono fun Z' O' v _ ⟨so, e1, e2, e3⟩ => ⟨e2, so, e1, e3⟩
  · obtain ⟨so, e1, e2⟩ := pk
    subst e1
    exact conSuperNew hK hown e2 (by k_is)
  · obtain ⟨v1, rfl, e1⟩ := hds.one
    obtain rfl : v1 = .ref C := e1
    exact (conObjNew hK hown).mono fun Z' O' v _ ⟨a, d, e1, e2, e3⟩ => ⟨a, d, e1, e2, e3⟩
  · subst e1 e2
    walk_at "upd"
    refine exSetAttrEv hK (kCount g.w) hd (by walk_at "nm") (by walk_at "nm") fun Z₂ v hz2 e => ?_
    obtain rfl : v = .int n tn := e
    refine exSetAttrEv hK (kShift g.w) (hz2 _ _ hd) (by walk_at "nm") (by walk_at "nm") fun Z₃ v hz3 e => ?_
    obtain rfl : v = .int sh ts := e
    refine exSetAttrEv hK (kRoot g.w) (hz3 _ _ (hz2 _ _ hd)) (by walk_at "nm") (by walk_at "nm") fun Z₄ v hz4 e => ?_
    obtain rfl : v = .ref root := e
    refine exSetAttrEv hK (kTail g.w) (hz4 _ _ (hz3 _ _ (hz2 _ _ hd))) (by walk_at "nm") (by walk_at "nm") fun Z₅ v hz5 e => ?_
    obtain rfl : v = .ref t := e
    have hd5 : Z₅ d = some emptyDict := hz5 _ _ (hz4 _ _ (hz3 _ _ (hz2 _ _ hd)))
    have hT5 : ∀ o, At Z₅ ((a, o) :: O) t (listO tl m) := fun o => hT.imp (fun h => hz5 _ _ (hz4 _ _ (hz3 _ _ (hz2 _ _ (hz1 _ _ h))))) (fun h => .tail _ h)
    refine exSetAttrEv hK (kOff g.w) hd5 (Ev.bin (evInt (evSlot hK (kCount g.w) (by walk_at "nm") (.inr (.head _)) (.inl hd5) rfl)) (evLen hK (by k_is) (evSlot hK (kTail g.w) (by walk_at "nm") (.inr (.head _)) (.inl hd5) rfl) (hT5 _) hsz) binSub) (by walk_at "nm") fun Z₆ v hz6 pk => ?_
    obtain ⟨t3, e⟩ := pk
    subst e
    exact exRetEv (by walk_at "nm") fun Z₇ v hz7 e => ⟨a, d, t3, e, rfl, hz7 _ _ (hz6 _ _ hd5)⟩
end
end Mine
end
section
open PySem PySem.W PyProof.Rows PySem.Calls
set_option Elab.async false
set_option maxRecDepth 100000
set_option linter.unusedVariables false
namespace Mine
section
variable {g : Gd} {k : Nat} {Z : Zp} {O : Own} {a : Addr} {vs : List Value} {n : Nat}
theorem conSetItem {i : Int} {t : Tok} {v : Value} (h0 : 0 ≤ i) (hf : i < 2 ^ 63) (hn : i.toNat < vs.length) :
    Con g k Z ((a, listO vs n) :: O) (setItem (.ref a) (.int i t) v) (fun Z' O' _ => Z' = Z ∧ ∃ n', O' = (a, listO (vs.set i.toNat v) n') :: O) := by
  intro A s Q hr ok hq
  have ho : s.heap.get? a = some (listO vs n) := (ok.own _ (.head _)).1
  have hl : s.heap.IsList a vs.toArray := ⟨_, ho, rfl, n, rfl⟩
  unfold setItem
  refine wpAny_holding ?_
  refine wpAny_bind (wpAny_sequenceKey hl.typeIs (by decide) ?_)
  refine wpAny_bind (wpAny_callSpecial?_slot (name := Str.ofString "__setitem__") hl.typeIs slot_list_setitem
    (wpAny_call_entry slot_list_setitem hl.typeIs entry_list_setitem ?_ (args_list_setitem _ _ _)))
  show wpAny _ _ (Builtin.List.listSubscript? (.int i t) >>= _) _ _ s
  refine wpAny_bind (wpAny_listSubscript_int (fitsIndex_of h0 hf) ?_)
  clear hf
  obtain ⟨j, rfl⟩ := Int.eq_ofNat_of_zero_le h0
  have hj : j < vs.toArray.size := by simpa using hn
  have hx' : vs.toArray[j]? = some vs.toArray[j] := Array.getElem?_eq_getElem hj
  show wpAny _ _ ((seqItemAt a j >>= fun r => pure (r.map (j, ·))) >>= _) _ _ s
  refine wpAny_bind (wpAny_bind (wpAny_seqItemAt ho rfl (wpAny_pure ?_)))
  rw [hx']
  show wpAny _ _ (setSeqItemAt a j v >>= _) _ _ s
  refine wpAny_bind (wpAny_setSeqItemAt ho rfl ?_)
  have hup := IsL.update ho (fun x => x.setIfInBounds j v)
  have fin := hq () { s with heap := s.heap.update a (Obj.mapSeq fun x => x.setIfInBounds j v) } Z ((a, listO (vs.set j v) (if (vs.toArray.setIfInBounds j v).size == vs.toArray.size then n else n + 1)) :: O)
    (Step.write ok s.toks (Heap.SameBut.update ..) (by rw [hup]; simp)) ⟨rfl, _, rfl⟩
  first
    | exact wpAny_bind (wpAny_pure (wpAny_pure ⟨.none, rfl, wpAny_pure fin⟩))
    | exact wpAny_pure ⟨.none, rfl, wpAny_pure fin⟩
end
section
variable {g : Gd} {r : Frm} {ρ : Loc} {Z : Zp} {O : Own} {l : Addr} {vs : List Value} {n : Nat}
theorem exStoreItem {o i value : Expr} {spos pos : Pos} {k : Int} {P : AV} {rest : List Stmt} {F : Flow → Loc → Zp → Own → Prop} (he : Ev g r ρ Z ((l, listO vs n) :: O) value P) (ho : Ev g r ρ Z ((l, listO vs n) :: O) o (aVal (.ref l)))
    (hi : Ev g r ρ Z ((l, listO vs n) :: O) i (aInt k)) (h0 : 0 ≤ k) (hf : k < 2 ^ 63) (hn : k.toNat < vs.length) (h : ∀ Z' v n', Z.Le Z' → P.P Z' v → Exs g r ρ Z' ((l, listO (vs.set k.toNat v) n') :: O) rest F)
    (hs : swapsWith value (some (.Subscript o i spos)) pos.line r.env = pure false := by rfl) : Exs g r ρ Z ((l, listO vs n) :: O) (.Assign [.Subscript o i spos] value pos :: rest) F := by
  refine exs_cons (F₁ := fun fl ρ' Z' O' => fl = .next ∧ ρ' = ρ ∧ Exs g r ρ Z' O' rest F) ?_ (fun ρ' Z' O' hz ⟨_, e1, e2⟩ => by subst e1; exact e2) fun fl ρ' Z' O' hne _ q => absurd q.1 hne
  intro B Z₁ s Q hz st hq
  refine wpAny_Assign_Subscript (he B Z₁ s _ hz st fun v s' Z' O' hz' st' ⟨e1, pv⟩ => ?_) hs
  subst e1
  refine ho B Z' s' _ (hz.trans hz') st' fun ov s2 Z2 O2 hz2 st2 ⟨e2, e3⟩ => ?_
  subst e2
  obtain rfl : ov = .ref l := e3
  refine hi B Z2 s2 _ (hz.trans (hz'.trans hz2)) st2 fun iv s3 Z3 O3 hz3 st3 ⟨e2, tk, e3⟩ => ?_
  subst e2 e3
  refine (conSetItem (k := r.k) h0 hf hn) r.A s3 _ st3.room st3.ok fun _ s4 Z4 O4 stp ⟨e4, n', e5⟩ => ?_
  subst e4 e5
  exact hq .next ρ s4 Z4 _ (hz'.trans (hz2.trans hz3)) (st3.step stp) ⟨rfl, rfl, (h Z' v n' (hz.trans hz') pv).le (hz2.trans hz3)⟩
/-- l.append(e), l being owned -/
theorem exAppend {o e : Expr} {apos pos epos : Pos} {P : AV} {pl : Sem Bool} {rest : List Stmt} {F : Flow → Loc → Zp → Own → Prop} (ho : Ev g r ρ Z ((l, listO vs n) :: O) o (aVal (.ref l))) (he : Ev g r ρ Z ((l, listO vs n) :: O) e P) (hs : vs.length ≤ sizeLine)
    (h : ∀ Z' v n', Z.Le Z' → P.P Z' v → Exs g r ρ Z' ((l, listO (vs ++ [v]) n') :: O) rest F) (hstar : starEach [e] r.env = [(false, eval e r.env)] := by rfl)
    (heq : eval (.Call (.Attribute o "append" apos) [e] [] pos) r.env = (do
      let ov ← eval o r.env
      standAt apos.atName
      let (f, first) ← holding [ov] (getMethod ov "append" pl)
      callWith pos f first (backTo pos (starEach [e] r.env)) []) := by rfl)
    (hi : interactive r.env = false := by rfl) (hw : swapsWith (.Call (.Attribute o "append" apos) [e] [] pos) none epos.line r.env = pure false := by rfl) :
    Exs g r ρ Z ((l, listO vs n) :: O) (.Expr (.Call (.Attribute o "append" apos) [e] [] pos) epos :: rest) F :=
  exExpr (P := fun Z' O' => ∃ v n', P.P Z' v ∧ O' = (l, listO (vs ++ [v]) n') :: O) (opMeth (f := .builtin "list.append") ho (fun Z₁ ov hz hov => by
      obtain rfl : ov = .ref l := hov
      exact conGetL PySem.F.slot_list_append md_append (.inr (.head _))) Kp.builtin (Evs.cons he Evs.nil hstar) (fun Z₁ ov ws hz1 hov hd => by
      obtain rfl : ov = .ref l := hov
      obtain ⟨v, rfl, p⟩ := hd.one
      exact (conAppend hs).mono fun Z' O' _ hz' ⟨e1, _, e3⟩ => ⟨e1, v, n + 1, P.mono hz' p, e3⟩) heq)
    (fun Z' O' hz ⟨v, n', p, e⟩ => by subst e; exact h Z' v n' hz p) hi hw
end
section
variable {g : Gd} {r : Frm} {ρ : Loc} {Z : Zp} {O O₀ : Own}
/-- at the end what is given back is frozen -/
theorem Op.frzEnd {t : Sem Value} {φ : Zp → Obj → Prop} (hφ : ∀ Z Z' o, Z.Le Z' → φ Z o → φ Z' o) (h : Op g r ρ Z O₀ t (fun Z' O' v => ∃ a o, v = .ref a ∧ O' = (a, o) :: O ∧ φ Z' o)) :
    Op g r ρ Z O₀ t (fun Z' O' v => O' = O ∧ ∃ a o, v = .ref a ∧ Z' a = some o ∧ φ Z' o) :=
  fun B Z₁ s Q hz st hq => h B Z₁ s Q hz st fun v s' Z' O' hz' st' ⟨a, o, e1, e2, p⟩ => by
    subst e1 e2
    have stp := Step.freeze st'.ok
    exact hq _ s' _ _ (hz'.trans stp.le) (st'.step stp) ⟨rfl, a, o, rfl, Zp.set_self _ _ _, hφ _ _ _ stp.le p⟩
theorem Con.frzEnd {k : Nat} {t : Sem Value} {φ : Zp → Obj → Prop} (hφ : ∀ Z Z' o, Z.Le Z' → φ Z o → φ Z' o) (h : Con g k Z O₀ t (fun Z' O' v => ∃ a o, v = .ref a ∧ O' = (a, o) :: O ∧ φ Z' o)) :
    Con g k Z O₀ t (fun Z' O' v => O' = O ∧ ∃ a o, v = .ref a ∧ Z' a = some o ∧ φ Z' o) :=
  fun A s Q hr ok hq => h A s Q hr ok fun v s' Z' O' st ⟨a, o, e1, e2, p⟩ => by
    subst e1 e2
    have stp := Step.freeze (st.ok ok)
    exact hq _ s' _ _ (st.trans stp) ⟨rfl, a, o, rfl, Zp.set_self _ _ _, hφ _ _ _ stp.le p⟩
/-- a list whose items are told one by one -/
def aListOf (as : List AV) : AV := ⟨fun Z v => ∃ a vs n, v = .ref a ∧ Z a = some (listO vs n) ∧ Dens Z vs as, fun hz ⟨a, vs, n, e1, e2, d⟩ => ⟨a, vs, n, e1, hz _ _ e2, d.mono hz⟩⟩
theorem evList {pos : Pos} {es : List Expr} {as : List AV} (h : Evs g r ρ Z O pos es as) (hs : as.length ≤ sizeLine) : Ev g r ρ Z O (.List es pos) (aListOf as) :=
  (Op.frzEnd (φ := fun Z o => ∃ vs, o = listO vs 0 ∧ Dens Z vs as) (fun _ _ _ hz ⟨vs, e, d⟩ => ⟨vs, e, d.mono hz⟩) ((opList h hs).mono fun Z' O' v _ ⟨a, vs, e1, e2, d⟩ => ⟨a, _, e1, e2, vs, rfl, d⟩)).mono
    fun Z' O' v _ ⟨e, a, o, e1, e2, vs, e3, d⟩ => ⟨e, a, vs, 0, e1, e3 ▸ e2, d⟩
/-- a new list, frozen -/
def aVals (vs : List Value) : AV := ⟨fun Z v => ∃ a, v = .ref a ∧ LZ Z a vs, fun hz ⟨a, e, x⟩ => ⟨a, e, x.le hz⟩⟩
theorem Con.frzV {k : Nat} {t : Sem Value} {vs : List Value} (h : Con g k Z O₀ t (fun Z' O' v => ∃ a n, v = .ref a ∧ O' = (a, listO vs n) :: O)) : Con g k Z O₀ t (fun Z' O' v => O' = O ∧ (aVals vs).P Z' v) :=
  (Con.frzEnd (φ := fun _ o => ∃ n, o = listO vs n) (fun _ _ _ _ h => h) (h.mono fun Z' O' v _ ⟨a, n, e1, e2⟩ => ⟨a, _, e1, e2, n, rfl⟩)).mono fun Z' O' v _ ⟨e, a, o, e1, e2, n, e3⟩ => ⟨e, a, e1, n, e3 ▸ e2⟩
/-- at a return what is owned first is frozen -/
theorem exRetFrz {e : Expr} {pos : Pos} {rest : List Stmt} {F : Flow → Loc → Zp → Own → Prop} {a : Addr} {o : Obj} (he : Ev g r ρ Z ((a, o) :: O) e (aVal (.ref a))) (h : ∀ Z', Z.Le Z' → Z' a = some o → F (.ret (.ref a)) ρ Z' O) :
    Exs g r ρ Z ((a, o) :: O) (.Return (some e) pos :: rest) F :=
  exRet (P := fun Z' O' v => O' = O ∧ v = .ref a ∧ Z' a = some o) (fun B Z₁ s Q hz st hq => he B Z₁ s Q hz st fun v s' Z' O' hz' st' ⟨e1, e2⟩ => by
    subst e1
    have stp := Step.freeze st'.ok
    exact hq _ s' _ _ (hz'.trans stp.le) (st'.step stp) ⟨rfl, e2, Zp.set_self _ _ _⟩) fun Z' O' v hz ⟨e1, e2, e3⟩ => by subst e1 e2; exact h Z' hz e3
end
end Mine
end
section
open PySem PySem.W PyProof.Rows PySem.Calls
set_option Elab.async false
set_option maxRecDepth 100000
set_option linter.unusedVariables false
namespace Mine
theorem kids0 {Z : Zp} : ∀ {cs ls : List Addr}, Kids (NodeZ Z 0) 1 cs ls ↔ cs = ls
  | [], ls => ⟨fun h => (show ls = [] from h).symm, fun h => h.symm⟩
  | c :: cs, [] => ⟨fun h => absurd rfl h.1, fun h => by cases h⟩
  | c :: cs, l :: ls => ⟨fun ⟨_, h1, h2⟩ => by
      have e1 : [l] = [c] := h1
      have e2 := kids0.mp (show Kids (NodeZ Z 0) 1 cs ls from h2)
      rw [e2]; injection e1 with e1; rw [e1], fun h => by
      injection h with e1 e2
      exact ⟨by simp, by show [l] = [c]; rw [e1], kids0.mpr e2⟩⟩
theorem Kids.len {N : Addr → List Addr → Prop} {w : Nat} (hw : 0 < w) : ∀ {cs ls : List Addr}, Kids N w cs ls → ls.length ≤ cs.length * w ∧ (cs.length - 1) * w ≤ ls.length ∧ (cs ≠ [] → (cs.length - 1) * w < ls.length)
  | [], ls, h => by rw [show ls = [] from h]; simp
  | c :: cs, ls, ⟨hne, _, h⟩ => by
    have hl : 0 < ls.length := List.length_pos_iff.mpr hne
    obtain ⟨h1, h2, h3⟩ := Kids.len hw h
    rw [List.length_drop] at h1 h2 h3
    simp only [List.length_cons]
    have e1 : (cs.length + 1) * w = cs.length * w + w := by rw [Nat.add_mul]; omega
    refine ⟨by omega, ?_, fun _ => ?_⟩
    · show (cs.length + 1 - 1) * w ≤ _
      rw [Nat.add_sub_cancel]
      cases cs with
      | nil => simp
      | cons d ds =>
        have := h3 (by simp)
        simp only [List.length_cons, Nat.add_sub_cancel] at this ⊢
        have e2 : (ds.length + 1) * w = ds.length * w + w := by rw [Nat.add_mul]; omega
        omega
    · rw [Nat.add_sub_cancel]
      cases cs with
      | nil => simpa using hl
      | cons d ds =>
        have := h3 (by simp)
        simp only [List.length_cons, Nat.add_sub_cancel] at this ⊢
        have e2 : (ds.length + 1) * w = ds.length * w + w := by rw [Nat.add_mul]; omega
        omega
theorem Kids.add {N : Addr → List Addr → Prop} {w : Nat} {b t : Addr} (hw : 0 < w) (hb : N b [t]) : ∀ {cs ls : List Addr}, Kids N w cs ls → ls.length = cs.length * w → Kids N w (cs ++ [b]) (ls ++ [t])
  | [], ls, h, _ => by
    rw [show ls = [] from h]
    refine ⟨by simp, ?_, ?_⟩
    · rw [List.nil_append, List.take_of_length_le (by simp; omega)]; exact hb
    · show ([] ++ [t]).drop w = []
      rw [List.nil_append]; exact List.drop_of_length_le (by simp; omega)
  | c :: cs, ls, ⟨hne, h1, h2⟩, e => by
    have el : ls.length = cs.length * w + w := by rw [e, List.length_cons, Nat.add_mul]; omega
    refine ⟨by simp, ?_, ?_⟩
    · rw [List.take_append_of_le_length (by omega)]; exact h1
    · rw [List.drop_append_of_le_length (by omega)]
      exact Kids.add hw hb h2 (by rw [List.length_drop]; omega)
/-- the child that holds the last leaves -/
theorem Kids.last {N : Addr → List Addr → Prop} {w : Nat} (hw : 0 < w) : ∀ {cs ls : List Addr} {q : Nat}, Kids N w cs ls → q * w < ls.length → ls.length < q * w + w → ∃ c, cs[q]? = some c ∧ cs.length = q + 1 ∧ N c (ls.drop (q * w))
  | [], ls, q, h, h1, _ => by rw [show ls = [] from h] at h1; exact absurd h1 (Nat.not_lt_zero _)
  | c :: cs, ls, 0, ⟨hne, h1, h2⟩, _, h4 => by
    have hd : ls.drop w = [] := List.drop_of_length_le (by omega)
    have : cs = [] := by
      cases cs with
      | nil => rfl
      | cons d ds => rw [hd] at h2; exact absurd rfl h2.1
    subst this
    refine ⟨c, rfl, rfl, ?_⟩
    rw [Nat.zero_mul, List.drop_zero]
    rwa [List.take_of_length_le (by omega)] at h1
  | c :: cs, ls, q + 1, ⟨hne, h1, h2⟩, h3, h4 => by
    have e : (q + 1) * w = q * w + w := by rw [Nat.add_mul]; omega
    obtain ⟨d, e1, e2, e3⟩ := Kids.last (q := q) hw h2 (by rw [List.length_drop]; omega) (by rw [List.length_drop]; omega)
    refine ⟨d, by simpa using e1, by simp [e2], ?_⟩
    rw [List.drop_drop] at e3
    rwa [e, Nat.add_comm]
theorem Kids.put {N : Addr → List Addr → Prop} {w : Nat} {b t : Addr} (hw : 0 < w) : ∀ {cs ls : List Addr} {q : Nat}, Kids N w cs ls → q * w < ls.length → ls.length < q * w + w → N b (ls.drop (q * w) ++ [t]) → Kids N w (cs.set q b) (ls ++ [t])
  | [], ls, q, h, h1, _, _ => by rw [show ls = [] from h] at h1; exact absurd h1 (Nat.not_lt_zero _)
  | c :: cs, ls, 0, ⟨hne, h1, h2⟩, h3, h4, hb => by
    have hd : ls.drop w = [] := List.drop_of_length_le (by omega)
    have : cs = [] := by
      cases cs with
      | nil => rfl
      | cons d ds => rw [hd] at h2; exact absurd rfl h2.1
    subst this
    rw [Nat.zero_mul, List.drop_zero] at hb
    have hl : (ls ++ [t]).length ≤ w := by simp; omega
    exact ⟨by simp, by rw [List.take_of_length_le hl]; exact hb, List.drop_of_length_le hl⟩
  | c :: cs, ls, q + 1, ⟨hne, h1, h2⟩, h3, h4, hb => by
    have e : (q + 1) * w = q * w + w := by rw [Nat.add_mul]; omega
    refine ⟨by simp, ?_, ?_⟩
    · rw [List.take_append_of_le_length (by omega)]; exact h1
    · rw [List.drop_append_of_le_length (by omega)]
      refine Kids.put hw h2 (by rw [List.length_drop]; omega) (by rw [List.length_drop]; omega) ?_
      rw [List.drop_drop, Nat.add_comm w, ← e]; exact hb
theorem one_fits : 1 ≤ sizeLine := by decide
theorem two_fits : 2 ≤ sizeLine := by decide
/-- a node that a value refers to -/
def aNode (h : Nat) (ls : List Addr) : AV := ⟨fun Z v => ∃ b, v = .ref b ∧ NodeZ Z h b ls, fun hz ⟨b, e, x⟩ => ⟨b, e, x.le hz⟩⟩
theorem subIdx {n i : Int} {N h : Nat} (hn : n = 32 * (N + 1)) (hi : i = 5 * ((h : Int) + 1 + 1)) : Builtin.bitAnd ((n - 1).fdiv (2 ^ i.toNat)) 31 = ((N / 32 ^ (h + 1) % 32 : Nat) : Int) := by
  have e1 : i.toNat = 5 * (h + 2) := by omega
  have e2 : (n - 1) = ((32 * N + 31 : Nat) : Int) := by rw [hn]; push_cast; omega
  rw [e1, e2, show (31 : Int) = 2 ^ 5 - 1 from rfl, kbt_mask]
  have e3 : ((2 : Int) ^ (5 * (h + 2))) = ((32 * 32 ^ (h + 1) : Nat) : Int) := by
    rw [Int.pow_mul]
    push_cast
    rw [show h + 2 = (h + 1) + 1 from rfl, Int.pow_succ]
    rw [Int.mul_comm]
  rw [e3, show ((2 : Int) ^ 5) = ((32 : Nat) : Int) from rfl]
  rw [Int.fdiv_eq_ediv_of_nonneg _ (Int.natCast_nonneg _)]
  rw [← Int.natCast_ediv, ← Int.natCast_emod, ← Nat.div_div_eq_div_mul, show (32 * N + 31) / 32 = N from by omega]
section
variable {g : Gd} {r : Frm} {ρ : Loc} {Z : Zp} {O : Own} {a : Addr} {vs : List Value} {n : Nat}
/-- an item of a list in reach -/
theorem evItem {value slice : Expr} {pos : Pos} {i : Int} {x : Value} (hv : Ev g r ρ Z O value (aVal (.ref a))) (hi : Ev g r ρ Z O slice (aInt i)) (h : At Z O a (listO vs n)) (h0 : 0 ≤ i) (hf : i < 2 ^ 63) (hx : vs[i.toNat]? = some x)
    (hs : ∀ a i u, subscripted slice false (.ref a) (.int i u) = operate [.ref a, .int i u] (getItem (.ref a) (.int i u)) := by intros; with_unfolding_all rfl) (hg : ∀ a r, letTemporaryGo value (.ref a) r = pure () := by intros; with_unfolding_all rfl) :
    Ev g r ρ Z O (.Subscript value slice pos) (aVal x) :=
  opSub hv hi fun Z₁ o iv hz e1 ⟨u, e2⟩ => by
    obtain rfl : o = .ref a := e1
    subst e2
    exact (conItem (h.le hz) h0 hf hx (hs _ _ _) (hg _)).mono fun Z' O' v _ ⟨_, e2, e3⟩ => ⟨e2, e3⟩
end
end Mine
end
section
open PySem PySem.W PyProof.Rows PySem.Calls
set_option Elab.async false
set_option maxRecDepth 100000
set_option maxHeartbeats 1000000
set_option linter.unusedVariables false
namespace Mine
local macro_rules | `(tactic| walk_at "mem") => `(tactic| first | exact List.Mem.head _ | (refine List.Mem.tail _ ?_; walk_at "mem"))
local macro_rules | `(tactic| walk_at "nm") => `(tactic| (refine' Ev.name ?hm ?hd; (case hm => walk_at "mem"); (case hd => decide)))
local macro_rules | `(tactic| walk_at "sub") => `(tactic| first | exact List.forall_mem_nil _ | (refine List.forall_mem_cons.mpr ⟨?_, ?_⟩; (first | walk_at "mem" | simp); walk_at "sub"))
local macro_rules | `(tactic| walk_at "upd") => `(tactic| dsimp only [updL, List.filter, String.reduceBNe])
theorem fillK3 (w : World) : (KK w.params = KK w.params) ∧ (PySem.Challenge.rw_nc0017_01.name = PySem.Challenge.rw_nc0017_01.name) := by k_fill; exact ⟨rfl, rfl⟩
theorem mNewPath (w : World) : MethK (KK w.params) C "_new_path" 228 := by constructor <;> k_is
theorem mPush (w : World) : MethK (KK w.params) C "_push_tail" 263 := by constructor <;> k_is
theorem mRoot (w : World) : MethK (KK w.params) C "_create_new_root" 214 := by constructor <;> k_is
section
variable {g : Gd} (hK : g.K = KK g.w.params)
include hK
theorem newpath_ok {self d : Addr} {sl : List (Option Value)} : ∀ (h : Nat) {Z : Zp} {O : Own} {node : Addr} {i : Int} {tk : Tok}, i = 5 * h → At Z O self (instO C d sl) → At Z O d emptyDict →
    Con g (h + 1) Z O (call (.ref 228) [.ref self, .int i tk, .ref node]) (fun Z' O' v => O' = O ∧ (aNode h [node]).P Z' v) := by
  intro h
  induction h with
  | zero =>
    intro Z O node i tk hi hs hd
    refine ConC.con (conDef (bs := [("self", .ref self), ("level", .int i tk), ("node", .ref node)]) [("self", aVal (.ref self)), ("level", aInt i), ("node", aVal (.ref node))] ⟨rfl, rfl, rfl, ⟨_, rfl⟩, rfl, rfl, trivial⟩ hK (by k_is) (by k_is) (fun s _ => BindsTo.of_eq rfl) (by rfl) (by simp) (by rfl) rfl rfl rfl ?_)
    intro L A gs os
    refine exIf (Tst.cmp (by walk_at "nm") Ev.int cmpEq) (fun _ => ?_) (fun h => absurd h (by simp [hi]))
    exact exRetEv (by walk_at "nm") fun Z₁ v _ e => ⟨rfl, node, e, rfl⟩
  | succ h ih =>
    intro Z O node i tk hi hs hd
    refine ConC.con (conDef (bs := [("self", .ref self), ("level", .int i tk), ("node", .ref node)]) [("self", aVal (.ref self)), ("level", aInt i), ("node", aVal (.ref node))] ⟨rfl, rfl, rfl, ⟨_, rfl⟩, rfl, rfl, trivial⟩ hK (by k_is) (by k_is) (fun s _ => BindsTo.of_eq rfl) (by rfl) (by simp) (by rfl) rfl rfl rfl ?_)
    intro L A gs os
    refine exIf (Tst.cmp (by walk_at "nm") Ev.int cmpEq) (fun h => absurd h (by simp [hi]; omega)) (fun _ => ?_)
    refine exRetEv (evList (as := [aNode h [node]]) (Evs.cons (opMeth (f := .ref 228) (by walk_at "nm") (fun Z₁ ov hz hov => ?_) (Kp.own hK (by k_is)) (Evs.cons (Ev.bin (by walk_at "nm") (evInt (Ev.glob hK (by k_is))) binSub) (Evs.cons (by walk_at "nm") Evs.nil)) (fun Z₁ ov ws hz hov hds => ?_)) Evs.nil) one_fits) (fun Z₁ v hz ⟨a, vs, n, e1, e2, hds⟩ => ?_)
    · obtain rfl : ov = .ref self := hov
      exact conMeth hK (mNewPath g.w) (hs.le hz) (hd.le hz)
    · obtain rfl : ov = .ref self := hov
      obtain ⟨v1, v2, rfl, ⟨tk2, rfl⟩, e2⟩ := hds.two
      obtain rfl : v2 = .ref node := e2
      exact ih (by omega) (hs.le hz) (hd.le hz)
    · obtain ⟨v1, rfl, b, rfl, hb⟩ := hds.one
      refine ⟨rfl, a, e1, [b], ⟨n, e2⟩, by simp, ?_, ?_⟩
      · rw [List.take_of_length_le (show 1 ≤ 32 ^ h from Nat.pow_pos (by decide))]; exact hb
      · exact List.drop_of_length_le (show 1 ≤ 32 ^ h from Nat.pow_pos (by decide))

/-- _push_tail: one leaf more. N: the leaves of the whole vector -/
theorem push_ok {self d t : Addr} {n : Int} {t1 t2 t3 : Tok} {root tail : Addr} {sh off : Int} {N : Nat} (hn : n = 32 * (N + 1)) : ∀ (h : Nat) {Z : Zp} {O : Own} {parent : Addr} {ls : List Addr} {i : Int} {tk : Tok} {q : Nat}, i = 5 * (h + 1) → h ≤ 3 →
    At Z O self (vecO C d n t1 root sh t2 tail off t3) → At Z O d emptyDict → NodeZ Z (h + 1) parent ls → N = q * 32 ^ (h + 1) + ls.length → ls.length < 32 ^ (h + 1) →
    Con g (h + 6) Z O (call (.ref 263) [.ref self, .int i tk, .ref parent, .ref t]) (fun Z' O' v => O' = O ∧ (aNode (h + 1) (ls ++ [t])).P Z' v) := by
  intro h
  induction h with
  | zero =>
    intro Z O parent ls i tk q hi hh hs hd ⟨cs, ⟨m, hm⟩, hk⟩ hN hlt
    obtain rfl := kids0.mp hk
    have hsz : cs.length ≤ sizeLine := by have : 32 ≤ sizeLine := by decide
                                          simp at hlt; omega
    refine ConC.con (conDef (k := 5) (bs := [("self", .ref self), ("level", .int i tk), ("parent", .ref parent), ("tail_node", .ref t)]) [("self", aVal (.ref self)), ("level", aInt i), ("parent", aVal (.ref parent)), ("tail_node", aVal (.ref t))] ⟨rfl, rfl, rfl, ⟨_, rfl⟩, rfl, rfl, rfl, rfl, trivial⟩ hK (by k_is) (by k_is) (fun s _ => BindsTo.of_eq rfl) (by rfl) (by simp) (by rfl) rfl rfl rfl ?_)
    intro L A gs os
    refine exAssignO (P := NewL' O (cs.map .ref)) (opCall (f := .type "list") (Ev.boot hK (by k_is) bt_list) Kp.type (Evs.cons (by walk_at "nm") Evs.nil) (fun Z₁ ws hz hds => ?_)) (fun Z₁ O₁ v₁ hz1 pk => ?_)
    · obtain ⟨v1, rfl, e1⟩ := hds.one
      obtain rfl : v1 = .ref parent := e1
      exact (conListOf (.inl rfl) (.inl (hz _ _ hm)) rfl rfl (by simpa using hsz)).mono fun Z' O' v _ ⟨a, n, e1, _, e2⟩ => ⟨a, n, e1, e2⟩
    · obtain ⟨b, n', e1, e2⟩ := pk
      subst e1 e2
      walk_at "upd"
      refine exIf (Tst.cmp (by walk_at "nm") (evInt (Ev.glob hK (by k_is))) cmpEq) (fun _ => ?_) (fun h => absurd h (by simp [hi]))
      refine exAppend (by walk_at "nm") (by walk_at "nm") (by simpa using hsz) fun Z₂ v n'' hz2 e => ?_
      obtain rfl : v = .ref t := e
      exact exRetFrz (by walk_at "nm") fun Z₃ hz3 e => ⟨rfl, b, rfl, cs ++ [t], ⟨n'', by simpa using e⟩, kids0.mpr rfl⟩
  | succ h ih =>
    intro Z O parent ls i tk q hi hh hs hd ⟨cs, ⟨m, hm⟩, hk⟩ hN hlt
    have hw : 0 < 32 ^ (h + 1) := Nat.pow_pos (by decide)
    have hpow : 32 ^ (h + 1 + 1) = 32 ^ (h + 1) * 32 := Nat.pow_succ ..
    have hidx := subIdx (h := h) hn (by simpa using hi)
    generalize hW : 32 ^ (h + 1) = w at *
    obtain ⟨hl1, hl2, hl3⟩ := hk.len hw
    have hdm := Nat.div_add_mod ls.length w
    have hml := Nat.mod_lt ls.length hw
    have hsub : ls.length / w < 32 := Nat.div_lt_of_lt_mul (by rw [← hpow]; exact hlt)
    have hNw : N / w % 32 = ls.length / w := by
      have : N = w * (q * 32) + ls.length := by rw [hN, hpow, Nat.mul_left_comm q w 32]
      rw [this, Nat.mul_add_div hw, Nat.add_comm, Nat.add_mul_mod_self_right, Nat.mod_eq_of_lt hsub]
    rw [hNw] at hidx
    generalize hS : ls.length / w = sub at *
    generalize hR : ls.length % w = rem at *
    have hlen : ls.length = sub * w + rem := by rw [Nat.mul_comm]; exact hdm.symm
    have hcs : (0 < rem → cs.length = sub + 1) ∧ (rem = 0 → cs.length = sub) := by
      constructor
      · intro hr
        obtain ⟨c, _, e, _⟩ := hk.last (q := sub) hw (by omega) (by omega)
        exact e
      · intro hr
        have h1 : sub ≤ cs.length := Nat.le_of_mul_le_mul_right (by omega) hw
        cases cs with
        | nil => simp at h1 ⊢; omega
        | cons c cs =>
          have h2 := hl3 (by simp)
          rw [List.length_cons, Nat.add_sub_cancel] at h2
          have h3 : cs.length < sub := Nat.lt_of_mul_lt_mul_right (a := w) (by omega)
          simp only [List.length_cons] at h1 ⊢
          omega
    have hcl : cs.length ≤ 33 := by
      rcases Nat.eq_zero_or_pos rem with h0 | h0
      · rw [hcs.2 h0]; omega
      · rw [hcs.1 h0]; omega
    have hsz : cs.length ≤ sizeLine := by have : 33 ≤ sizeLine := by decide
                                          omega
    refine ConC.con (conDef (k := h + 6) (bs := [("self", .ref self), ("level", .int i tk), ("parent", .ref parent), ("tail_node", .ref t)]) [("self", aVal (.ref self)), ("level", aInt i), ("parent", aVal (.ref parent)), ("tail_node", aVal (.ref t))] ⟨rfl, rfl, rfl, ⟨_, rfl⟩, rfl, rfl, rfl, rfl, trivial⟩ hK (by k_is) (by k_is) (fun s _ => BindsTo.of_eq rfl) (by rfl) (by simp) (by rfl) rfl rfl rfl ?_)
    intro L A gs os
    refine exAssignO (P := NewL' O (cs.map .ref)) (opCall (f := .type "list") (Ev.boot hK (by k_is) bt_list) Kp.type (Evs.cons (by walk_at "nm") Evs.nil) (fun Z₁ ws hz hds => ?_)) (fun Z₁ O₁ v₁ hz1 pk => ?_)
    · obtain ⟨v1, rfl, e1⟩ := hds.one
      obtain rfl : v1 = .ref parent := e1
      exact (conListOf (.inl rfl) (.inl (hz _ _ hm)) rfl rfl (by simpa using hsz)).mono fun Z' O' v _ ⟨a, n, e1, _, e2⟩ => ⟨a, n, e1, e2⟩
    obtain ⟨b, n', e1, e2⟩ := pk
    subst e1 e2
    walk_at "upd"
    have hs1 : At Z₁ ((b, listO (cs.map .ref) n') :: O) self (vecO C d n t1 root sh t2 tail off t3) := (hs.le hz1).imp id fun h => .tail _ h
    have hd1 : At Z₁ ((b, listO (cs.map .ref) n') :: O) d emptyDict := (hd.le hz1).imp id fun h => .tail _ h
    refine exIf (Tst.cmp (by walk_at "nm") (evInt (Ev.glob hK (by k_is))) cmpEq) (fun h => absurd h (by simp [hi]; omega)) (fun _ => ?_)
    refine exAssign (Ev.bin (Ev.bin (Ev.bin (evInt (evSlot hK (kCount g.w) (by walk_at "nm") hs1 hd1 rfl)) Ev.int binSub) (by walk_at "nm") (binShr (by omega))) (evInt (Ev.glob hK (by k_is))) binAnd) ?_
    walk_at "upd"
    rw [hidx]
    refine exIf (Tst.cmp (evLen hK (by k_is) (by walk_at "nm") (.inl (hz1 _ _ hm)) (by simpa using hsz)) (by walk_at "nm") cmpGt) (fun hb => ?_) (fun hb => ?_)
    · have hr : 0 < rem := by
        rcases Nat.eq_zero_or_pos rem with h | h
        · have := hcs.2 h; simp at hb; omega
        · exact h
      obtain ⟨c, hc, hcl', hcn⟩ := hk.last (q := sub) hw (by omega) (by omega)
      have hcm : (cs.map Value.ref)[((sub : Nat) : Int).toNat]? = some (.ref c) := by simp [hc]
      refine exStoreItem (P := aNode (h + 1) (ls.drop (sub * w) ++ [t])) (opMeth (f := .ref 263) (by walk_at "nm") (fun Z₂ ov hz hov => ?_) (Kp.own hK (by k_is))
        (Evs.cons (Ev.bin (by walk_at "nm") (evInt (Ev.glob hK (by k_is))) binSub) (Evs.cons (evItem (by walk_at "nm") (by walk_at "nm") (.inl (hz1 _ _ hm)) (by omega) (by omega) hcm) (Evs.cons (by walk_at "nm") Evs.nil))) (fun Z₂ ov ws hz2 hov hds => ?_))
        (by walk_at "nm") (by walk_at "nm") (by omega) (by omega) (by simp; omega) (fun Z₂ v n'' hz2 pk => ?_)
      · obtain rfl : ov = .ref self := hov
        exact conMeth hK (mPush g.w) (hs1.le hz) (hd1.le hz)
      · obtain rfl : ov = .ref self := hov
        obtain ⟨v1, v2, v3, rfl, ⟨tk2, rfl⟩, e2, e3⟩ := hds.three
        obtain rfl : v2 = .ref c := e2
        obtain rfl : v3 = .ref t := e3
        refine ih (q := q * 32 + sub) (by omega) (by omega) (hs1.le hz2) (hd1.le hz2) (hcn.le (hz1.trans hz2)) ?_ ?_
        · rw [List.length_drop, Nat.add_mul, hN, hpow, hlen]
          have : q * 32 * w = q * (w * 32) := by rw [Nat.mul_assoc, Nat.mul_comm 32 w]
          omega
        · rw [List.length_drop]; omega
      · obtain ⟨b', e, hb'⟩ := pk
        subst e
        refine exRetFrz (by walk_at "nm") fun Z₃ hz3 e => ⟨rfl, b, rfl, cs.set sub b', ⟨n'', ?_⟩, ?_⟩
        · rw [e]; simp [List.map_set]
        · rw [hW]
          exact (hk.imp fun _ _ => NodeZ.le (hz1.trans (hz2.trans hz3))).put hw (by omega) (by omega) (hb'.le hz3)
    · have hr : rem = 0 := by
        rcases Nat.eq_zero_or_pos rem with h | h
        · exact h
        · have := hcs.1 h; simp at hb; omega
      refine exAppend (P := aNode (h + 1) [t]) (by walk_at "nm") (opMeth (f := .ref 228) (by walk_at "nm") (fun Z₂ ov hz hov => ?_) (Kp.own hK (by k_is))
        (Evs.cons (Ev.bin (by walk_at "nm") (evInt (Ev.glob hK (by k_is))) binSub) (Evs.cons (by walk_at "nm") Evs.nil)) (fun Z₂ ov ws hz2 hov hds => ?_)) (by simpa using hsz) (fun Z₂ v n'' hz2 pk => ?_)
      · obtain rfl : ov = .ref self := hov
        exact conMeth hK (mNewPath g.w) (hs1.le hz) (hd1.le hz)
      · obtain rfl : ov = .ref self := hov
        obtain ⟨v1, v2, rfl, ⟨tk2, rfl⟩, e2⟩ := hds.two
        obtain rfl : v2 = .ref t := e2
        exact (newpath_ok hK (h + 1) (by omega) (hs1.le hz2) (hd1.le hz2)).room (by show h + 1 + 1 ≤ h + 6; omega)
      · obtain ⟨b', e, hb'⟩ := pk
        subst e
        refine exRetFrz (by walk_at "nm") fun Z₃ hz3 e => ⟨rfl, b, rfl, cs ++ [b'], ⟨n'', ?_⟩, ?_⟩
        · rw [e]; simp
        · rw [hW]
          exact Kids.add hw (hb'.le hz3) (hk.imp fun _ _ => NodeZ.le (hz1.trans (hz2.trans hz3))) (by rw [hcs.2 hr, hlen]; omega)
end
theorem fillK4 (w : World) : (KK w.params = KK w.params) ∧ (PySem.Challenge.rw_nc0017_01.name = PySem.Challenge.rw_nc0017_01.name) := by k_fill; exact ⟨rfl, rfl⟩
theorem shr5 {N : Nat} {n : Int} (hn : n = 32 * (N + 1)) : n.fdiv (2 ^ (5 : Int).toNat) = N + 1 := by
  rw [Int.fdiv_eq_ediv_of_nonneg _ (by decide)]
  have : (2 : Int) ^ (5 : Int).toNat = 32 := by decide
  rw [this]; omega
theorem shl5 {h : Nat} : (1 : Int) * 2 ^ (5 * ((h : Int) + 1)).toNat = ((32 ^ (h + 1) : Nat) : Int) := by
  have e1 : (5 * ((h : Int) + 1)).toNat = 5 * (h + 1) := by omega
  rw [e1, Int.one_mul, Int.natCast_pow, Int.pow_mul]; rfl
theorem pow_le_h {h : Nat} (e : 32 * (32 ^ (h + 1) + 1) ≤ capV) : h ≤ 1 := by
  rcases Nat.lt_or_ge h 2 with h2 | h2
  · omega
  · have : 32 ^ 3 ≤ 32 ^ (h + 1) := Nat.pow_le_pow_right (by decide) (by omega)
    have e2 : capV = 1048576 := rfl
    omega
section
variable {g : Gd} (hK : g.K = KK g.w.params)
include hK
theorem newroot_ok {Z : Zp} {O : Own} {self d t root : Addr} {n off : Int} {t1 t2 t3 : Tok} {h : Nat} {ls : List Addr} (hn : n = 32 * (ls.length + 1)) (hc : 32 * (ls.length + 1) ≤ capV) (hs : At Z O self (vecO C d n t1 root (5 * (h + 1)) t2 t off t3)) (hd : At Z O d emptyDict)
    (hnode : NodeZ Z (h + 1) root ls) (hcap : ls.length ≤ 32 ^ (h + 1)) (hh : h ≤ 3) :
    Con g 12 Z O (call (.ref 214) [.ref self]) (fun Z' O' v => O' = O ∧ ∃ a root' h' tk, v = .ref a ∧ Z' a = some (tupO [.ref root', .int (5 * ((h' : Nat) + 1)) tk] 0) ∧ NodeZ Z' (h' + 1) root' (ls ++ [t]) ∧ ls.length + 1 ≤ 32 ^ (h' + 1) ∧ h' ≤ 3) := by
  refine ConC.con (conDef (k := 11) (bs := [("self", .ref self)]) [("self", aVal (.ref self))] ⟨rfl, rfl, trivial⟩ hK (by k_is) (by k_is) (fun s _ => BindsTo.of_eq rfl) (by rfl) (by simp) (by rfl) rfl rfl rfl ?_)
  intro L A gs os
  refine exAssign (evInt (evSlot hK (kShift g.w) (by walk_at "nm") hs hd rfl)) ?_
  walk_at "upd"
  refine exIf (Tst.cmp (Ev.bin (evInt (evSlot hK (kCount g.w) (by walk_at "nm") hs hd rfl)) (evInt (Ev.glob hK (by k_is))) (binShr (by decide))) (Ev.bin Ev.int (evInt (evSlot hK (kShift g.w) (by walk_at "nm") hs hd rfl)) (binShl (by omega) (by omega) (by decide))) cmpGt) (fun hb => ?_) (fun hb => ?_)
  · rw [shr5 hn, shl5] at hb
    have hb' : 32 ^ (h + 1) < ls.length + 1 := by simp only [decide_eq_true_eq] at hb; omega
    have hfull : ls.length = 32 ^ (h + 1) := by omega
    have hh1 := pow_le_h (h := h) (by rw [← hfull]; exact hc)
    refine exAssign (evList (as := [aVal (.ref root), aNode (h + 1) [t]]) (Evs.cons (evSlot hK (kRoot g.w) (by walk_at "nm") hs hd rfl) (Evs.cons (opMeth (f := .ref 228) (by walk_at "nm") (fun Z₂ ov hz hov => ?_) (Kp.own hK (by k_is))
      (Evs.cons (evSlot hK (kShift g.w) (by walk_at "nm") hs hd rfl) (Evs.cons (evSlot hK (kTail g.w) (by walk_at "nm") hs hd rfl) Evs.nil)) (fun Z₂ ov ws hz2 hov hds => ?_)) Evs.nil)) two_fits) ?_
    · obtain rfl : ov = .ref self := hov
      exact conMeth hK (mNewPath g.w) (hs.le hz) (hd.le hz)
    · obtain rfl : ov = .ref self := hov
      obtain ⟨v1, v2, rfl, e1, e2⟩ := hds.two
      obtain rfl : v1 = .int (5 * (h + 1)) t2 := e1
      obtain rfl : v2 = .ref t := e2
      exact (newpath_ok hK (h + 1) (by omega) (hs.le hz2) (hd.le hz2)).room (by show h + 1 + 1 ≤ 11; omega)
    walk_at "upd"
    refine exAug (by walk_at "mem") (evInt (Ev.glob hK (by k_is))) augAdd ?_
    walk_at "upd"
    refine exRet (opTuple (as := [aListOf [aVal (.ref root), aNode (h + 1) [t]], aInt (5 * (h + 1) + 5)]) (Evs.cons (by walk_at "nm") (Evs.cons (by walk_at "nm") Evs.nil)) two_fits) (fun Z₁ O₁ v hz ⟨e, a, vs, e1, e2, hds⟩ => ?_)
    obtain ⟨v1, v2, rfl, ⟨b, us, m, rfl, hb1, hds2⟩, ⟨tk, rfl⟩⟩ := hds.two
    obtain ⟨u1, u2, rfl, f1, ⟨b', rfl, hb2⟩⟩ := hds2.two
    obtain rfl : u1 = .ref root := f1
    refine ⟨e, a, b, h + 1, tk, e1, ?_, ⟨[root, b'], ⟨m, hb1⟩, by simp, ?_, by simp [hfull], ?_, ?_⟩, ?_, by omega⟩
    · rw [e2]
      have : (5 * ((h : Int) + 1) + 5) = 5 * (((h + 1 : Nat) : Int) + 1) := by omega
      rw [this]
    · rw [List.take_append_of_le_length (by omega), List.take_of_length_le (by omega)]; exact hnode.le hz
    · rw [← hfull, List.drop_append_of_le_length (Nat.le_refl _), List.drop_length, List.nil_append, List.take_of_length_le (by simp only [List.length_singleton]; rw [hfull]; exact Nat.pow_pos (by decide))]; exact hb2
    · show List.drop _ (List.drop _ _) = []
      rw [List.drop_drop]
      refine List.drop_of_length_le ?_
      rw [List.length_append, List.length_singleton]
      have : 0 < 32 ^ (h + 1) := Nat.pow_pos (by decide)
      omega
    · rw [Nat.pow_succ, hfull]
      have : 0 < 32 ^ (h + 1) := Nat.pow_pos (by decide)
      omega
  · rw [shr5 hn, shl5] at hb
    have hb' : ls.length < 32 ^ (h + 1) := by simp only [decide_eq_false_iff_not] at hb; omega
    refine exAssign (P := aNode (h + 1) (ls ++ [t])) (opMeth (f := .ref 263) (by walk_at "nm") (fun Z₂ ov hz hov => ?_) (Kp.own hK (by k_is))
      (Evs.cons (evSlot hK (kShift g.w) (by walk_at "nm") hs hd rfl) (Evs.cons (evSlot hK (kRoot g.w) (by walk_at "nm") hs hd rfl) (Evs.cons (evSlot hK (kTail g.w) (by walk_at "nm") hs hd rfl) Evs.nil))) (fun Z₂ ov ws hz2 hov hds => ?_)) ?_
    · obtain rfl : ov = .ref self := hov
      exact conMeth hK (mPush g.w) (hs.le hz) (hd.le hz)
    · obtain rfl : ov = .ref self := hov
      obtain ⟨v1, v2, v3, rfl, e1, e2, e3⟩ := hds.three
      obtain rfl : v1 = .int (5 * (h + 1)) t2 := e1
      obtain rfl : v2 = .ref root := e2
      obtain rfl : v3 = .ref t := e3
      exact (push_ok hK (N := ls.length) hn h (q := 0) (by omega) hh (hs.le hz2) (hd.le hz2) (hnode.le hz2) (by omega) hb').room (by show h + 6 ≤ 11; omega)
    walk_at "upd"
    refine exRet (opTuple (as := [aNode (h + 1) (ls ++ [t]), aInt (5 * (h + 1))]) (Evs.cons (by walk_at "nm") (Evs.cons (by walk_at "nm") Evs.nil)) two_fits) (fun Z₁ O₁ v hz ⟨e, a, vs, e1, e2, hds⟩ => ?_)
    obtain ⟨v1, v2, rfl, ⟨b, rfl, hb1⟩, ⟨tk, rfl⟩⟩ := hds.two
    exact ⟨e, a, b, h, tk, e1, e2, hb1, by omega, hh⟩
end
end Mine
end
section
open PySem PySem.W PyProof.Rows PySem.Calls
set_option Elab.async false
set_option maxRecDepth 100000
set_option linter.unusedVariables false
namespace Mine
theorem Step.ext {g : Gd} {Z : Zp} {O : Own} {s : Shared} (ok : Ok g Z O s) {h' : Heap} (t : Nat) (hk : ∀ b o, s.heap.get? b = some o → h'.get? b = some o) : Step Z O s { s with heap := h', toks := t } Z O where
  le := .refl _
  zin := fun b o e => hk b o (ok.zin b o e)
  keep := fun b o e _ => hk b o e
  new := fun b o e e0 => by rw [e] at e0; cases e0
  own := fun p hp => ⟨hk _ _ (ok.own p hp).1, (ok.own p hp).2, .inr ⟨p, hp, rfl⟩⟩
  nod := ok.nod
  gens := rfl
  os := rfl
section
variable {g : Gd} {r : Frm} {ρ : Loc} {Z : Zp} {O : Own}
/-- x, y = e -/
theorem exAssign2 {x y : String} {px py tp pos : Pos} {tn : Nat} {e : Expr} {P : Zp → Own → Value → Value → Prop} {rest : List Stmt} {F : Flow → Loc → Zp → Own → Prop}
    (he : Op g r ρ Z O (eval e r.env) (fun Z' O' v => ∃ a v1 v2 m, v = .ref a ∧ Z' a = some (tupO [v1, v2] m) ∧ P Z' O' v1 v2))
    (h : ∀ Z' O' v1 v2, Z.Le Z' → P Z' O' v1 v2 → Exs g r (updL y (aVal v2) (updL x (aVal v1) ρ)) Z' O' rest F) (hx : r.env.kindOf (Str.ofString x) = some .local := by rfl) (hy : r.env.kindOf (Str.ofString y) = some .local := by rfl)
    (hs : swapsWithSole [.Tuple [.Name (Str.ofString x) px, .Name (Str.ofString y) py] tn tp] e pos.line r.env = pure false := by rfl)
    (hw : swappedStores [.Tuple [.Name (Str.ofString x) px, .Name (Str.ofString y) py] tn tp] e r.env = pure none := by rfl) :
    Exs g r ρ Z O (.Assign [.Tuple [.Name (Str.ofString x) px, .Name (Str.ofString y) py] tn tp] e pos :: rest) F := by
  refine exs_cons (F₁ := fun fl ρ' Z' O' => fl = .next ∧ Exs g r ρ' Z' O' rest F) ?_ (fun ρ' Z' O' hz ⟨_, e2⟩ => e2) fun fl ρ' Z' O' hne _ q => absurd q.1 hne
  intro B Z₁ s Q hz st hq
  refine Assign_Tuple (he B Z₁ s _ hz st fun v s' Z' O' hz' st' ⟨a, v1, v2, m, e1, e2, p⟩ => ?_) hs hw
  subst e1
  refine assign_Tuple_tuple (items := #[v1, v2]) st'.room.1 ⟨_, st'.zin _ _ e2, rfl, m, rfl⟩ rfl rfl fun h' he' => ?_
  have st2 := st'.step (Step.ext st'.ok s'.toks fun b o e => he' b o (Nat.ne_of_lt (Heap.lt_size e)) e)
  refine wpAny_bind (wpAny_holding (wpAny_assign_Name (sta_store (av := aVal v1) st2 hx rfl fun s3 st3 => ?_)))
  refine wpAny_bind (wpAny_holding (wpAny_assign_Name (sta_store (av := aVal v2) st3 hy rfl fun s4 st4 => ?_)))
  exact wpAny_pure (hq .next _ s4 Z' O' hz' st4 ⟨rfl, h Z' O' v1 v2 (hz.trans hz') p⟩)
theorem opAsgAttr {K : Frag} {C a d p : Addr} {nm : Str} {i : Nat} {o : Expr} {apos : Pos} {sl : List (Option Value)} {od : Obj} {v : Value} (hK : g.K = K) (x : SlotK K C nm p i) (hi : i < 1000) (hd : Z d = some od) (ho : Ev g r ρ Z ((a, instO C d sl) :: O) o (aVal (.ref a))) :
    Op g r ρ Z ((a, instO C d sl) :: O) (assign (.Attribute o nm apos) r.env v) (fun Z' O' _ => O' = (a, instO C d (setAt sl i v)) :: O) := by
  intro B Z₁ s Q hz st hq
  rw [assign_Attribute]
  refine wpAny_bind (wpAny_holding (ho B Z₁ s _ hz st fun ov s2 Z2 O2 hz2 st2 ⟨e2, e3⟩ => ?_))
  subst e2
  obtain rfl : ov = .ref a := e3
  refine wpAny_bind (wpAny_standAt (wpAny_bind (wpAny_holding ?_)))
  refine (conSetSlot (k := r.k) hK x hi (hz2 _ _ (hz _ _ hd))) r.A s2 _ st2.room st2.ok fun _ s3 Z3 O3 stp ⟨e4, e5⟩ => ?_
  subst e4 e5
  exact wpAny_release (hq () s3 Z3 _ hz2 (st2.step stp) rfl)
/-- o.x, o.y = e, o being owned -/
theorem exSetAttr2 {K : Frag} {C a d p1 p2 : Addr} {n1 n2 : Str} {i1 i2 : Nat} {o1 o2 e : Expr} {q1 q2 tp pos : Pos} {tn : Nat} {sl : List (Option Value)} {od : Obj} {P : Zp → Value → Value → Prop} {rest : List Stmt} {F : Flow → Loc → Zp → Own → Prop}
    (hK : g.K = K) (x1 : SlotK K C n1 p1 i1) (x2 : SlotK K C n2 p2 i2) (hi1 : i1 < 1000) (hi2 : i2 < 1000) (hd : Z d = some od)
    (he : Op g r ρ Z ((a, instO C d sl) :: O) (eval e r.env) (fun Z' O' v => O' = (a, instO C d sl) :: O ∧ ∃ b v1 v2 m, v = .ref b ∧ Z' b = some (tupO [v1, v2] m) ∧ P Z' v1 v2))
    (ho1 : ∀ sl, Ev g r ρ Z ((a, instO C d sl) :: O) o1 (aVal (.ref a))) (ho2 : ∀ sl, Ev g r ρ Z ((a, instO C d sl) :: O) o2 (aVal (.ref a)))
    (h : ∀ Z' v1 v2, Z.Le Z' → P Z' v1 v2 → Exs g r ρ Z' ((a, instO C d (setAt (setAt sl i1 v1) i2 v2)) :: O) rest F)
    (hs : swapsWithSole [.Tuple [.Attribute o1 n1 q1, .Attribute o2 n2 q2] tn tp] e pos.line r.env = pure false := by rfl)
    (hw : swappedStores [.Tuple [.Attribute o1 n1 q1, .Attribute o2 n2 q2] tn tp] e r.env = pure none := by rfl) :
    Exs g r ρ Z ((a, instO C d sl) :: O) (.Assign [.Tuple [.Attribute o1 n1 q1, .Attribute o2 n2 q2] tn tp] e pos :: rest) F := by
  refine exs_cons (F₁ := fun fl ρ' Z' O' => fl = .next ∧ Exs g r ρ' Z' O' rest F) ?_ (fun ρ' Z' O' hz ⟨_, e2⟩ => e2) fun fl ρ' Z' O' hne _ q => absurd q.1 hne
  intro B Z₁ s Q hz st hq
  refine Assign_Tuple (he B Z₁ s _ hz st fun v s' Z' O' hz' st' ⟨eO, b, v1, v2, m, e1, e2, p⟩ => ?_) hs hw
  subst e1 eO
  refine assign_Tuple_tuple (items := #[v1, v2]) st'.room.1 ⟨_, st'.zin _ _ e2, rfl, m, rfl⟩ rfl rfl fun h' he' => ?_
  have st2 := st'.step (Step.ext st'.ok s'.toks fun b o e => he' b o (Nat.ne_of_lt (Heap.lt_size e)) e)
  refine wpAny_bind (wpAny_holding (opAsgAttr hK x1 hi1 (hz' _ _ (hz _ _ hd)) ((ho1 _).le (hz.trans hz')) B Z' _ _ (.refl _) st2 fun _ s3 Z3 O3 hz3 st3 e3 => ?_))
  subst e3
  refine wpAny_bind (wpAny_holding (opAsgAttr hK x2 hi2 (hz3 _ _ (hz' _ _ (hz _ _ hd))) ((ho2 _).le (hz.trans (hz'.trans hz3))) B Z3 _ _ (.refl _) st3 fun _ s4 Z4 O4 hz4 st4 e4 => ?_))
  subst e4
  exact wpAny_pure (hq .next ρ s4 Z4 _ (hz'.trans (hz3.trans hz4)) st4 ⟨rfl, (h Z' v1 v2 (hz.trans hz') p).le (hz3.trans hz4)⟩)
/-- o.x op= e, o being owned -/
theorem exAugAttr {K : Frag} {C a d p : Addr} {nm : Str} {i : Nat} {o e : Expr} {op : Operator} {tp pos : Pos} {sl : List (Option Value)} {od : Obj} {v : Value} {A₁ B₁ C₁ : AV} {rest : List Stmt} {F : Flow → Loc → Zp → Own → Prop} (hK : g.K = K) (x : SlotK K C nm p i) (hi : i < 1000) (hd : Z d = some od)
    (ho : Ev g r ρ Z ((a, instO C d sl) :: O) o (aVal (.ref a))) (hv : (sl[i]?).join = some v) (hh : handedIn v = true) (hA : ∀ Z', A₁.P Z' v) (he : Ev g r ρ Z ((a, instO C d sl) :: O) e B₁) (hop : AugR g r.k op A₁ B₁ C₁)
    (h : ∀ Z' w, Z.Le Z' → C₁.P Z' w → Exs g r ρ Z' ((a, instO C d (setAt sl i w)) :: O) rest F) :
    Exs g r ρ Z ((a, instO C d sl) :: O) (.AugAssign (.Attribute o nm tp) op e pos :: rest) F := by
  refine exs_cons (F₁ := fun fl ρ' Z' O' => fl = .next ∧ ρ' = ρ ∧ Exs g r ρ Z' O' rest F) ?_ (fun ρ' Z' O' hz ⟨_, e1, e2⟩ => by subst e1; exact e2) fun fl ρ' Z' O' hne _ q => absurd q.1 hne
  intro B Z₁ s Q hz st hq
  refine wpAny_AugAssign_AttributeAny (ho B Z₁ s _ hz st fun ov s2 Z2 O2 hz2 st2 ⟨e2, e3⟩ => ?_)
  subst e2
  obtain rfl : ov = .ref a := e3
  refine (conSlot (k := r.k) (e := true) (O := (a, instO C d sl) :: O) hK x (.inr (.head _)) (.inl (hz2 _ _ (hz _ _ hd))) hv hh) r.A s2 _ st2.room st2.ok fun y s3 Z3 O3 stp ⟨e4, e5, e6⟩ => ?_
  subst e4 e5 e6
  refine he B Z3 s3 _ (hz.trans hz2) (st2.step stp) fun w s4 Z4 O4 hz4 st4 ⟨e7, p7⟩ => ?_
  subst e7
  refine Op.of_con (ρ := ρ) (fun Z₃ hz3 => Con.pur_beside (hop Z₃ y w (hA _) (B₁.mono hz3 p7))) B Z4 s4 _ (.refl _) st4 fun u s5 Z5 O5 hz5 st5 ⟨e8, p8⟩ => ?_
  subst e8
  refine (conSetSlot (k := r.k) hK x hi (hz5 _ _ (hz4 _ _ (hz2 _ _ (hz _ _ hd))))) r.A s5 _ st5.room st5.ok fun _ s6 Z6 O6 stp6 ⟨e9, e10⟩ => ?_
  subst e9 e10
  exact hq .next ρ s6 Z6 _ (hz2.trans (hz4.trans hz5)) (st5.step stp6) ⟨rfl, rfl, h Z6 u (hz.trans (hz2.trans (hz4.trans hz5))) p8⟩

/-- arguments of which the last may be owned -/
def EvsG (g : Gd) (r : Frm) (ρ : Loc) (Z : Zp) (O : Own) (pos : Pos) (es : List Expr) (P : Zp → Own → List Value → Prop) : Prop :=
  Op g r ρ Z O (spliced (backTo pos (starEach es r.env))) P ∧ starEach es r.env = es.map fun e => (false, eval e r.env)
theorem EvsG.last {pos : Pos} {e : Expr} {P : Zp → Own → Value → Prop} (h : Op g r ρ Z O (eval e r.env) P) (he : starEach [e] r.env = [(false, eval e r.env)] := by rfl) : EvsG g r ρ Z O pos [e] (fun Z' O' vs => ∃ v, vs = [v] ∧ P Z' O' v) := by
  refine ⟨fun B Z₁ s Q hz st hq => args_cons (h B Z₁ s _ hz st fun v s' Z' O' hz' st' p => args_nil (hq _ s' Z' O' hz' st' ⟨v, rfl, p⟩)) he, he⟩
theorem EvsG.cons {pos : Pos} {e : Expr} {es : List Expr} {a : AV} {P : Zp → Own → List Value → Prop} (h1 : Ev g r ρ Z O e a) (h2 : EvsG g r ρ Z O pos es P)
    (he : starEach (e :: es) r.env = (false, eval e r.env) :: starEach es r.env := by rfl) : EvsG g r ρ Z O pos (e :: es) (fun Z' O' vs => ∃ v r, vs = v :: r ∧ a.P Z' v ∧ P Z' O' r) := by
  refine ⟨?_, by rw [he, h2.2]; rfl⟩
  intro B Z₁ s Q hz st hq
  refine args_cons (h1 B Z₁ s _ hz st fun v s' Z' O' hz' st' ⟨e, p⟩ => ?_) he
  subst e
  refine h2.1 B Z' s' _ (hz.trans hz') st' fun vs s2 Z2 O2 hz2 st2 p2 => ?_
  exact hq (v :: vs) s2 Z2 O2 (hz'.trans hz2) st2 ⟨v, vs, rfl, a.mono hz2 p, p2⟩
theorem EvsG.any {pos : Pos} {es : List Expr} {P : Zp → Own → List Value → Prop} (h : EvsG g r ρ Z O pos es P) : (backTo pos (starEach es r.env)).any (·.1) = false := by
  rw [h.2]
  unfold backTo
  rw [List.any_eq_false]
  intro p hp
  obtain ⟨q, hq, rfl⟩ := List.mem_map.mp hp
  obtain ⟨e, _, rfl⟩ := List.mem_map.mp hq
  simp
theorem opCallG {func : Expr} {f : Value} {pos : Pos} {es : List Expr} {P₀ : Zp → Own → List Value → Prop} {P : Zp → Own → Value → Prop} (hf : Ev g r ρ Z O func (aVal f)) (hk : Kp g f) (h : EvsG g r ρ Z O pos es P₀)
    (hc : ∀ Z₁ O₁ vs, Z.Le Z₁ → P₀ Z₁ O₁ vs → Con g r.k Z₁ O₁ (call f vs) P)
    (he : eval (.Call func es [] pos) r.env = (do callWith pos (← eval func r.env) [] (backTo pos (starEach es r.env)) (backToKw pos (keywordEach [] r.env))) := by rfl) : Op g r ρ Z O (eval (.Call func es [] pos) r.env) P := by
  intro B Z₁ s Q hz st hq
  refine Call_ (hf B Z₁ s _ hz st fun v s' Z' O' hz' st' ⟨e, p⟩ => ?_) he
  subst e
  obtain rfl : v = f := p
  refine callWith_of (P := g.K.In) ?_ hk ?_
  · rw [h.any]; rfl
  · refine evalArgs_any ?_ (h.1 B Z' s' _ (hz.trans hz') st' fun vs s2 Z2 O2 hz2 st2 p2 => ⟨st2.ok.K_in, ?_⟩)
    · intro p hp
      have := h.any
      rw [List.any_eq_false] at this
      simpa using this p hp
    · exact hc Z2 O2 vs (hz.trans (hz'.trans hz2)) p2 r.A s2 Q st2.room st2.ok fun v' s'' Z'' O'' stp p' => hq v' s'' Z'' O'' (hz'.trans (hz2.trans stp.le)) (st2.step stp) p'
end
end Mine
end
section
open PySem PySem.W PyProof.Rows PySem.Calls
set_option Elab.async false
set_option maxRecDepth 100000
set_option linter.unusedVariables false
namespace Mine
/-- a vector whose instance and tail are owned -/
def OVec (C : Addr) (O : Own) (off : Int) (b : Addr) (ls : List Addr) (vss : List (List Value)) (t : Addr) (tl : List Value) (h : Nat) (root : Addr) (Z : Zp) (O' : Own) : Prop :=
  ∃ d t1 t2 t3 m, O' = (b, vecO C d (32 * ls.length + tl.length) t1 root (5 * (h + 1)) t2 t off t3) :: (t, listO tl m) :: O ∧ Z d = some emptyDict ∧ NodeZ Z (h + 1) root ls ∧ ls.length ≤ 32 ^ (h + 1) ∧ Leaves Z ls vss ∧ tl.length ≤ 32 ∧ 32 * ls.length + tl.length ≤ capV ∧ h ≤ 3
theorem OVec.vec {C : Addr} {off : Int} {b : Addr} {ls : List Addr} {vss : List (List Value)} {t : Addr} {tl : List Value} {h : Nat} {root d : Addr} {Z : Zp} {t1 t2 t3 : Tok} {m : Nat} (hoff : off = 32 * ls.length) (hb : Z b = some (vecO C d (32 * ls.length + tl.length) t1 root (5 * (h + 1)) t2 t off t3)) (ht : Z t = some (listO tl m))
    (hd : Z d = some emptyDict) (hn : NodeZ Z (h + 1) root ls) (hc : ls.length ≤ 32 ^ (h + 1)) (hl : Leaves Z ls vss) (h32 : tl.length ≤ 32) (hs : 32 * ls.length + tl.length ≤ capV) (hh : h ≤ 3) : Vec Z C b ls vss t tl h root :=
  ⟨⟨d, t1, t2, t3, hoff ▸ hb, hd⟩, hn, hc, hl, ⟨m, ht⟩, h32, hs, hh⟩
end Mine
end
section
open PySem PySem.W PyProof.Rows PySem.Calls
set_option Elab.async false
set_option maxRecDepth 100000
set_option maxHeartbeats 1000000
set_option linter.unusedVariables false
namespace Mine
local macro_rules | `(tactic| walk_at "mem") => `(tactic| first | exact List.Mem.head _ | (refine List.Mem.tail _ ?_; walk_at "mem"))
local macro_rules | `(tactic| walk_at "nm") => `(tactic| (refine' Ev.name ?hm ?hd; (case hm => walk_at "mem"); (case hd => decide)))
local macro_rules | `(tactic| walk_at "sub") => `(tactic| first | exact List.forall_mem_nil _ | (refine List.forall_mem_cons.mpr ⟨?_, ?_⟩; (first | walk_at "mem" | simp); walk_at "sub"))
local macro_rules | `(tactic| walk_at "upd") => `(tactic| dsimp only [updL, List.filter, String.reduceBNe])
theorem fillK5 (w : World) : (KK w.params = KK w.params) ∧ (PySem.Challenge.rw_nc0017_01.name = PySem.Challenge.rw_nc0017_01.name) := by k_fill; exact ⟨rfl, rfl⟩
theorem mAppend (w : World) : MethK (KK w.params) C "append" 221 := by constructor <;> k_is
section
variable {g : Gd} (hK : g.K = KK g.w.params)
include hK
theorem append_ok {Z : Zp} {O : Own} {a t root : Addr} {ls : List Addr} {vss : List (List Value)} {tl : List Value} {h : Nat} {val : Value} (v : Vec Z C a ls vss t tl h root) (hc : 32 * ls.length + tl.length + 1 ≤ capV) :
    Con g 16 Z O (call (.ref 221) [.ref a, val]) (fun Z' O' w => ∃ b ls' vss' t' tl' h' root', w = .ref b ∧ OVec C O (32 * (ls'.length : Nat)) b ls' vss' t' tl' h' root' Z' O' ∧
      ((ls' = ls ∧ vss' = vss ∧ tl' = tl ++ [val] ∧ tl.length < 32) ∨ (ls' = ls ++ [t] ∧ vss' = vss ++ [tl] ∧ tl' = [val] ∧ tl.length = 32))) := by
  obtain ⟨d, t1, t2, t3, hobj, hd⟩ := v.obj
  obtain ⟨m, htl⟩ := v.tail
  have h32 := v.tlen
  have hsz : tl.length ≤ sizeLine := by have : 32 ≤ sizeLine := by decide
                                        omega
  refine ConC.con (conDef (k := 15) (bs := [("self", .ref a), ("val", val)]) [("self", aVal (.ref a)), ("val", aVal val)] ⟨rfl, rfl, rfl, rfl, trivial⟩ hK (by k_is) (by k_is) (fun s _ => BindsTo.of_eq rfl) (by rfl) (by simp) (by rfl) rfl rfl rfl ?_)
  intro L A gs os
  refine exIf (Tst.cmp (evLen hK (by k_is) (evSlot hK (kTail g.w) (by walk_at "nm") (.inl hobj) (.inl hd) rfl) (.inl htl) hsz) (evInt (Ev.glob hK (by k_is))) cmpLt) (fun hb => ?_) (fun hb => ?_)
  · have hlt : tl.length < 32 := by simp only [decide_eq_true_eq] at hb; omega
    refine exAssignO (P := NewL' O tl) (opCall (f := .type "list") (Ev.boot hK (by k_is) bt_list) Kp.type (Evs.cons (evSlot hK (kTail g.w) (by walk_at "nm") (.inl hobj) (.inl hd) rfl) Evs.nil) (fun Z₁ ws hz hds => ?_)) (fun Z₁ O₁ v₁ hz1 pk => ?_)
    · obtain ⟨v1, rfl, e1⟩ := hds.one
      obtain rfl : v1 = .ref t := e1
      exact (conListOf (.inl rfl) (.inl (hz _ _ htl)) rfl rfl hsz).mono fun Z' O' v _ ⟨a, n, e1, _, e2⟩ => ⟨a, n, e1, e2⟩
    obtain ⟨b, n', e1, e2⟩ := pk
    subst e1 e2
    walk_at "upd"
    refine exAppend (by walk_at "nm") (by walk_at "nm") hsz fun Z₂ w n'' hz2 e => ?_
    obtain rfl : w = val := e
    have hz := hz1.trans hz2
    refine exRet (P := fun Z' O' v => ∃ a' d' tk t3', v = .ref a' ∧ O' = (a', vecO C d' (32 * ls.length + tl.length + 1) tk root (5 * (h + 1)) t2 b (32 * ls.length + tl.length + 1 - ((tl ++ [w]).length : Nat)) t3') :: (b, listO (tl ++ [w]) n'') :: O ∧ Z' d' = some emptyDict)
      (opCall (f := .ref C) (as := [aInt (32 * ls.length + tl.length + 1), aVal (.int (5 * (h + 1)) t2), aVal (.ref root), aVal (.ref b)]) (Ev.glob hK (by k_is)) (Kp.own hK (by k_is)) (Evs.cons (Ev.bin (evInt (evSlot hK (kCount g.w) (by walk_at "nm") (.inl (hz _ _ hobj)) (.inl (hz _ _ hd)) rfl)) Ev.int binAdd)
      (Evs.cons (evSlot hK (kShift g.w) (by walk_at "nm") (.inl (hz _ _ hobj)) (.inl (hz _ _ hd)) rfl) (Evs.cons (evSlot hK (kRoot g.w) (by walk_at "nm") (.inl (hz _ _ hobj)) (.inl (hz _ _ hd)) rfl) (Evs.cons (by walk_at "nm") Evs.nil)))) (fun Z₃ ws hz3 hds => ?_))
      (fun Z₃ O₃ w' hz3 p => ?_)
    · obtain ⟨v1, v2, v3, v4, rfl, ⟨tk, rfl⟩, e2, e3, e4⟩ := hds.four
      obtain rfl : v2 = .int (5 * (h + 1)) t2 := e2
      obtain rfl : v3 = .ref root := e3
      obtain rfl : v4 = .ref b := e4
      exact ((new_ok hK (.inr (.head _)) (by simp; omega)).room (Nat.le_of_ble_eq_true rfl)).mono fun Z' O' v _ ⟨a', d', t3', e1, e2, e3⟩ => ⟨a', d', tk, t3', e1, e2, e3⟩
    · obtain ⟨b', d', tk, t3', e1, e2, hd'⟩ := p
      refine ⟨b', ls, vss, b, tl ++ [w], h, root, e1, ⟨d', tk, t2, t3', n'', ?_, hd', v.node.le (hz.trans hz3), v.cap, v.leaves.le (hz.trans hz3), by simp; omega, by simp; omega, v.hmax⟩, .inl ⟨rfl, rfl, rfl, hlt⟩⟩
      have f1 : (32 * (ls.length : Int) + tl.length + 1) = 32 * ls.length + ((tl ++ [w]).length : Nat) := by simp; omega
      have f2 : (32 * (ls.length : Int) + tl.length + 1) - ((tl ++ [w]).length : Nat) = 32 * ls.length := by simp; omega
      rw [e2, f2, f1]
  · have hlt : tl.length = 32 := by simp only [decide_eq_false_iff_not] at hb; omega
    refine exAssign2 (P := fun Z' O' v1 v2 => O' = O ∧ ∃ root' h' tk, v1 = .ref root' ∧ v2 = .int (5 * ((h' : Nat) + 1)) tk ∧ NodeZ Z' (h' + 1) root' (ls ++ [t]) ∧ ls.length + 1 ≤ 32 ^ (h' + 1) ∧ h' ≤ 3)
      (opMeth (f := .ref 214) (by walk_at "nm") (fun Z₂ ov hz hov => ?_) (Kp.own hK (by k_is)) Evs.nil (fun Z₂ ov ws hz2 hov hds => ?_)) (fun Z₁ O₁ v1 v2 hz1 pk => ?_)
    · obtain rfl : ov = .ref a := hov
      exact conMeth hK (mRoot g.w) (.inl (hz _ _ hobj)) (.inl (hz _ _ hd))
    · obtain rfl : ov = .ref a := hov
      obtain rfl := hds.nil
      exact ((newroot_ok hK (ls := ls) (by rw [hlt]; omega) (by omega) (.inl (hz2 _ _ hobj)) (.inl (hz2 _ _ hd)) (v.node.le hz2) v.cap v.hmax).room (Nat.le_of_ble_eq_true rfl)).mono fun Z' O' v _ ⟨e, a, root', h', tk, e1, e2, e3, e4, e5⟩ => ⟨a, _, _, 0, e1, e2, e, root', h', tk, rfl, rfl, e3, e4, e5⟩
    obtain ⟨eO, root', h', tk, e1, e2, hn', hc', hh'⟩ := pk
    subst eO e1 e2
    walk_at "upd"
    refine exRet (P := fun Z' O' v => ∃ a' d' tn t3' b, v = .ref a' ∧ O' = (a', vecO C d' (32 * ls.length + tl.length + 1) tn root' (5 * ((h' : Nat) + 1)) tk b (32 * ls.length + tl.length + 1 - 1) t3') :: (b, listO [val] 0) :: O₁ ∧ Z' d' = some emptyDict)
      (opCallG (f := .ref C) (Ev.glob hK (by k_is)) (Kp.own hK (by k_is)) (EvsG.cons (a := aInt (32 * ls.length + tl.length + 1)) (Ev.bin (evInt (evSlot hK (kCount g.w) (by walk_at "nm") (.inl (hz1 _ _ hobj)) (.inl (hz1 _ _ hd)) rfl)) Ev.int binAdd)
      (EvsG.cons (a := aVal (.int (5 * ((h' : Nat) + 1)) tk)) (by walk_at "nm") (EvsG.cons (a := aVal (.ref root')) (by walk_at "nm") (EvsG.last (opList (as := [aVal val]) (Evs.cons (by walk_at "nm") Evs.nil) one_fits))))) (fun Z₃ O₃ ws hz3 p => ?_))
      (fun Z₃ O₃ w' hz3 p => ?_)
    · obtain ⟨v1, r1, rfl, ⟨tn, rfl⟩, v2, r2, rfl, e2, v3, r3, rfl, e3, v4, rfl, b, us, e4, e5, hds⟩ := p
      obtain rfl : v2 = .int (5 * ((h' : Nat) + 1)) tk := e2
      obtain rfl : v3 = .ref root' := e3
      obtain rfl : v4 = .ref b := e4
      obtain ⟨u, rfl, e6⟩ := hds.one
      obtain rfl : u = val := e6
      subst e5
      exact ((new_ok hK (.inr (.head _)) (by simp)).room (Nat.le_of_ble_eq_true rfl)).mono fun Z' O' v _ ⟨a', d', t3', e1, e2, e3⟩ => ⟨a', d', tn, t3', b, e1, e2, e3⟩
    · obtain ⟨b', d', tn, t3', b, e1, e2, hd'⟩ := p
      have hz := hz1.trans hz3
      refine ⟨b', ls ++ [t], vss ++ [tl], b, [val], h', root', e1, ⟨d', tn, tk, t3', 0, ?_, hd', hn'.le hz3, by simpa using hc', (v.leaves.le hz).append ⟨tl, [], rfl, v.tail.le hz, hlt, rfl⟩, by simp, by simp; omega, hh'⟩, .inr ⟨rfl, rfl, rfl, hlt⟩⟩
      have f1 : (32 * (ls.length : Int) + tl.length + 1) = 32 * ((ls ++ [t]).length : Nat) + (([val] : List Value).length : Nat) := by simp; omega
      have f2 : (32 * (ls.length : Int) + tl.length + 1) - 1 = 32 * ((ls ++ [t]).length : Nat) := by simp; omega
      rw [e2, f2, f1]
end
end Mine
end
section
open PySem PySem.W PyProof.Rows PySem.Calls
set_option Elab.async false
set_option maxRecDepth 100000
set_option linter.unusedVariables false
namespace Mine
section
variable {g : Gd} {r : Frm} {ρ : Loc} {Z : Zp} {O : Own}
/-- a slice object -/
def aSlice (lo hi st : Option Int) : AV := ⟨fun Z v => ∃ a vl vu vs, v = .ref a ∧ Z a = some (sliceO vl vu vs) ∧ IsPart vl lo ∧ IsPart vu hi ∧ IsPart vs st, fun hz ⟨a, vl, vu, vs, e, h, x⟩ => ⟨a, vl, vu, vs, e, hz _ _ h, x⟩⟩
def aPart (o : Option Int) : AV := ⟨fun _ v => IsPart v o, fun _ h => h⟩
def PartE (g : Gd) (r : Frm) (ρ : Loc) (Z : Zp) (O : Own) (e : Option Expr) (o : Option Int) : Prop := Op g r ρ Z O (valueOrNone (evalOpt e r.env)) (fun Z' O' v => O' = O ∧ (aPart o).P Z' v)
theorem PartE.none : PartE g r ρ Z O none none := fun B Z₁ s _ _ st hq => wpAny_pure (hq _ s Z₁ O (.refl _) st ⟨rfl, .none⟩)
theorem PartE.some {e : Expr} {i : Int} (h : Ev g r ρ Z O e (aInt i)) : PartE g r ρ Z O (some e) (some i) := fun B Z₁ s Q hz st hq => h B Z₁ s Q hz st fun v s' Z' O' hz' st' ⟨e1, t, e2⟩ => by
  subst e2; exact hq _ s' Z' O' hz' st' ⟨e1, .int i t⟩
theorem evSlice {l u st : Option Expr} {pos : Pos} {lo hi sp : Option Int} (h1 : PartE g r ρ Z O l lo) (h2 : PartE g r ρ Z O u hi) (h3 : PartE g r ρ Z O st sp) : Ev g r ρ Z O (.Slice l u st pos) (aSlice lo hi sp) := by
  intro B Z₁ s Q hz sta hq
  rw [arm_eval_Slice]
  refine wpAny_bind (h1 B Z₁ s _ hz sta fun v1 s1 Z1 O1 hz1 st1 ⟨e1, p1⟩ => ?_)
  subst e1
  refine wpAny_bind (wpAny_holding (h2 B Z1 s1 _ (hz.trans hz1) st1 fun v2 s2 Z2 O2 hz2 st2 ⟨e2, p2⟩ => ?_))
  subst e2
  refine wpAny_bind (wpAny_holding (h3 B Z2 s2 _ (hz.trans (hz1.trans hz2)) st2 fun v3 s3 Z3 O3 hz3 st3 ⟨e3, p3⟩ => ?_))
  subst e3
  have stp := Step.push st3.ok (sliceO v1 v2 v3) s3.toks
  exact wpAny_newObj_type (hq _ _ _ _ (hz1.trans (hz2.trans (hz3.trans stp.le))) (st3.step stp) ⟨rfl, _, v1, v2, v3, rfl, Zp.set_self _ _ _, p1, p2, p3⟩) (by size_fits)
/-- an item or a cut of something built in -/
theorem conSubTail {k : Nat} {value slice : Expr} {o i : Value} {T id : String} {P : Zp → Own → Value → Prop} (hT : ∀ s, Ok g Z O s → s.TypeIs o T) (hl : typeLookup (.type T) "__getitem__" = pure (some (.builtin id))) (hs : ∃ ops, subscripted slice false o i = operate ops (getItem o i))
    (h : Con g k Z O (getItem o i) P) : Con g k Z O (subscriptTail value slice o i) P := by
  intro A s Q hr ok hq
  obtain ⟨ops, hs⟩ := hs
  unfold subscriptTail
  refine wpAny_bind ?_
  rw [getitemInPython_of_ne (hT s ok).not_modules]
  refine wpAny_bind (wpAny_specialOf (hT s ok) hl ?_)
  have fin : wpAny g.M A (subscripted slice false o i) (fun r s₃ => wpAny g.M A (letTemporaryGo value o r >>= fun _ => pure r) Q No s₃) No s := by
    rw [hs]
    exact wpAny_operating (h A s _ hr ok fun v s' Z' O' st p => wpAny_bind (wpAny_letTemporaryGo (wpAny_pure (hq v s' Z' O' st p))))
  first
    | exact wpAny_pure (wpAny_bind fin)
    | exact wpAny_bind (wpAny_pure (wpAny_bind fin))
/-- l[a:b:c], l in reach: a new list, owned -/
theorem opCut {value slice : Expr} {pos : Pos} {a : Addr} {vs : List Value} {n : Nat} {lo hi sp : Option Int} (hv : Ev g r ρ Z O value (aVal (.ref a))) (hi' : Ev g r ρ Z O slice (aSlice lo hi sp)) (h : At Z O a (listO vs n)) (h0 : sp ≠ some 0) (hz' : vs.length ≤ sizeLine)
    (hs : ∀ o i, ∃ ops, subscripted slice false o i = operate ops (getItem o i) := by intro o i; exact ⟨_, by with_unfolding_all rfl⟩) :
    Op g r ρ Z O (eval (.Subscript value slice pos) r.env) (fun Z' O' v => ∃ b m, v = .ref b ∧ O' = (b, listO (pick vs lo hi sp) m) :: O) :=
  opSub hv hi' fun Z₁ o iv hz e1 ⟨sl, vl, vu, vst, e2, e3, p1, p2, p3⟩ => by
    obtain rfl : o = .ref a := e1
    subst e2
    exact conSubTail (fun s ok => ⟨_, (h.le hz).get ok, rfl⟩) slot_list_getitem.lookup (hs _ _) ((conSlice (h.le hz) (.inl e3) p1 p2 p3 h0 hz').mono fun Z' O' v _ ⟨b, m, e1, _, e2⟩ => ⟨b, m, e1, e2⟩)
theorem Op.frzV {t : Sem Value} {vs : List Value} {O₀ : Own} (h : Op g r ρ Z O₀ t (fun Z' O' v => ∃ a n, v = .ref a ∧ O' = (a, listO vs n) :: O)) : Op g r ρ Z O₀ t (fun Z' O' v => O' = O ∧ (aVals vs).P Z' v) :=
  (Op.frzEnd (φ := fun _ o => ∃ n, o = listO vs n) (fun _ _ _ _ h => h) (h.mono fun Z' O' v _ ⟨a, n, e1, e2⟩ => ⟨a, _, e1, e2, n, rfl⟩)).mono fun Z' O' v _ ⟨e, a, o, e1, e2, n, e3⟩ => ⟨e, a, e1, n, e3 ▸ e2⟩
theorem pick_run (vs : List Value) (a b : Nat) : pick vs (some a) (some b) none = (vs.drop a).take (b - a) := by
  unfold pick
  rw [slicePick_plain]
  simp only [Option.elim_some, clipAt_nat, List.size_toArray]
  rcases Nat.le_total a vs.length with h | h
  · rw [Nat.min_eq_left h, List.take_eq_take_iff, List.length_drop, ← Nat.sub_min_sub_right, Nat.min_assoc, Nat.min_self]
  · rw [Nat.min_eq_right h, List.drop_length, List.drop_of_length_le h]; simp
theorem pick_from (vs : List Value) (a : Nat) : pick vs (some a) none none = vs.drop a := by unfold pick; rw [slicePick_from']
/-- self.name = e, where e owns something new -/
theorem exSetAttrP {K : Frag} {C a d p : Addr} {nm : Str} {i : Nat} {o e : Expr} {apos pos : Pos} {sl : List (Option Value)} {od : Obj} {rest : List Stmt} {P : Zp → Own → Value → Prop} {F : Flow → Loc → Zp → Own → Prop} (hK : g.K = K) (x : SlotK K C nm p i) (hi : i < 1000) (hd : Z d = some od)
    (he : Op g r ρ Z O (eval e r.env) P) (ho : ∀ Z' O' v, Z.Le Z' → P Z' O' v → ∃ O₁, O'.Perm ((a, instO C d sl) :: O₁) ∧ Ev g r ρ Z' ((a, instO C d sl) :: O₁) o (aVal (.ref a)) ∧ Exs g r ρ Z' ((a, instO C d (setAt sl i v)) :: O₁) rest F)
    (hs : swapsWith e (some (.Attribute o nm apos)) pos.line r.env = pure false := by rfl) : Exs g r ρ Z O (.Assign [.Attribute o nm apos] e pos :: rest) F := by
  refine exs_cons (F₁ := fun fl ρ' Z' O' => fl = .next ∧ ρ' = ρ ∧ Exs g r ρ Z' O' rest F) ?_ (fun ρ' Z' O' hz ⟨_, e1, e2⟩ => by subst e1; exact e2) fun fl ρ' Z' O' hne _ q => absurd q.1 hne
  intro B Z₁ s Q hz st hq
  refine plainObj_wpAny_Assign_Attribute (he B Z₁ s _ hz st fun v s' Z' O' hz' st' pv => ?_) hs
  obtain ⟨O₁, hp, hov, hr⟩ := ho Z' O' v (hz.trans hz') pv
  have st1 := st'.step (Step.perm st'.ok hp)
  refine hov B Z' s' _ (.refl _) st1 fun ov s2 Z2 O2 hz2 st2 ⟨e2, e3⟩ => ?_
  subst e2
  obtain rfl : ov = .ref a := e3
  refine (conSetSlot (k := r.k) hK x hi (hz2 _ _ (hz' _ _ (hz _ _ hd)))) r.A s2 _ st2.room st2.ok fun _ s3 Z3 O3 stp ⟨e4, e5⟩ => ?_
  subst e4 e5
  exact hq .next ρ s3 Z3 _ (hz'.trans hz2) (st2.step stp) ⟨rfl, rfl, hr.le hz2⟩
theorem Con.permEnd {α : Type} {k : Nat} {t : Sem α} {P P' : Zp → Own → α → Prop} (h : Con g k Z O t P) (hp : ∀ Z' O' v, Z.Le Z' → P Z' O' v → ∃ O'', O'.Perm O'' ∧ P' Z' O'' v) : Con g k Z O t P' :=
  fun A s Q hr ok hq => h A s Q hr ok fun v s' Z' O' st p => by
    obtain ⟨O'', h1, h2⟩ := hp Z' O' v st.le p
    exact hq v s' Z' O'' (st.trans (Step.perm (st.ok ok) h1)) h2
/-- len of a list that is told by its values -/
theorem evLenV {K : Frag} {e : Expr} {pos p : Pos} {vs : List Value} (hK : g.K = K) (hb : nsIn K mainGlobals "len" = some none) (he : Ev g r ρ Z O e (aVals vs)) (hs : vs.length ≤ sizeLine)
    (hx : r.env.kindOf "len" = some .globalImplicit := by rfl) (hstar : starEach [e] r.env = [(false, eval e r.env)] := by rfl)
    (heq : eval (.Call (.Name "len" p) [e] [] pos) r.env = (do callWith pos (← eval (.Name "len" p) r.env) [] (backTo pos (starEach [e] r.env)) (backToKw pos (keywordEach [] r.env))) := by rfl) :
    Ev g r ρ Z O (.Call (.Name "len" p) [e] [] pos) (aInt vs.length) :=
  opCall (f := .builtin "len") (Ev.boot hK hb boot_len (by decide) hx) Kp.builtin (Evs.cons he Evs.nil hstar) (fun Z₁ ws hz hd => by
    obtain ⟨v, rfl, a, e, n, h⟩ := hd.one
    subst e
    exact (conLen (.inl h) hs).mono fun Z' O' v _ ⟨_, e2, e3⟩ => ⟨e2, e3⟩) heq
theorem exIntHead {x : String} {i : Int} {tk : Tok} {t : Sem Flow} {F : Flow → Loc → Zp → Own → Prop} (h : Ex g r ((x, aInt i) :: ρ) Z O t F) : Ex g r ((x, aVal (.int i tk)) :: ρ) Z O t F :=
  Ex.weak (fun y av hy => by
    rcases List.mem_cons.mp hy with e | hy
    · injection e with e1 e2; subst e1 e2; exact ⟨_, .head _, fun _ v _ e => ⟨tk, e⟩⟩
    · exact ⟨av, .tail _ hy, fun _ _ _ h => h⟩) h
end
end Mine
end
section
open PySem PySem.W PyProof.Rows PySem.Calls
set_option Elab.async false
set_option maxRecDepth 100000
set_option maxHeartbeats 1000000
set_option linter.unusedVariables false
namespace Mine
local macro_rules | `(tactic| walk_at "mem") => `(tactic| first | exact List.Mem.head _ | (refine List.Mem.tail _ ?_; walk_at "mem"))
local macro_rules | `(tactic| walk_at "nm") => `(tactic| (refine' Ev.name ?hm ?hd; (case hm => walk_at "mem"); (case hd => decide)))
local macro_rules | `(tactic| walk_at "sub") => `(tactic| first | exact List.forall_mem_nil _ | (refine List.forall_mem_cons.mpr ⟨?_, ?_⟩; (first | walk_at "mem" | simp); walk_at "sub"))
local macro_rules | `(tactic| walk_at "upd") => `(tactic| dsimp only [updL, List.filter, String.reduceBNe])
theorem fillK6 (w : World) : (KK w.params = KK w.params) ∧ (PySem.Challenge.rw_nc0017_01.name = PySem.Challenge.rw_nc0017_01.name) := by k_fill; exact ⟨rfl, rfl⟩
theorem mInsert (w : World) : MethK (KK w.params) C "_mutating_insert_tail" 235 := by constructor <;> k_is
theorem mFillTail (w : World) : MethK (KK w.params) C "_mutating_fill_tail" 242 := by constructor <;> k_is
theorem mMutExt (w : World) : MethK (KK w.params) C "_mutating_extend" 249 := by constructor <;> k_is
section
variable {g : Gd} (hK : g.K = KK g.w.params)
include hK
theorem insert_ok {Z : Zp} {O : Own} {b d t root : Addr} {n off : Int} {t1 t2 t3 : Tok} {h : Nat} {ls : List Addr} (hn : n = 32 * (ls.length + 1)) (hc : 32 * (ls.length + 1) ≤ capV) (hd : Z d = some emptyDict) (hnode : NodeZ Z (h + 1) root ls) (hcap : ls.length ≤ 32 ^ (h + 1)) (hh : h ≤ 3) :
    Con g 14 Z ((b, vecO C d n t1 root (5 * (h + 1)) t2 t off t3) :: O) (call (.ref 235) [.ref b])
      (fun Z' O' v => v = .none ∧ ∃ root' h' tk t', O' = (b, vecO C d n t1 root' (5 * ((h' : Nat) + 1)) tk t' off t3) :: (t', listO [] 0) :: O ∧ NodeZ Z' (h' + 1) root' (ls ++ [t]) ∧ ls.length + 1 ≤ 32 ^ (h' + 1) ∧ h' ≤ 3) := by
  refine ConC.con (conDef (k := 13) (bs := [("self", .ref b)]) [("self", aVal (.ref b))] ⟨rfl, rfl, trivial⟩ hK (by k_is) (by k_is) (fun s _ => BindsTo.of_eq rfl) (by rfl) (by simp) (by rfl) rfl rfl rfl ?_)
  intro L A gs os
  refine exSetAttr2 (P := fun Z' v1 v2 => ∃ root' h' tk, v1 = .ref root' ∧ v2 = .int (5 * ((h' : Nat) + 1)) tk ∧ NodeZ Z' (h' + 1) root' (ls ++ [t]) ∧ ls.length + 1 ≤ 32 ^ (h' + 1) ∧ h' ≤ 3) hK (kRoot g.w) (kShift g.w) (by decide) (by decide) hd
    (opMeth (f := .ref 214) (by walk_at "nm") (fun Z₂ ov hz hov => ?_) (Kp.own hK (by k_is)) Evs.nil (fun Z₂ ov ws hz2 hov hds => ?_)) (fun _ => by walk_at "nm") (fun _ => by walk_at "nm") (fun Z₁ v1 v2 hz1 pk => ?_)
  · obtain rfl : ov = .ref b := hov
    exact conMeth hK (mRoot g.w) (.inr (.head _)) (.inl (hz _ _ hd))
  · obtain rfl : ov = .ref b := hov
    obtain rfl := hds.nil
    exact ((newroot_ok hK (ls := ls) hn hc (.inr (.head _)) (.inl (hz2 _ _ hd)) (hnode.le hz2) hcap hh).room (Nat.le_of_ble_eq_true rfl)).mono fun Z' O' v _ ⟨e, a, root', h', tk, e1, e2, e3, e4, e5⟩ => ⟨e, a, _, _, 0, e1, e2, root', h', tk, rfl, rfl, e3, e4, e5⟩
  obtain ⟨root', h', tk, e1, e2, hn', hc', hh'⟩ := pk
  subst e1 e2
  refine exSetAttrP (a := b) (sl := [some (.int n t1), some (.ref root'), some (.int (5 * ((h' : Nat) + 1)) tk), some (.ref t), some (.int off t3)]) hK (kTail g.w) (by decide) (hz1 _ _ hd) opNil (fun Z₂ O₂ v hz2 pk => ?_)
  obtain ⟨t', e1, e2⟩ := pk
  subst e1 e2
  refine ⟨(t', listO [] 0) :: O, List.Perm.swap .., by walk_at "nm", exs_nil fun Z₃ hz3 => ⟨rfl, root', h', tk, t', rfl, hn'.le (hz2.trans hz3), hc', hh'⟩⟩
theorem filltail_ok {Z : Zp} {O : Own} {b d t root sq : Addr} {n sh off : Int} {t1 t2 t3 tk : Tok} {tl ss : List Value} {m k : Nat} (hd : Z d = some emptyDict) (hsq : LZ Z sq ss) (hss : ss.length ≤ capV) (hk : k ≤ ss.length) (h32 : tl.length ≤ 32) :
    Con g 8 Z ((b, vecO C d n t1 root sh t2 t off t3) :: (t, listO tl m) :: O) (call (.ref 242) [.ref b, .int k tk, .ref sq])
      (fun Z' O' v => ∃ tr t1' m', v = .int (k + ((ss.drop k).take (32 - tl.length)).length) tr ∧ O' = (b, vecO C d (n + ((ss.drop k).take (32 - tl.length)).length) t1' root sh t2 t off t3) :: (t, listO (tl ++ (ss.drop k).take (32 - tl.length)) m') :: O) := by
  obtain ⟨q, hq⟩ := hsq
  have hcap : capV + 64 ≤ sizeLine := by decide
  have hpk : pick ss (some (k : Int)) (some ((k : Int) + (32 - (tl.length : Int)))) none = (ss.drop k).take (32 - tl.length) := by
    have : (k : Int) + (32 - (tl.length : Int)) = ((k + (32 - tl.length) : Nat) : Int) := by omega
    rw [this, pick_run, Nat.add_sub_cancel_left]
  have hdl : ((ss.drop k).take (32 - tl.length)).length ≤ 32 := by rw [List.length_take]; omega
  generalize hD : (ss.drop k).take (32 - tl.length) = D at *
  refine ConC.con (conDef (k := 7) (bs := [("self", .ref b), ("offset", .int k tk), ("sequence", .ref sq)]) [("self", aVal (.ref b)), ("offset", aInt k), ("sequence", aVal (.ref sq))] ⟨rfl, rfl, rfl, ⟨_, rfl⟩, rfl, rfl, trivial⟩ hK (by k_is) (by k_is) (fun s _ => BindsTo.of_eq rfl) (by rfl) (by simp) (by rfl) rfl rfl rfl ?_)
  intro L A gs os
  have hT : ∀ Z', At Z' ((b, vecO C d n t1 root sh t2 t off t3) :: (t, listO tl m) :: O) t (listO tl m) := fun _ => .inr (.tail _ (.head _))
  refine exAssign (Ev.bin (evInt (Ev.glob hK (by k_is))) (evLen hK (by k_is) (evSlot hK (kTail g.w) (by walk_at "nm") (.inr (.head _)) (.inl hd) rfl) (hT _) (by omega)) binSub) ?_
  walk_at "upd"
  refine exAssign (Op.frzV (opCut (sp := none) (by walk_at "nm") (evSlice (PartE.some (by walk_at "nm")) (PartE.some (Ev.bin (by walk_at "nm") (by walk_at "nm") binAdd)) PartE.none) (.inl hq) (by simp) (by omega))) ?_
  walk_at "upd"
  rw [hpk]
  refine exExpr (P := fun Z' O' => ∃ m', O' = (b, vecO C d n t1 root sh t2 t off t3) :: (t, listO (tl ++ D) m') :: O) (opMeth (f := .builtin "list.extend") (evSlot hK (kTail g.w) (by walk_at "nm") (.inr (.head _)) (.inl hd) rfl) (fun Z₂ ov hz hov => ?_) Kp.builtin (Evs.cons (by walk_at "nm") Evs.nil) (fun Z₂ ov ws hz2 hov hds => ?_)) (fun Z₂ O₂ hz2 pk => ?_)
  · obtain rfl : ov = .ref t := hov
    exact conGetL F.slot_list_extend md_extend (hT _)
  · obtain rfl : ov = .ref t := hov
    obtain ⟨v1, rfl, da, rfl, dn, hda⟩ := hds.one
    refine Con.perm (List.Perm.swap ..) (Con.permEnd (conExtend (.inl hda) (by omega)) fun Z' O' v _ ⟨e1, _, n', e2⟩ => ⟨_, e2 ▸ List.Perm.swap .., e1, n', rfl⟩)
  obtain ⟨m', e⟩ := pk
  subst e
  refine exAssign (evLenV hK (by k_is) (by walk_at "nm") (by omega)) ?_
  walk_at "upd"
  refine exAugAttr (A₁ := aInt n) (B₁ := aInt D.length) hK (kCount g.w) (by decide) (hz2 _ _ hd) (by walk_at "nm") rfl rfl (fun _ => ⟨_, rfl⟩) (by walk_at "nm") augAdd (fun Z₃ w hz3 pk => ?_)
  obtain ⟨t1', e⟩ := pk
  subst e
  exact exRetEv (Ev.bin (by walk_at "nm") (by walk_at "nm") binAdd) fun Z₄ v hz4 ⟨tr, e⟩ => ⟨tr, t1', m', e, rfl⟩
end
theorem fillK7 (w : World) : (KK w.params = KK w.params) ∧ (PySem.Challenge.rw_nc0017_01.name = PySem.Challenge.rw_nc0017_01.name) := by k_fill; exact ⟨rfl, rfl⟩
theorem turnLess {s k t D : Nat} (h1 : D = min (32 - t) (s - k)) (h2 : k < s) (h3 : t ≤ 32) : 2 * (s - (k + D)) + 1 < 2 * (s - k) + 1 + (if t = 32 then 1 else 0) := by split <;> omega
theorem turnLe {s k t D : Nat} (h1 : D = min (32 - t) (s - k)) (h2 : k < s) : k + D ≤ s := by omega
section
variable {g : Gd} (hK : g.K = KK g.w.params)
include hK
theorem mutext_ok {Z : Zp} {O O₀ : Own} {b t root sq : Addr} {off : Int} {ls : List Addr} {vss : List (List Value)} {tl ss : List Value} {h : Nat} (ov : OVec C O off b ls vss t tl h root Z O₀) (hsq : LZ Z sq ss) (hcap : 32 * ls.length + tl.length + ss.length ≤ capV) :
    Con g 18 Z O₀ (call (.ref 249) [.ref b, .ref sq])
      (fun Z' O' v => v = .none ∧ ∃ ls' vss' t' tl' h' root', OVec C O (32 * (ls'.length : Nat)) b ls' vss' t' tl' h' root' Z' O' ∧ vss'.flatten ++ tl' = vss.flatten ++ tl ++ ss ∧ ∃ more, ls' = ls ++ more) := by
  obtain ⟨d, t1, t2, t3, m, e0, hd, hnode, hcp, hleaves, h32, hsmall, hh⟩ := id ov
  have hcap2 : capV + 64 ≤ sizeLine := by decide
  have hfl := hleaves.flat
  obtain ⟨q, hq⟩ := hsq
  refine ConC.con (conDef (k := 17) (bs := [("self", .ref b), ("sequence", .ref sq)]) [("self", aVal (.ref b)), ("sequence", aVal (.ref sq))] ⟨rfl, rfl, rfl, rfl, trivial⟩ hK (by k_is) (by k_is) (fun s _ => BindsTo.of_eq rfl) (by rfl) (by simp) (by rfl) rfl rfl rfl ?_)
  intro L A gs os
  refine exAssign Ev.int ?_
  walk_at "upd"
  refine exAssign (evLen hK (by k_is) (by walk_at "nm") (.inl hq) (by omega)) ?_
  walk_at "upd"
  refine exWhile (2 * ss.length + 1 + (if tl.length = 32 then 1 else 0)) (fun m ρ' Z' O' => ∃ (k : Nat) (ls' : List Addr) (vss' : List (List Value)) (t' : Addr) (tl' : List Value) (h' : Nat) (root' : Addr), m = 2 * (ss.length - k) + 1 + (if tl'.length = 32 then 1 else 0) ∧ k ≤ ss.length ∧ (∀ p ∈ ([("offset", aInt (k : Nat)), ("sequence_len", aInt ss.length), ("self", aVal (.ref b)), ("sequence", aVal (.ref sq))] : Mine.Loc), p ∈ ρ') ∧
    OVec C O off b ls' vss' t' tl' h' root' Z' O' ∧ vss'.flatten ++ tl' = vss.flatten ++ tl ++ ss.take k ∧ ∃ more, ls' = ls ++ more) (fun Z₁ hz1 => ?_) (fun mm ρ' Z' O' hz1 pk => ?_)
  · refine ⟨0, ls, vss, t, tl, h, root, by simp, Nat.zero_le _, by walk_at "sub", ?_, by simp, [], by simp⟩
    exact ⟨d, t1, t2, t3, m, e0, hz1 _ _ hd, hnode.le hz1, hcp, hleaves.le hz1, h32, hsmall, hh⟩
  · obtain ⟨k, ls', vss', t', tl', h', root', em, hk, hsub, ov', hcon, more, hmore⟩ := pk
    obtain ⟨d', t1', t2', t3', m', e0', hd', hnode', hcp', hleaves', h32', hsmall', hh'⟩ := ov'
    subst e0'
    have hfl' := hleaves'.flat
    refine ⟨decide ((k : Int) < ss.length), ?_, fun hb => ?_, fun hb => ?_⟩
    · exact Tst.cmp (Ev.name (hsub _ (by walk_at "mem"))) (Ev.name (hsub _ (by walk_at "mem"))) cmpLt
    · have hlt : k < ss.length := by simp only [decide_eq_true_eq] at hb; omega
      refine Ex.less ?_ hsub
      have hDl : ((ss.drop k).take (32 - tl'.length)).length = min (32 - tl'.length) (ss.length - k) := by rw [List.length_take, List.length_drop]
      have htk : ss.take (k + ((ss.drop k).take (32 - tl'.length)).length) = ss.take k ++ (ss.drop k).take (32 - tl'.length) := by
        rw [List.take_add]
        congr 1
        rw [hDl, List.take_eq_take_iff, List.length_drop]; omega
      refine exAssignO (P := fun Z'' O'' v => ∃ tr ta mb, v = .int (k + ((ss.drop k).take (32 - tl'.length)).length) tr ∧ O'' = (b, vecO C d' (32 * ls'.length + tl'.length + ((ss.drop k).take (32 - tl'.length)).length) ta root' (5 * (h' + 1)) t2' t' off t3') :: (t', listO (tl' ++ (ss.drop k).take (32 - tl'.length)) mb) :: O)
        (opMeth (f := .ref 242) (by walk_at "nm") (fun Z₂ ov hz hov => ?_) (Kp.own hK (by k_is)) (Evs.cons (by walk_at "nm") (Evs.cons (by walk_at "nm") Evs.nil)) (fun Z₂ ov ws hz2 hov hds => ?_)) (fun Z₂ O₂ v hz2 pk => ?_)
      · obtain rfl : ov = .ref b := hov
        exact conMeth hK (mFillTail g.w) (.inr (.head _)) (.inl (hz _ _ hd'))
      · obtain rfl : ov = .ref b := hov
        obtain ⟨v1, v2, rfl, ⟨tk, rfl⟩, e2⟩ := hds.two
        obtain rfl : v2 = .ref sq := e2
        exact ((filltail_ok hK (hz2 _ _ hd') ⟨q, hz2 _ _ (hz1 _ _ hq)⟩ (by omega) hk h32').room (Nat.le_of_ble_eq_true rfl))
      obtain ⟨tr, ta, mb, e1, e2⟩ := pk
      subst e1 e2
      walk_at "upd"
      refine exIntHead ?_
      generalize hD : (ss.drop k).take (32 - tl'.length) = D at *
      have hn : (32 * (ls'.length : Int) + tl'.length + D.length) = 32 * ls'.length + ((tl' ++ D).length : Nat) := by simp; omega
      have hkD : (k : Int) + D.length = ((k + D.length : Nat) : Int) := by omega
      have hT : ∀ Z', At Z' ((b, vecO C d' (32 * ls'.length + tl'.length + D.length) ta root' (5 * (h' + 1)) t2' t' off t3') :: (t', listO (tl' ++ D) mb) :: O) t' (listO (tl' ++ D) mb) := fun _ => .inr (.tail _ (.head _))
      have hcon' : vss'.flatten ++ (tl' ++ D) = vss.flatten ++ tl ++ ss.take (k + D.length) := by rw [htk, ← List.append_assoc, hcon, List.append_assoc]
      have hlenc := congrArg List.length hcon'
      simp only [List.length_append, hfl', hfl, List.length_take] at hlenc
      rw [hkD]
      refine exIf (Tst.cmp (evLen hK (by k_is) (evSlot hK (kTail g.w) (by walk_at "nm") (.inr (.head _)) (.inl (hz2 _ _ hd')) rfl) (hT _) (by simp; omega)) (evInt (Ev.glob hK (by k_is))) cmpEq) (fun hb2 => ?_) (fun hb2 => ?_)
      · have h32D : (tl' ++ D).length = 32 := by have := beq_iff_eq.mp hb2; omega
        refine Ex.perm (List.Perm.swap ..) (Ex.frz fun Z₃ hz3 hfr => ?_)
        refine exExpr (P := fun Z' O' => ∃ root'' h'' tk t'', O' = (b, vecO C d' (32 * ls'.length + tl'.length + D.length) ta root'' (5 * ((h'' : Nat) + 1)) tk t'' off t3') :: (t'', listO [] 0) :: O ∧ NodeZ Z' (h'' + 1) root'' (ls' ++ [t']) ∧ ls'.length + 1 ≤ 32 ^ (h'' + 1) ∧ h'' ≤ 3)
          (opMeth (f := .ref 235) (by walk_at "nm") (fun Z₄ ov hz hov => ?_) (Kp.own hK (by k_is)) Evs.nil (fun Z₄ ov ws hz4 hov hds => ?_)) (fun Z₄ O₄ hz4 pk => ?_)
        · obtain rfl : ov = .ref b := hov
          exact conMeth hK (mInsert g.w) (.inr (.head _)) (.inl (hz _ _ (hz3 _ _ (hz2 _ _ hd'))))
        · obtain rfl : ov = .ref b := hov
          obtain rfl := hds.nil
          exact (insert_ok hK (ls := ls') (by rw [hn, h32D]; omega) (by simp at h32D; omega) (hz4 _ _ (hz3 _ _ (hz2 _ _ hd'))) (hnode'.le (hz2.trans (hz3.trans hz4))) hcp' hh').room (Nat.le_of_ble_eq_true rfl)
        · obtain ⟨root'', h'', tk, t'', e, hn'', hc'', hh''⟩ := pk
          subst e
          have hz24 := hz2.trans (hz3.trans hz4)
          refine exs_nil fun Z₅ hz5 => ⟨2 * (ss.length - (k + D.length)) + 1, ?_, k + D.length, ls' ++ [t'], vss' ++ [tl' ++ D], t'', [], h'', root'', by simp, turnLe hDl hlt, by walk_at "sub", ⟨d', ta, tk, t3', 0, ?_, hz5 _ _ (hz24 _ _ hd'), hn''.le hz5, by simpa using hc'', (hleaves'.le (hz24.trans hz5)).append ⟨tl' ++ D, [], rfl, ⟨mb, hz5 _ _ (hz4 _ _ hfr)⟩, h32D, rfl⟩, by simp, ?_, hh''⟩, ?_, more ++ [t'], by rw [hmore, List.append_assoc]⟩
          · rw [em]; exact turnLess hDl hlt h32'
          · have f1 : (32 * (ls'.length : Int) + tl'.length + D.length) = 32 * ((ls' ++ [t']).length : Nat) + (([] : List Value).length : Nat) := by rw [hn, h32D]; simp; omega
            rw [f1]
          · simp; omega
          · simpa using hcon'
      · have h32D : (tl' ++ D).length ≠ 32 := by
          intro e
          rw [e] at hb2
          exact absurd hb2 (by decide)
        rw [List.length_append] at h32D
        refine exs_nil fun Z₅ hz5 => ⟨2 * (ss.length - (k + D.length)) + 1, ?_, k + D.length, ls', vss', t', tl' ++ D, h', root', ?_, turnLe hDl hlt, by walk_at "sub", ⟨d', ta, t2', t3', mb, by rw [hn], hz5 _ _ (hz2 _ _ hd'), hnode'.le (hz2.trans hz5), hcp', hleaves'.le (hz2.trans hz5), by simp; omega, by simp; omega, hh'⟩, hcon', more, hmore⟩
        · rw [em]; exact turnLess hDl hlt h32'
        · rw [List.length_append, if_neg h32D]
    · have hks : k = ss.length := by simp only [decide_eq_false_iff_not] at hb; omega
      refine Ex.less ?_ hsub
      have hT : ∀ Z', At Z' ((b, vecO C d' (32 * ls'.length + tl'.length) t1' root' (5 * (h' + 1)) t2' t' off t3') :: (t', listO tl' m') :: O) t' (listO tl' m') := fun _ => .inr (.tail _ (.head _))
      refine exSetAttrEv (P := aInt (32 * ls'.length + tl'.length - tl'.length)) hK (kOff g.w) hd' (Ev.bin (evInt (evSlot hK (kCount g.w) (by walk_at "nm") (.inr (.head _)) (.inl hd') rfl)) (evLen hK (by k_is) (evSlot hK (kTail g.w) (by walk_at "nm") (.inr (.head _)) (.inl hd') rfl) (hT _) (by omega)) binSub) (by walk_at "nm") fun Z₆ v hz6 pk => ?_
      obtain ⟨t3'', e⟩ := pk
      subst e
      refine exs_nil fun Z₇ hz7 => ⟨rfl, ls', vss', t', tl', h', root', ⟨d', t1', t2', t3'', m', ?_, hz7 _ _ (hz6 _ _ hd'), hnode'.le (hz6.trans hz7), hcp', hleaves'.le (hz6.trans hz7), h32', hsmall', hh'⟩, by rw [hcon, hks, List.take_length], more, hmore⟩
      rw [show (32 * (ls'.length : Int) + tl'.length - tl'.length) = 32 * ls'.length from by omega]
      rfl
end
end Mine
end
section
open PySem PySem.W PyProof.Rows PySem.Calls
set_option Elab.async false
set_option maxRecDepth 100000
set_option linter.unusedVariables false
namespace Mine
section
variable {g : Gd} {r : Frm} {ρ : Loc} {Z : Zp} {O : Own} {K : Frag} {C a d : Addr} {k : Nat} {vs : List Value} {n : Nat}
theorem conIsiT {sl : List (Option Value)} (hK : g.K = K) (h : At Z O a (instO C d sl)) : Con g k Z O (call (.builtin "isinstance") [.ref a, .ref C]) (fun Z' O' v => Z' = Z ∧ O' = O ∧ v = .bool true) := by
  subst hK
  intro A s Q hr ok hq
  have ho := h.get ok
  exact isi_call ok.K_in (fun M => (Looks.ld ho).andThen .now) (t := .ref C) (by unfold isIn; simp) (by intro e; cases e) (hq _ s Z O (Step.refl ok (t := s.toks)) ⟨rfl, rfl, rfl⟩)
theorem conIsiL (hK : g.K = K) (hn : isNotIn K "list" C = true) (h : At Z O a (listO vs n)) : Con g k Z O (call (.builtin "isinstance") [.ref a, .ref C]) (fun Z' O' v => Z' = Z ∧ O' = O ∧ v = .bool false) := by
  subst hK
  intro A s Q hr ok hq
  have ho := h.get ok
  exact isn_call (P := fun hh => ∃ o, hh.get? a = some o ∧ o.cls = .type "list") ok.K_in (fun M => (Looks.ld ho).andThen .now) hn (by intro e; cases e) ⟨_, ho, rfl⟩ (fun p q => list_cls p q) (hq _ _ Z O (Step.refl ok) ⟨rfl, rfl, rfl⟩)
theorem conIsiTup (hK : g.K = K) (hn : isNotIn K "tuple" C = true) (h : At Z O a (tupO vs n)) : Con g k Z O (call (.builtin "isinstance") [.ref a, .ref C]) (fun Z' O' v => Z' = Z ∧ O' = O ∧ v = .bool false) := by
  subst hK
  intro A s Q hr ok hq
  have ho := h.get ok
  exact isn_call (P := fun hh => ∃ o, hh.get? a = some o ∧ o.cls = .type "tuple") ok.K_in (fun M => (Looks.ld ho).andThen .now) hn (by intro e; cases e) ⟨_, ho, rfl⟩ (fun p q => tuple_cls p q) (hq _ _ Z O (Step.refl ok) ⟨rfl, rfl, rfl⟩)
theorem opIte {test body orelse : Expr} {pos : Pos} {b : Bool} {P : Zp → Own → Value → Prop} (h : Tst g r ρ Z O test b) (h1 : b = true → Op g r ρ Z O (eval body r.env) P) (h2 : b = false → Op g r ρ Z O (eval orelse r.env) P) : Op g r ρ Z O (eval (.IfExp test body orelse pos) r.env) P := by
  intro B Z₁ s Q hz st hq
  refine wpAny_IfExp (h B Z₁ s _ hz st fun v s' Z' O' hz' st' ⟨e, p⟩ => ?_)
  subst e p
  cases v with
  | true => exact h1 rfl B Z' s' Q (hz.trans hz') st' fun v' s'' Z'' O'' hz'' st'' p' => hq v' s'' Z'' O'' (hz'.trans hz'') st'' p'
  | false => exact h2 rfl B Z' s' Q (hz.trans hz') st' fun v' s'' Z'' O'' hz'' st'' p' => hq v' s'' Z'' O'' (hz'.trans hz'') st'' p'
theorem truVals (hs : vs.length ≤ sizeLine) : TruR g k (aVals vs) (!vs.isEmpty) := by
  rintro Z x ⟨a, rfl, n, h⟩
  exact (conTruL (.inl h) hs).mono fun Z' O' v _ ⟨_, e2, e3⟩ => ⟨e2, e3⟩
theorem evItemV {value slice : Expr} {pos : Pos} {i : Int} {x : Value} (hv : Ev g r ρ Z O value (aVals vs)) (hi : Ev g r ρ Z O slice (aInt i)) (h0 : 0 ≤ i) (hf : i < 2 ^ 63) (hx : vs[i.toNat]? = some x)
    (hs : ∀ a i u, subscripted slice false (.ref a) (.int i u) = operate [.ref a, .int i u] (getItem (.ref a) (.int i u)) := by intros; with_unfolding_all rfl) (hg : ∀ a r, letTemporaryGo value (.ref a) r = pure () := by intros; with_unfolding_all rfl) :
    Ev g r ρ Z O (.Subscript value slice pos) (aVal x) :=
  opSub hv hi fun Z₁ o iv hz ⟨a, e1, n, h⟩ ⟨u, e2⟩ => by
    subst e1 e2
    exact (conItem (.inl h) h0 hf hx (hs _ _ _) (hg _)).mono fun Z' O' v _ ⟨_, e2, e3⟩ => ⟨e2, e3⟩
theorem evCutV {value slice : Expr} {pos : Pos} {lo hi sp : Option Int} (hv : Ev g r ρ Z O value (aVals vs)) (hi' : Ev g r ρ Z O slice (aSlice lo hi sp)) (h0 : sp ≠ some 0) (hz' : vs.length ≤ sizeLine)
    (hs : ∀ o i, ∃ ops, subscripted slice false o i = operate ops (getItem o i) := by intro o i; exact ⟨_, by with_unfolding_all rfl⟩) :
    Ev g r ρ Z O (.Subscript value slice pos) (aVals (pick vs lo hi sp)) :=
  opSub hv hi' fun Z₁ o iv hz ⟨a, e1, n, h⟩ ⟨sl, vl, vu, vst, e2, e3, p1, p2, p3⟩ => by
    subst e1 e2
    exact Con.frzV (conSubTail (fun s ok => ⟨_, ok.zin _ _ h, rfl⟩) slot_list_getitem.lookup (hs _ _) ((conSlice (.inl h) (.inl e3) p1 p2 p3 h0 hz').mono fun Z' O' v _ ⟨b, m, e1, _, e2⟩ => ⟨b, m, e1, e2⟩))
end
end Mine
end
section
open PySem PySem.W PyProof.Rows PySem.Calls
set_option Elab.async false
set_option maxRecDepth 100000
set_option linter.unusedVariables false
set_option maxHeartbeats 1000000
namespace Mine
section
variable {g : Gd} {Z : Zp} {O : Own}
theorem mem_lookup_cells : ∀ {cs : List (Str × Addr)} {n : Str} {c : Addr}, (cs.map (·.1)).Nodup → (n, c) ∈ cs → cs.lookup n = some c
  | [], _, _, _, h => nomatch h
  | (y, u) :: l, n, c, hn, h => by
    rw [List.map_cons, List.nodup_cons] at hn
    rw [List.lookup_cons]
    rcases List.mem_cons.mp h with e | h
    · injection e with e1 e2; subst e1 e2; simp
    · have hne : n ≠ y := fun e => hn.1 (e ▸ List.mem_map.mpr ⟨(n, c), h, rfl⟩)
      rw [show (n == y) = false from by simpa using hne]
      exact mem_lookup_cells hn.2 h
/-- the contract of a def whose names are read by a comprehension: its cells are owned at the start -/
theorem conDefC {K : Frag} {f : Addr} {name qual : Str} {params : Arguments} {body : List Stmt} {scope : Scope} {dV kV doc pm cdv ct oc : Value} {an od : Option Addr} {osl : Array (Option Value)} {args : List Value} {k : Nat}
    {P : Zp → Own → Value → Prop} (bs : List (Str × Value)) (ρ₀ : Loc) (hK : g.K = K)
    (ho : K.lookup f = some ⟨oc, od, .func (fnX name qual params body scope [] dV kV doc pm an cdv ct), osl⟩) (hcd : codeIn K cdv qual = true)
    (hbind : bindArgs (fnX name qual params body scope [] dV kV doc pm an cdv ct) ⟨args, []⟩ = pure bs)
    (hkind : ∀ n, ∀ x ∈ bs, scope.names.lookup x.1 = some .local ∨ (scope.names.lookup x.1 = some .cell ∧ ((cellsFrom n scope.names []).lookup x.1).isSome = true))
    (hρ : ∀ x av, (x, av) ∈ ρ₀ → ∃ v, scope.names.lookup (Str.ofString x) = some .local ∧ bindL (fun n => scope.names.lookup n) bs (fun _ => none) (Str.ofString x) = some v ∧ av.P Z v)
    (hnd : ∀ n, ((cellsFrom n scope.names []).map (·.1)).Nodup)
    (hco : scope.isCoroutine = false) (hgen : scope.isGenerator = false) (hk : scope.kind = .function)
    (h : ∀ (L : Addr) (A : Around) (gs : Array GenState) (os : OsState) (ob : Addr → Obj), (∀ p ∈ cellsFrom (L + 1) scope.names [], (ob p.2).data = .cell (bindC (fun n => scope.names.lookup n) bs (fun _ => none) p.1)) →
      Exs g { name := qual, scope := scope, L := L, f := f, cd := cdv, cells := cellsFrom (L + 1) scope.names [], A := A, k := k, Z₀ := Z, gens := gs, os := os } ρ₀ Z ((cellsFrom (L + 1) scope.names []).map (fun p => (p.2, ob p.2)) ++ O) body (fun fl _ Z' O' => P Z' O' (retOf fl))) :
    ConC g (k + 1) Z O (.call (.ref f) ⟨args, []⟩) P := by
  subst hK
  intro A s R hr ok hq
  refine codeAny_call_cells (fd := fnX name qual params body scope [] dV kV doc pm an cdv ct) hr.depth (ok.K_in _ _ ho) rfl ok.top.nolimit (codeRec_of ok.K_in hcd) rfl hbind rfl (hkind _) (fun s₁ X => ?_) hco hgen hk
  obtain ⟨h₁, tk, rfl, _⟩ := X.done
  have hL : ∀ a, s.heap.objs.size ≤ a → s.heap.get? a = none := fun a ha => by
    cases hz : s.heap.get? a with
    | none => rfl
    | some o' => exact absurd (Heap.lt_size hz) (Nat.not_lt.mpr ha)
  let B : Zp := fun a => if a ∈ O.map Prod.fst then none else s.heap.get? a
  have hB : ∀ a o, B a = some o → s.heap.get? a = some o := fun a o e => by
    by_cases hm : a ∈ O.map Prod.fst
    · rw [show B a = none from if_pos hm] at e; cases e
    · rw [show B a = s.heap.get? a from if_neg hm] at e; exact e
  have hBn : ∀ a, s.heap.get? a = none → B a = none := fun a e => by
    cases hb : B a with
    | none => rfl
    | some o => rw [hB a o hb] at e; cases e
  have hZn : ∀ a, s.heap.get? a = none → Z a = none := fun a e => by
    cases hb : Z a with
    | none => rfl
    | some o => rw [ok.zin a o hb] at e; cases e
  have hcells : ∀ p ∈ cellsFrom (s.heap.objs.size + 1) scope.names [], ∃ o, h₁.get? p.2 = some o ∧ o.data = .cell (bindC (fun n => scope.names.lookup n) bs (fun _ => none) p.1) := fun p hp =>
    X.cell p.1 p.2 (mem_lookup_cells (hnd _) hp)
  let ob : Addr → Obj := fun a => (h₁.get? a).getD default
  have hob : ∀ p ∈ cellsFrom (s.heap.objs.size + 1) scope.names [], h₁.get? p.2 = some (ob p.2) := fun p hp => by
    obtain ⟨o, ho, _⟩ := hcells p hp
    show h₁.get? p.2 = some ((h₁.get? p.2).getD default)
    rw [ho]; rfl
  let rr : Frm := { name := qual, scope := scope, L := s.heap.objs.size, f := f, cd := cdv, cells := cellsFrom (s.heap.objs.size + 1) scope.names [], A := A.deeper (callEnvC (fnX name qual params body scope [] dV kV doc pm an cdv ct) s.heap.objs.size f), k := k, Z₀ := Z, gens := s.gens, os := s.os }
  have habove : ∀ p ∈ cellsFrom (s.heap.objs.size + 1) scope.names [], s.heap.objs.size < p.2 := fun p hp => X.above p.1 p.2 hp
  have st : Sta g rr B { s with heap := h₁, toks := tk } ρ₀ Z ((cellsFrom (s.heap.objs.size + 1) scope.names []).map (fun p => (p.2, ob p.2)) ++ O) :=
    { loc := ⟨_, X.toInCall.ns, fun y b hy => by
        obtain ⟨v, h1, h2, h3⟩ := hρ y b hy
        exact ⟨v, .inl ⟨h1, h2⟩, h3⟩⟩
      hk := hk
      room := hr.deeper
      zin := fun a o e => X.toInCall.keep a o (ok.zin a o e)
      tz := ok.tz
      zL := hZn _ (hL _ (Nat.le_refl _))
      bin := fun a o e => X.toInCall.keep a o (hB a o e)
      bL := hBn _ (hL _ (Nat.le_refl _))
      new := fun a o e _ => by show Z a ≠ none; rw [e]; intro h; cases h
      z0 := .refl _
      own := fun p hp => by
        rcases List.mem_append.mp hp with hp | hp
        · obtain ⟨q, hq, rfl⟩ := List.mem_map.mp hp
          have hlt := habove q hq
          exact ⟨hob q hq, hZn _ (hL _ (Nat.le_of_lt hlt)), hBn _ (hL _ (Nat.le_of_lt hlt)), Nat.ne_of_gt hlt⟩
        · exact ⟨X.toInCall.keep _ _ (ok.own p hp).1, (ok.own p hp).2, if_pos (List.mem_map_of_mem hp), Nat.ne_of_lt (Heap.lt_size (ok.own p hp).1)⟩
      nod := by
        rw [List.map_append, List.nodup_append]
        refine ⟨?_, ok.nod, fun a ha b hb e => ?_⟩
        · rw [List.map_map]
          exact List.pairwise_map.mpr (X.apart.imp fun h => h)
        · obtain ⟨p, hp, rfl⟩ := List.mem_map.mp ha
          obtain ⟨q, hq, rfl⟩ := List.mem_map.mp hp
          obtain ⟨p', hp', rfl⟩ := List.mem_map.mp hb
          have h1 := habove q hq
          have h2 := Heap.lt_size (ok.own p' hp').1
          have e' : q.2 = p'.1 := e
          rw [← e'] at h2
          exact absurd h1 (Nat.not_lt.mpr (Nat.le_of_lt h2))
      gens := rfl
      os := rfl }
  have hnone : ∀ a, B a = none → s.heap.get? a = none ∨ ∃ p ∈ O, p.1 = a := fun a e => by
    by_cases hm : a ∈ O.map Prod.fst
    · obtain ⟨p, hp, e⟩ := List.mem_map.mp hm; exact .inr ⟨p, hp, e⟩
    · rw [show B a = s.heap.get? a from if_neg hm] at e; exact .inl e
  refine wpAny_mono (h s.heap.objs.size rr.A s.gens s.os ob (fun p hp => by
    obtain ⟨o, h1, h2⟩ := hcells p hp
    rw [hob p hp] at h1
    injection h1 with h1
    rw [h1]; exact h2) B Z _ (fun fl s' => R (.ok (.ret (retOf fl))) s') (.refl _) st fun fl ρ' s' Z' O' hz' st' p => hq _ s' Z' O' ?_ p) (fun fl s' x => by cases fl <;> exact x) fun _ _ x => x.elim
  exact {
    le := hz'
    zin := st'.zin
    keep := fun a o e hp => st'.bin a o (by
      show B a = some o
      rw [show B a = s.heap.get? a from if_neg fun hm => by obtain ⟨p, hp', e'⟩ := List.mem_map.mp hm; exact hp p hp' e']; exact e)
    new := fun a o e e0 => hnone a (by
      cases hb : B a with
      | none => rfl
      | some ob => exact absurd e0 (st'.new a o e (by show B a ≠ none; rw [hb]; intro h; cases h)))
    own := fun p hp => ⟨(st'.own p hp).1, (st'.own p hp).2.1, hnone _ (st'.own p hp).2.2.1⟩
    nod := st'.nod
    gens := st'.gens
    os := st'.os }
end
end Mine
end
section
open PySem PySem.W PyProof.Rows PySem.Calls
set_option Elab.async false
set_option maxRecDepth 100000
set_option linter.unusedVariables false
set_option maxHeartbeats 1000000
namespace Mine
/-- an iterator that gives itself back -/
def ItersS (g : Gd) (n : Nat) (item : Nat → AV) (O : Own) : Zp → Own → Value → Prop := fun Z' O' w => ∃ it o oi, w = .ref it ∧ O' = (it, o) :: O ∧ oi 0 o ∧ Iter g Z' it n item oi ∧
  ∀ Z₁, Z'.Le Z₁ → ∀ i o, oi i o → ∀ k, Con g k Z₁ [(it, o)] (pyIter (.ref it)) (fun Z'' O'' v => Z'' = Z₁ ∧ O'' = [(it, o)] ∧ v = .ref it)
section
variable {g : Gd} {k : Nat} {Z : Zp} {O : Own} {a : Addr}
theorem iterRangeS {b c x : Int} {t u v : Tok} (h : Z a = some (rangeO x b c t u v)) (hs : Builtin.Range.small x b c = true) : Con g k Z O (pyIter (.ref a)) (ItersS g (Builtin.Range.rangeSize x b c).toNat (fun i => aInt (x + i * c)) O) := by
  intro A s Q hr ok hq
  refine wpAny_pyIter_range (ok.zin _ _ h) hs (hq _ _ Z _ (Step.pushO ok { cls := .type "range_iterator", data := .fields #[rawInt x, rawInt (Builtin.Range.rangeSize x b c), rawInt c] } s.toks) ?_)
  refine ⟨_, _, fun i o => o = { cls := .type "range_iterator", data := .fields #[rawInt (x + i * c), rawInt (Builtin.Range.rangeSize x b c - i), rawInt c] }, rfl, rfl, by simp, ⟨?_, ?_⟩, ?_⟩
  · rintro Z₁ hz i o hi e k A s Q hr ok hq
    subst e
    refine wpAny_pyNext_range_item (x := x + i * c) (left := Builtin.Range.rangeSize x b c - i) (step := c) (ok.own _ (.head _)).1 (by omega) fun h' hit hs => ?_
    refine hq _ _ Z₁ _ (Step.write ok (s.toks + 1) hs hit) ⟨rfl, _, _, rfl, ⟨_, rfl⟩, rfl, ?_⟩
    have e1 : x + (i : Int) * c + c = x + ((i + 1 : Nat) : Int) * c := by rw [Int.natCast_add, Int.add_mul]; simp; omega
    have e2 : Builtin.Range.rangeSize x b c - (i : Int) - 1 = Builtin.Range.rangeSize x b c - ((i + 1 : Nat) : Int) := by omega
    rw [e1, e2]
  · rintro Z₁ hz o e k A s Q hr ok hq
    subst e
    refine wpAny_pyNext_range_end hr.1 (x := x + (Builtin.Range.rangeSize x b c).toNat * c) (left := Builtin.Range.rangeSize x b c - (Builtin.Range.rangeSize x b c).toNat) (step := c) (ok.own _ (.head _)).1 (by omega) fun h' hs => ?_
    exact hq _ _ Z₁ _ (Step.gone ok s.toks hs) ⟨rfl, rfl, rfl⟩
  · rintro Z₁ hz i o e k A s Q hr ok hq
    subst e
    exact wpAny_pyIter_rangeiter (ok.own _ (.head _)).1 (hq _ s Z₁ _ (Step.refl ok (t := s.toks)) ⟨rfl, rfl, rfl⟩)
end

/-- a comprehension's own frame -/
abbrev cFrm (r : Frm) (scope : Scope) (cl : List (Str × Addr)) (C : Addr) (Z : Zp) : Frm :=
  { name := r.name, scope := relabel scope r.env, L := C, f := r.f, cd := r.cd, cells := cl, A := r.A, k := r.k, Z₀ := Z, gens := r.gens, os := r.os, fo := none, F := r.F }
/-- n values, each told -/
def aComp (n : Nat) (out : Nat → AV) : AV := ⟨fun Z v => ∃ a vs m, v = .ref a ∧ Z a = some (listO vs m) ∧ vs.length = n ∧ ∀ j x, vs[j]? = some x → (out j).P Z x,
  fun hz ⟨a, vs, m, e1, e2, e3, e4⟩ => ⟨a, vs, m, e1, hz _ _ e2, e3, fun j x h => (out j).mono hz (e4 j x h)⟩⟩

section
variable {g : Gd} {r : Frm} {ρ : Loc} {Z : Zp} {O : Own}
theorem Sta.other {B : Zp} {s : Shared} {C : Addr} {h' : Heap} (x : Sta g r B s ρ Z O) (hC : C ≠ r.L) (hz : Z C = none) (hb : B C = none) (ho : ∀ p ∈ O, p.1 ≠ C) (hs : Heap.SameBut C s.heap h') : Sta g r B { s with heap := h' } ρ Z O :=
  { x with
    loc := by
      obtain ⟨m, hn, hl⟩ := x.loc
      exact ⟨m, hn.sameBut hs (Ne.symm hC), hl⟩
    zin := fun a o e => (hs.2 a (by rintro rfl; rw [hz] at e; cases e)).trans (x.zin a o e)
    bin := fun a o e => (hs.2 a (by rintro rfl; rw [hb] at e; cases e)).trans (x.bin a o e)
    own := fun p hp => ⟨(hs.2 p.1 (ho p hp)).trans (x.own p hp).1, (x.own p hp).2⟩ }

theorem Sta.addB {B : Zp} {s : Shared} {C : Addr} {oC : Obj} (x : Sta g r B s ρ Z O) (hg : s.heap.get? C = some oC) (hC : C ≠ r.L) (hz : Z C = none) (ho : ∀ p ∈ O, p.1 ≠ C) : Sta g r (B.set C oC) s ρ Z O :=
  { x with
    bin := fun a o e => by
      by_cases h : a = C
      · subst h; rw [Zp.set_self] at e; cases e; exact hg
      · rw [Zp.set_ne _ _ h] at e; exact x.bin a o e
    bL := by rw [Zp.set_ne _ _ (Ne.symm hC)]; exact x.bL
    new := fun a o e hb => by
      by_cases h : a = C
      · subst h; rw [hz] at e; cases e
      · rw [Zp.set_ne _ _ h] at hb; exact x.new a o e hb
    own := fun p hp => ⟨(x.own p hp).1, (x.own p hp).2.1, by rw [Zp.set_ne _ _ (ho p hp)]; exact (x.own p hp).2.2.1, (x.own p hp).2.2.2⟩ }
theorem Sta.subB {B : Zp} {s : Shared} {C : Addr} {oC : Obj} (x : Sta g r (B.set C oC) s ρ Z O) (hb : B C = none) : Sta g r B s ρ Z O := by
  have hle : B.Le (B.set C oC) := Zp.le_set _ hb
  exact { x with
    bin := fun a o e => x.bin a o (hle a o e)
    bL := by
      cases h : B r.L with
      | none => rfl
      | some o => have := x.bL; rw [hle _ _ h] at this; cases this
    new := fun a o e hb' => by
      obtain ⟨ob, hob⟩ := Option.ne_none_iff_exists'.mp hb'
      exact x.new a o e (by rw [hle _ _ hob]; intro h; cases h)
    own := fun p hp => by
      refine ⟨(x.own p hp).1, (x.own p hp).2.1, ?_, (x.own p hp).2.2.2⟩
      cases h : B p.1 with
      | none => rfl
      | some o => have := (x.own p hp).2.2.1; rw [hle _ _ h] at this; cases this }

theorem comp_core {B : Zp} {s : Shared} {x : String} {px pos : Pos} {elt iter : Expr} {scope : Scope} {cl : List (Str × Addr)} {it : Addr} {o : Obj} {oi : Nat → Obj → Prop} (n : Nat) (item out : Nat → AV) (ρ' : Loc)
    (st : Sta g r B s ρ Z ((it, o) :: O)) (ho : oi 0 o) (hI : Iter g Z it n item oi)
    (hself : ∀ Z₁, Z.Le Z₁ → ∀ i o, oi i o → ∀ k, Con g k Z₁ [(it, o)] (pyIter (.ref it)) (fun Z'' O'' v => Z'' = Z₁ ∧ O'' = [(it, o)] ∧ v = .ref it))
    (hn : n ≤ sizeLine)
    (hρ : ∀ p ∈ ρ', p ∈ ρ ∧ r.env.kindOf (Str.ofString p.1) = some .cell ∧ (relabel scope r.env).names.lookup (Str.ofString p.1) = some .cell ∧ cl.lookup (Str.ofString p.1) = r.cells.lookup (Str.ofString p.1))
    (helt : ∀ i C, i < n → Ev g (cFrm r scope cl C Z) ((x, item i) :: ρ') Z [] elt (out i))
    (hcell : ∀ y ∈ scope.names, y.2 ≠ .cell) (hkind : scope.kind = .function) (hx : scope.names.lookup (Str.ofString x) = some .local)
    {RR : Value → Addr → Result → Shared → Prop}
    (hend : ∀ D C s' Z' vs m, Z.Le Z' → vs.length = n → (∀ j y, vs[j]? = some y → (out j).P Z' y) → C ≠ r.L → Z' C = none → B C = none → (∀ p ∈ (D, listO vs m) :: O, p.1 ≠ C) → (∃ mC, s'.heap.Ns C mC) → Sta g r B s' ρ Z' ((D, listO vs m) :: O) → RR (.ref D) C (.ok .next) s') :
    wpAny g.M r.A (newList []) (fun acc s₃ => wpAny g.M r.A (newFunctionEnv scope r.env.globals cl [] r.env.qual none .none (some r.env)) (fun cenv s₄ =>
      codeAny g.M r.A (.compStart (.ListComp elt [⟨.Name (Str.ofString x) px, iter, [], 0⟩] scope pos) 0 (.ref it) acc { cenv with scope := relabel scope r.env }) (RR acc cenv.locals) s₄) No s₃) No s := by
  refine conNewList (vs := []) (Nat.zero_le _) r.A s _ st.room st.ok fun acc s3 Z3 O3 stp pk => ?_
  obtain ⟨D, e1, e2, e3⟩ := pk
  subst e1 e2 e3
  have st3 := st.step stp
  clear stp st
  refine wpAny_newFunctionEnv hcell (by intro y hy; cases hy) (fun h₁ hns hsb => ?_) hkind
  generalize hC : s3.heap.objs.size = C at hns hsb
  have hCnone : s3.heap.get? C = none := by
    cases hz : s3.heap.get? C with
    | none => rfl
    | some o' => exact absurd (Heap.lt_size hz) (hC ▸ Nat.lt_irrefl _)
  have hold : ∀ b ob, s3.heap.get? b = some ob → h₁.get? b = some ob := fun b ob e => (hsb.2 b (by rintro rfl; rw [hCnone] at e; cases e)).trans (Heap.get?_push_of_some _ e)
  have hnoC : ∀ b ob, s3.heap.get? b = some ob → b ≠ C := fun b ob e h => by rw [h, hCnone] at e; cases e
  have hLC : C ≠ r.L := by
    obtain ⟨m, ⟨oo, es, ep, hoo, rest⟩, hl⟩ := st3.loc
    exact (hnoC _ _ hoo).symm
  have hZC : Z3 C = none := by
    cases hz : Z3 C with
    | none => rfl
    | some o' => rw [st3.zin _ _ hz] at hCnone; cases hCnone
  have hBC : B C = none := by
    cases hz : B C with
    | none => rfl
    | some o' => rw [st3.bin _ _ hz] at hCnone; cases hCnone
  let O2 : Own := (D, listO [] 0) :: (it, o) :: O
  let B2 : Zp := fun a => if a ∈ O2.map Prod.fst then none else s3.heap.get? a
  have hB2 : ∀ a ob, B2 a = some ob → s3.heap.get? a = some ob := fun a ob e => by
    by_cases hm : a ∈ O2.map Prod.fst
    · rw [show B2 a = none from if_pos hm] at e; cases e
    · rw [show B2 a = s3.heap.get? a from if_neg hm] at e; exact e
  have hBB : ∀ a ob, B a = some ob → B2 a = some ob := fun a ob e => by
    rw [show B2 a = s3.heap.get? a from if_neg fun hm => by
      obtain ⟨p, hp, e'⟩ := List.mem_map.mp hm
      have := (st3.own p hp).2.2.1
      rw [e', e] at this; cases this]
    exact st3.bin a ob e
  have hB2L : ∃ ob, B2 r.L = some ob ∧ s3.heap.get? r.L = some ob := by
    obtain ⟨m, ⟨oo, es, ep, hoo, rest⟩, hl⟩ := st3.loc
    refine ⟨oo, ?_, hoo⟩
    rw [show B2 r.L = s3.heap.get? r.L from if_neg fun hm => by
      obtain ⟨p, hp, e'⟩ := List.mem_map.mp hm
      exact (st3.own p hp).2.2.2 e']
    exact hoo
  let rc : Frm := cFrm r scope cl C Z3
  have st4 : Sta g rc B2 { s3 with heap := h₁, toks := s3.toks + ([] : List (Str × Value)).length } ρ' Z3 O2 :=
    { loc := ⟨_, hns, fun y av hy => by
        obtain ⟨m, hn, hl⟩ := st3.loc
        obtain ⟨h1, h2, h3, h4⟩ := hρ (y, av) hy
        obtain ⟨v, hv, hp⟩ := hl y av h1
        refine ⟨v, ?_, hp⟩
        rcases hv with ⟨h, _⟩ | ⟨_, c, oc, hc, hzc, hdc⟩
        · rw [h2] at h; cases h
        · exact .inr ⟨.inl h3, c, oc, h4.trans hc, hzc, hdc⟩⟩
      hk := hkind
      room := st3.room
      zin := fun a ob e => hold a ob (st3.zin a ob e)
      tz := st3.tz
      zL := hZC
      bin := fun a ob e => hold a ob (hB2 a ob e)
      bL := by
        cases hz : B2 C with
        | none => rfl
        | some o' => rw [hB2 _ _ hz] at hCnone; cases hCnone
      new := fun a ob e _ => by show Z3 a ≠ none; rw [e]; intro h; cases h
      z0 := .refl _
      own := fun p hp => ⟨hold _ _ (st3.own p hp).1, (st3.own p hp).2.1, if_pos (List.mem_map_of_mem hp), hnoC _ _ (st3.own p hp).1⟩
      nod := st3.nod
      gens := st3.gens
      os := st3.os }
  have hback : ∀ s' ρc Z' O', Z3.Le Z' → Sta g rc B2 s' ρc Z' O' → Sta g r B s' ρ Z' O' := fun s' ρc Z' O' hz x =>
    { loc := by
        obtain ⟨m, ⟨oo, es, ep, hoo, rest⟩, hl⟩ := st3.loc
        obtain ⟨ob, hb, hg⟩ := hB2L
        rw [hoo] at hg
        cases hg
        exact ⟨m, ⟨oo, es, ep, x.bin _ _ hb, rest⟩, fun y av hy => by
          obtain ⟨v, hv, hp⟩ := hl y av hy
          exact ⟨v, hv.mono hz, av.mono hz hp⟩⟩
      hk := st3.hk
      room := st3.room
      zin := x.zin
      tz := x.tz
      zL := by
        obtain ⟨ob, hb, hg⟩ := hB2L
        cases hq : Z' r.L with
        | none => rfl
        | some o' =>
          have h1 : Z3 r.L ≠ none := x.new _ _ hq (by rw [hb]; intro h; cases h)
          exact absurd st3.zL h1
      bin := fun a ob e => x.bin a ob (hBB a ob e)
      bL := st3.bL
      new := fun a ob e hb => by
        obtain ⟨ob', hb'⟩ := Option.ne_none_iff_exists'.mp hb
        have h1 : Z3 a ≠ none := x.new a ob e (by rw [hBB a ob' hb']; intro h; cases h)
        obtain ⟨o3, h3⟩ := Option.ne_none_iff_exists'.mp h1
        exact st3.new a o3 h3 hb
      z0 := st3.z0.trans hz
      own := fun p hp => by
        obtain ⟨h1, h2, h3, h4⟩ := x.own p hp
        refine ⟨h1, h2, ?_, ?_⟩
        · cases hb : B p.1 with
          | none => rfl
          | some ob => rw [hBB _ _ hb] at h3; cases h3
        · intro e
          obtain ⟨ob, hb, hg⟩ := hB2L
          rw [← e, h3] at hb; cases hb
      nod := x.nod
      gens := x.gens
      os := x.os }
  have hxx : (relabel scope r.env).names.lookup (Str.ofString x) = some .local := lookup_relabel_local hx
  have hne : ∀ p ∈ ρ', p.1 ≠ x := fun p hp e => by
    have := (hρ p hp).2.2.1
    rw [e, hxx] at this; cases this
  have loop : ∀ s4, Sta g rc B2 s4 ρ' Z3 O2 → codeAny g.M r.A (.compLoop (.ListComp elt [⟨.Name (Str.ofString x) px, iter, [], 0⟩] scope pos) 0 (.ref it) (.ref D) rc.env) (RR (.ref D) C) s4 := by
    intro s4 st4
    refine codeAny_compLoop_list (fun m s' => ∃ i vs Z' o' m', m = n - i ∧ i ≤ n ∧ Z3.Le Z' ∧ oi i o' ∧ vs.length = i ∧ (∀ j y, vs[j]? = some y → (out j).P Z' y) ∧ Sta g rc B2 s' ρ' Z' ((D, listO vs m') :: (it, o') :: O)) ?_ n
      ⟨0, [], Z3, o, 0, rfl, Nat.zero_le _, .refl _, ho, rfl, by simp, st4⟩ (by intro _; rfl)
    rintro m s' ⟨i, vs, Z', o', m', rfl, hin, hz', hoi, hlen, hvs, st'⟩
    have stp := st'.step (Step.perm st'.ok (List.Perm.swap (it, o') (D, listO vs m') O))
    rcases Nat.lt_or_ge i n with hlt | hge
    · refine wpAny_mono (Con.beside (R := (D, listO vs m') :: O) (hI.next Z' hz' i o' hlt hoi r.k) r.A s' _ stp.room stp.ok fun v s5 Z5 O5 stp5 p5 => ?_) (fun _ _ h => h) fun _ _ h => h.elim
      obtain ⟨O₁, e1, ez, xx, o'', e2, hp, e3, hoi'⟩ := p5
      subst e1 e2 e3 ez
      have st5 := stp.step stp5
      refine wpAny_mono (wpAny_assign_Name (sta_store st5 hxx hp fun s6 st6 => ?_)) (fun _ _ h => h) fun _ _ h => h.elim
      have st6' : Sta g rc B2 s6 ((x, item i) :: ρ') Z5 ([] ++ ((it, o'') :: (D, listO vs m') :: O)) := st6.less fun p hp => by
        rcases List.mem_cons.mp hp with rfl | hp
        · exact .head _
        · exact .tail _ (List.mem_filter.mpr ⟨hp, by simpa using hne p hp⟩)
      refine wpAny_mono (Op.beside (R := (it, o'') :: (D, listO vs m') :: O) (helt i C hlt) B2 Z5 s6 _ hz' st6' fun y s7 Z7 O7 hz7 st7 p7 => ?_) (fun _ _ h => h) fun _ _ h => h.elim
      obtain ⟨O₂, e4, e5, hy⟩ := p7
      subst e4 e5
      have st8 := st7.step (Step.perm st7.ok (List.Perm.swap (D, listO vs m') (it, o'') O))
      refine wpAny_mono (conAppend (g := g) (x := y) (hlen ▸ Nat.le_trans (Nat.le_of_lt hlt) hn) r.A s7 _ st8.room st8.ok fun v9 s9 Z9 O9 stp9 p9 => ?_) (fun _ _ h => h) fun _ _ h => h.elim
      obtain ⟨_, e6, e7⟩ := p9
      subst e6 e7
      have st9 := st8.step stp9
      refine ⟨n - (i + 1), Nat.sub_lt_sub_left hlt (Nat.lt_succ_self i), i + 1, vs ++ [y], Z9, o'', m' + 1, rfl, hlt, hz'.trans hz7, hoi', by simp [hlen], fun j z hj => ?_, st9.less fun p hp => .tail _ hp⟩
      rcases Nat.lt_trichotomy j vs.length with h | h | h
      · exact (out j).mono hz7 (hvs j z (by rwa [List.getElem?_append_left h] at hj))
      · subst h; simp at hj; subst hj; rw [hlen]; exact hy
      · rw [List.getElem?_eq_none (by rw [List.length_append, List.length_singleton]; exact h)] at hj; cases hj
    · have hi : i = n := Nat.le_antisymm hin hge
      refine wpAny_mono (Con.beside (R := (D, listO vs m') :: O) (hI.done Z' hz' o' (hi ▸ hoi) r.k) r.A s' _ stp.room stp.ok fun v s5 Z5 O5 stp5 p5 => ?_) (fun _ _ h => h) fun _ _ h => h.elim
      obtain ⟨O₁, e1, ez, e2, e3⟩ := p5
      subst e1 e2 e3 ez
      have st5 := stp.step stp5
      have hns5 : ∃ mC, s5.heap.Ns C mC := let ⟨mC, h, _⟩ := st5.loc; ⟨mC, h⟩
      exact hend D C s5 Z5 vs m' hz' (hlen.trans hi) hvs hLC st5.zL hBC (fun p hp => (st5.own p hp).2.2.2) hns5 (hback s5 ρ' Z5 _ hz' st5)
  refine codeAny_compStart_list (loop _ st4) ?_
  have stp := st4.step (Step.perm st4.ok (List.Perm.swap (it, o) (D, listO [] 0) O))
  refine wpAny_mono (Con.beside (R := (D, listO [] 0) :: O) (hself Z3 (.refl _) 0 o ho r.k) r.A _ _ stp.room stp.ok fun v s5 Z5 O5 stp5 p5 => ?_) (fun _ _ h => h) fun _ _ h => h.elim
  obtain ⟨O₁, e1, ez, e2, e3⟩ := p5
  subst e1 e2 e3 ez
  have st5 := stp.step stp5
  exact loop _ (st5.step (Step.perm st5.ok (List.Perm.swap (D, listO [] 0) (it, o) O)))

/-- y = [elt for x in iter] -/
theorem exAssignComp {x y : String} {px py pos spos : Pos} {elt iter : Expr} {scope : Scope} {cl : List (Str × Addr)} {Pi : AV} {rest : List Stmt} {F : Flow → Loc → Zp → Own → Prop} (n : Nat) (item out : Nat → AV) (ρ' : Loc)
    (hi : Ev g r ρ Z O iter Pi) (hit : ∀ Z₁ v, Z.Le Z₁ → Pi.P Z₁ v → Con g r.k Z₁ O (pyIter v) (ItersS g n item O)) (hn : n ≤ sizeLine)
    (hρ : ∀ p ∈ ρ', p ∈ ρ ∧ r.env.kindOf (Str.ofString p.1) = some .cell ∧ (relabel scope r.env).names.lookup (Str.ofString p.1) = some .cell ∧ cl.lookup (Str.ofString p.1) = r.cells.lookup (Str.ofString p.1))
    (helt : ∀ i C Zs, i < n → Z.Le Zs → Ev g (cFrm r scope cl C Zs) ((x, item i) :: ρ') Zs [] elt (out i))
    (h : Exs g r (updL y (aComp n out) ρ) Z O rest F)
    (hsw : swapsWith (.ListComp elt [⟨.Name (Str.ofString x) px, iter, [], 0⟩] scope pos) (some (.Name (Str.ofString y) py)) spos.line r.env = pure true)
    (hclos : closureFor scope r.env = pure cl) (hcell : ∀ z ∈ scope.names, z.2 ≠ .cell) (hkind : scope.kind = .function)
    (hnames : ∀ z ∈ scope.names, z.2 = .local → scope.names.lookup z.1 = some .local) (hx : scope.names.lookup (Str.ofString x) = some .local)
    (hy : r.env.kindOf (Str.ofString y) = some .local) (hs : ∀ x, foldedSetIterable iter r.env x = pure x := by intro _; rfl) :
    Exs g r ρ Z O (.Assign [.Name (Str.ofString y) py] (.ListComp elt [⟨.Name (Str.ofString x) px, iter, [], 0⟩] scope pos) spos :: rest) F := by
  refine exs_cons (F₁ := fun fl ρ' Z' O' => fl = .next ∧ ρ' = updL y (aComp n out) ρ ∧ O' = O) ?_ (fun ρ' Z' O' hz ⟨_, e1, e2⟩ => by subst e1 e2; exact h.le hz) fun fl ρ' Z' O' hne _ p => absurd p.1 hne
  intro B Z₁ s Q hz st hq
  rw [exec_Assign_Name_used _ _ _ _ hsw]
  refine wpAny_bind (wpAny_standAt (wpAny_bind ?_))
  show wpAny _ r.A (do let _ ← comprehension (.ListComp elt [⟨.Name (Str.ofString x) px, iter, [], 0⟩] scope pos) scope r.env _ (newList []) false (eval iter r.env) (some (assign (.Name (Str.ofString y) py) r.env))) _ _ s
  refine wpAny_bind (wpAny_mono (wpAny_comprehension_free (use := some (assign (.Name (Str.ofString y) py) r.env)) (Q := fun _ s' => Q .next s') rfl hs hclos hkind hnames ?_) (fun _ s' hq => wpAny_pure (wpAny_pure hq)) fun _ _ e => e)
  refine hi B Z₁ s _ hz st fun xv s1 Z1 O1 hz1 st1 pk => ?_
  obtain ⟨e, p⟩ := pk
  subst e
  refine Op.of_con (ρ := ρ) (fun Z₃ hz3 => hit Z₃ xv (hz.trans (hz1.trans hz3)) (Pi.mono hz3 p)) B Z1 s1 _ (.refl _) st1 fun w s2 Z2 O2 hz2 st2 pk => ?_
  obtain ⟨it, o, oi, e1, e2, ho, hI, hself⟩ := pk
  subst e1 e2
  refine comp_core (RR := fun acc C => compPost g.M r.A No (some (assign (.Name (Str.ofString y) py) r.env)) (fun _ s' => Q .next s') acc C) n item out ρ' st2 ho hI hself hn hρ (fun i C hi => helt i C Z2 hi (hz.trans (hz1.trans hz2))) hcell hkind hx ?_
  intro D C s' Z' vs m hz' hlen hvs hC hZC hBC hOC hns st'
  obtain ⟨mC, hns⟩ := hns
  have stf := st'.step (Step.freeze st'.ok)
  have hDC : D ≠ C := hOC (D, listO vs m) (.head _)
  have hle : Z'.Le (Z'.set D (listO vs m)) := Zp.le_set _ (st'.own (D, listO vs m) (.head _)).2.1
  show wpAny g.M r.A (assign (.Name (Str.ofString y) py) r.env (.ref D)) _ _ _
  refine wpAny_assign_Name ?_
  obtain ⟨oC, es, ep, hoC, rest'⟩ := hns
  have hZC' : (Z'.set D (listO vs m)) C = none := by rw [Zp.set_ne _ _ (Ne.symm hDC)]; exact hZC
  have hOC' : ∀ p ∈ O1, p.1 ≠ C := fun p hp => hOC p (.tail _ hp)
  refine sta_store (av := aComp n out) (stf.addB hoC hC hZC' hOC') hy ⟨D, vs, m, rfl, Zp.set_self _ _ _, hlen, fun j z hj => (out j).mono hle (hvs j z hj)⟩ fun s'' st'' => ?_
  refine ⟨mC, ⟨oC, es, ep, st''.bin _ _ (Zp.set_self _ _ _), rest'⟩, fun h' hs' => ?_⟩
  exact hq .next _ _ _ O1 (hz1.trans (hz2.trans (hz'.trans hle))) ((st''.subB hBC).other hC hZC' hBC hOC' hs') ⟨rfl, rfl, rfl⟩
end
end Mine
end
section
open PySem PySem.W PyProof.Rows PySem.Calls
set_option Elab.async false
set_option maxRecDepth 100000
set_option linter.unusedVariables false
set_option maxHeartbeats 400000
namespace Mine
def cmpNat : CmpOp → Nat → Nat → Bool
  | .Eq, m, n => m == n
  | .NotEq, m, n => m != n
  | .Lt, m, n => m < n
  | .LtE, m, n => m ≤ n
  | .Gt, m, n => m > n
  | _, m, n => m ≥ n
def cmpInt : CmpOp → Int → Int → Bool
  | .Eq, _, _ => false
  | .NotEq, _, _ => true
  | .Lt, m, n => decide (m < n)
  | .LtE, m, n => decide (m ≤ n)
  | .Gt, m, n => decide (n < m)
  | _, m, n => decide (n ≤ m)
/-- two rows of ints compared, as Python does -/
def cmpL (op : CmpOp) : List Int → List Int → Bool
  | x :: xs, y :: ys => if x = y then cmpL op xs ys else cmpInt op x y
  | xs, ys => cmpNat op xs.length ys.length
def opCode : CmpOp → Nat
  | .Lt => 0 | .LtE => 1 | .Eq => 2 | .NotEq => 3 | .Gt => 4 | _ => 5
def isOrd : CmpOp → Bool
  | .Lt | .LtE | .Eq | .NotEq | .Gt | .GtE => true
  | _ => false
theorem cmpL_nil_left (op : CmpOp) (ys : List Int) : cmpL op [] ys = cmpNat op 0 ys.length := by cases ys <;> rfl
theorem cmpL_nil_right (op : CmpOp) (xs : List Int) : cmpL op xs [] = cmpNat op xs.length 0 := by cases xs <;> rfl
theorem cmpNat_shift (op : CmpOp) (i m n : Nat) (hm : i ≤ m) (hn : i ≤ n) : cmpNat op (m - i) (n - i) = cmpNat op m n := by
  obtain ⟨a, rfl⟩ := Nat.exists_eq_add_of_le hm
  obtain ⟨b, rfl⟩ := Nat.exists_eq_add_of_le hn
  rw [Nat.add_sub_cancel_left, Nat.add_sub_cancel_left]
  cases op <;> simp only [cmpNat, Nat.add_lt_add_iff_left, Nat.add_le_add_iff_left, Nat.add_right_inj, BEq.beq, bne]
open PySem.Builtin.List in
def loopTree (op : CmpOp) (l b : Addr) (i : Nat) : Sem Fin := do
  let k := ((i : Nat) : Int).toNat
  let (some x, some y) := ((← listItems (.ref l))[k]?, (← listItems (.ref b))[k]?)
    | ret (.bool (cmpNat op (← listItems (.ref l)).size (← listItems (.ref b)).size))
  if ← eqBool x y then return ← again (.builtin "list.__eq__.loop" ⟨[.ref l, .ref b, rawInt ((i : Int) + 1), rawInt (opCode op)], []⟩)
  let xs ← listItems (.ref l)
  let ys ← listItems (.ref b)
  match xs[k]?, ys[k]?, op with
  | some _, some _, .Eq => ret (.bool false)
  | some _, some _, .NotEq => ret (.bool true)
  | some x, some y, _ => ret (← richCompare op x y)
  | _, _, _ => rule "list.compare.shrunk"; ret (.bool (cmpNat op xs.size ys.size))
theorem loop_is (op : CmpOp) (hop : isOrd op = true) (l b : Addr) (i : Nat) : Builtin.«list.__eq__.loop» ⟨[.ref l, .ref b, rawInt i, rawInt (opCode op)], []⟩ = loopTree op l b i := by
  cases op <;> first | (cases hop; done) | rfl
theorem cmp_loop (op : CmpOp) (hop : isOrd op = true) (l b : Addr) (vs ws : List Value) (ns ms : List Int) (n n2 : Nat) (hv : IntsAre vs ns) (hw : IntsAre ws ms) (k : Nat) :
    ∀ i : Nat, vs.length - i = k → i ≤ vs.length → i ≤ ws.length → Meets (Builtin.«list.__eq__.loop» ⟨[.ref l, .ref b, rawInt i, rawInt (opCode op)], []⟩)
      (fun _ R s => s.heap.get? l = some (listO vs n) ∧ s.heap.get? b = some (listO ws n2) ∧ R (.ok (.ret (.bool (cmpL op (ns.drop i) (ms.drop i))))) s) := by
  have hvl := hv.length
  have hwl := hw.length
  induction k with
  | zero =>
    intro i hk h1 h2 prog w A R s h
    obtain ⟨hl, hb, h⟩ := h
    have hi1 : vs.toArray[((i : Nat) : Int).toNat]? = none := by simp; omega
    have hd : ns.drop i = [] := by simp; omega
    rw [hd, cmpL_nil_left, List.length_drop] at h
    have hlen : vs.length = i := by omega
    have hsz : cmpNat op 0 (ms.length - i) = cmpNat op vs.length ws.length := by
      rw [hwl, hlen, ← cmpNat_shift op i i ms.length (Nat.le_refl _) (by omega), Nat.sub_self]
    rw [hsz] at h
    rw [loop_is op hop]
    unfold loopTree
    refine wpAny_bind (wpAny_listItems hl rfl (wpAny_bind (wpAny_listItems hb rfl ?_)))
    rw [hi1]
    refine wpAny_bind (wpAny_listItems hl rfl (wpAny_bind (wpAny_listItems hb rfl (wpAny_pure ?_))))
    simp only [List.size_toArray]
    exact h
  | succ k ih =>
    intro i hk h1 h2 prog w A R s h
    obtain ⟨hl, hb, h⟩ := h
    have hlt : i < vs.length := by omega
    obtain ⟨t, hx⟩ := hv.get i ns[i] (by simp)
    have hi1 : vs.toArray[((i : Nat) : Int).toNat]? = some (.int ns[i] t) := by simpa using hx
    have hdn : ns.drop i = ns[i] :: ns.drop (i + 1) := List.drop_eq_getElem_cons (by omega)
    rw [loop_is op hop]
    unfold loopTree
    refine wpAny_bind (wpAny_listItems hl rfl (wpAny_bind (wpAny_listItems hb rfl ?_)))
    rw [hi1]
    rcases Nat.lt_or_ge i ws.length with hlt2 | hge
    · obtain ⟨u, hy⟩ := hw.get i ms[i] (by simp)
      have hi2 : ws.toArray[((i : Nat) : Int).toNat]? = some (.int ms[i] u) := by simpa using hy
      have hdm : ms.drop i = ms[i] :: ms.drop (i + 1) := List.drop_eq_getElem_cons (by omega)
      have hc : ((i : Int) + 1) = ((i + 1 : Nat) : Int) := by push_cast; rfl
      rw [hdn, hdm] at h
      rw [hi2]
      refine wpAny_bind (MeetsSeq.EqGives.int _ _ _ _ prog w _ _ _ _ ?_)
      by_cases he : ns[i] = ms[i]
      · rw [show cmpL op (ns[i] :: ns.drop (i + 1)) (ms[i] :: ms.drop (i + 1)) = cmpL op (ns.drop (i + 1)) (ms.drop (i + 1)) from by simp [cmpL, he]] at h
        rw [show (ns[i] == ms[i]) = true from by simp [he]]
        refine wpAny_pure ?_
        rw [hc]
        exact ⟨plainId_quiet MeetsSeq3.plain_eq_loop _, codeAny_builtin MeetsSeq3.entry_eq_loop (by
          rw [Around.under_plainId MeetsSeq3.plain_eq_loop _]
          exact ih (i + 1) (by omega) (by omega) (by omega) prog w A R _ ⟨hl, hb, h⟩)⟩
      · rw [show cmpL op (ns[i] :: ns.drop (i + 1)) (ms[i] :: ms.drop (i + 1)) = cmpInt op ns[i] ms[i] from by simp [cmpL, he]] at h
        rw [show (ns[i] == ms[i]) = false from by simp [he]]
        refine wpAny_bind (wpAny_listItems hl rfl (wpAny_bind (wpAny_listItems hb rfl ?_)))
        rw [hi1, hi2]
        cases op with
        | Eq => exact wpAny_pure h
        | NotEq => exact wpAny_pure h
        | Lt => exact wpAny_bind (lt_int (wpAny_pure h))
        | LtE => exact wpAny_bind (le_int (wpAny_pure h))
        | Gt => exact wpAny_bind (gt_int (wpAny_pure h))
        | GtE => exact wpAny_bind (ge_int (wpAny_pure h))
        | _ => cases hop
    · have hi2 : ws.toArray[((i : Nat) : Int).toNat]? = none := by simp; omega
      have hdm : ms.drop i = [] := by simp; omega
      rw [hdm, cmpL_nil_right, List.length_drop] at h
      have hlen : ws.length = i := by omega
      have hsz : cmpNat op (ns.length - i) 0 = cmpNat op vs.length ws.length := by
        rw [hvl, hlen, ← cmpNat_shift op i ns.length i (by omega) (Nat.le_refl _), Nat.sub_self]
      rw [hsz] at h
      rw [hi2]
      refine wpAny_bind (wpAny_listItems hl rfl (wpAny_bind (wpAny_listItems hb rfl (wpAny_pure ?_))))
      simp only [List.size_toArray]
      exact h
end Mine
end
section
open PySem PySem.W PyProof.Rows PySem.Calls
set_option Elab.async false
set_option maxRecDepth 100000
set_option linter.unusedVariables false
set_option maxHeartbeats 1000000
namespace Mine
open PySem.Builtin.List in
def cmpTree (op : CmpOp) (a b : Value) : Sem Fin := do
  if !(← isInstance b (.type "list")) then return ← ret .notImplemented
  if op == .Eq || op == .NotEq then
    if (← listItems a).size != (← listItems b).size then rule "list.compare.lengths-differ"; return ← ret (.bool (op == .NotEq))
  again (.builtin "list.__eq__.loop" ⟨[a, b, rawInt 0, rawInt (opCode op)], []⟩)
def listB : CmpOp → Builtin
  | .Eq => Builtin.«list.__eq__»
  | .NotEq => Builtin.«list.__ne__»
  | .Lt => Builtin.«list.__lt__»
  | .LtE => Builtin.«list.__le__»
  | .Gt => Builtin.«list.__gt__»
  | _ => Builtin.«list.__ge__»
def listI : CmpOp → String
  | .Eq => "list.__eq__"
  | .NotEq => "list.__ne__"
  | .Lt => "list.__lt__"
  | .LtE => "list.__le__"
  | .Gt => "list.__gt__"
  | _ => "list.__ge__"
theorem cmp_is (op : CmpOp) (hop : isOrd op = true) (a b : Value) : listB op ⟨[a, b], []⟩ = cmpTree op a b := by
  cases op <;> first | (cases hop; done) | rfl
theorem listI_slot (op : CmpOp) (hop : isOrd op = true) : Slot "list" (cmpInfo op).2.1 (listI op) := by
  cases op with
  | Eq => exact F.slot_list_eq
  | NotEq => exact F.slot_list_ne
  | Lt => exact F.slot_list_lt
  | LtE => exact F.slot_list_le
  | Gt => exact F.slot_list_gt
  | GtE => exact F.slot_list_ge
  | _ => cases hop
theorem listI_entry (op : CmpOp) (hop : isOrd op = true) : entryFor table (listI op) = some (listB op) := by
  cases op with
  | Eq => exact F.entry_list_eq
  | NotEq => exact F.entry_list_ne
  | Lt => exact F.entry_list_lt
  | LtE => exact F.entry_list_le
  | Gt => exact F.entry_list_gt
  | GtE => exact F.entry_list_ge
  | _ => cases hop
theorem listI_args (op : CmpOp) (hop : isOrd op = true) (a b : Value) : argsOk (listI op) ⟨[a, b], []⟩ := by
  cases op with
  | Eq => exact F.args_list_eq_2 a b
  | NotEq => exact F.args_list_ne_2 a b
  | Lt => exact F.args_list_lt_2 a b
  | LtE => exact F.args_list_le_2 a b
  | Gt => exact F.args_list_gt_2 a b
  | GtE => exact F.args_list_ge_2 a b
  | _ => cases hop
/-- what the loop finds -/
structure LoopIs (op : CmpOp) (vs ws : List Value) (c : Bool) : Prop where
  ord : isOrd op = true
  loop : ∀ l b n n2, Meets (Builtin.«list.__eq__.loop» ⟨[.ref l, .ref b, rawInt 0, rawInt (opCode op)], []⟩) (fun _ R s => s.heap.get? l = some (listO vs n) ∧ s.heap.get? b = some (listO ws n2) ∧ R (.ok (.ret (.bool c))) s)
  size : (op == .Eq || op == .NotEq) = true → vs.length ≠ ws.length → c = (op == .NotEq)
theorem list_cmp {op : CmpOp} {vs ws : List Value} {c : Bool} (x : LoopIs op vs ws c) (l b : Addr) (n n2 : Nat) :
    Meets (listB op ⟨[.ref l, .ref b], []⟩) (fun _ R s => s.heap.get? l = some (listO vs n) ∧ s.heap.get? b = some (listO ws n2) ∧ R (.ok (.ret (.bool c))) s) := by
  intro prog w A R s ⟨hl, hb, h⟩
  rw [cmp_is op x.ord]
  have f3 := AutoSeq1.sub_list_list
  unfold cmpTree isInstance
  have tl : wpAny (model prog w) A.in1 (again (.builtin "list.__eq__.loop" ⟨[.ref l, .ref b, rawInt 0, rawInt (opCode op)], []⟩)) (fun fin s' => match fin with | .done f => R (.ok f) s' | .again c' => c'.quiet = true ∧ codeAny (model prog w) A c' R s') (fun e s' => R (.error e) s') s := by
    exact wpAny_pure ⟨plainId_quiet MeetsSeq3.plain_eq_loop _, codeAny_builtin MeetsSeq3.entry_eq_loop (by
      rw [Around.under_plainId MeetsSeq3.plain_eq_loop _]
      exact x.loop l b n n2 prog w A R _ ⟨hl, hb, h⟩)⟩
  refine wpAny_bind (wpAny_bind (((Looks.ld hb).andThen .now : Looks _ _ (typeOf (.ref b)) _).here ?_))
  rw [f3]
  refine wpAny_pure ?_
  rw [if_neg (by simp)]
  by_cases ho : (op == .Eq || op == .NotEq) = true
  · rw [if_pos ho]
    refine wpAny_bind (wpAny_listItems hl rfl (wpAny_bind (wpAny_listItems hb rfl ?_)))
    by_cases hne : vs.length = ws.length
    · rw [if_neg (by simp [hne])]
      exact tl
    · rw [if_pos (by simpa using hne)]
      rw [x.size ho hne] at h
      exact wpAny_bind (wpAny_rule (wpAny_pure h))
  · rw [if_neg ho]
    exact tl
theorem LoopIs.ints {op : CmpOp} {vs ws : List Value} {ns ms : List Int} (hop : isOrd op = true) (hv : IntsAre vs ns) (hw : IntsAre ws ms) : LoopIs op vs ws (cmpL op ns ms) where
  ord := hop
  loop := fun l b n n2 => by
    have := cmp_loop op hop l b vs ws ns ms n n2 hv hw vs.length 0 (by simp) (by simp) (by simp)
    simpa using this
  size := fun ho hne => by
    have key : ∀ (a b : List Int), a.length ≠ b.length → cmpL op a b = (op == .NotEq) := by
      intro a
      induction a with
      | nil =>
        intro b hb
        have h0 : b.length ≠ 0 := fun e => hb (by simpa using e.symm)
        rw [cmpL_nil_left]
        cases op with
        | Eq => show (0 == b.length) = false; rw [beq_eq_false_iff_ne]; omega
        | NotEq => show (0 != b.length) = true; rw [bne_iff_ne]; omega
        | _ => exact absurd ho (by decide)
      | cons x a ih =>
        intro b hb
        cases b with
        | nil => rw [cmpL_nil_right]; cases op <;> simp_all [cmpNat]
        | cons y b =>
          unfold cmpL
          split
          · exact ih b (by simpa using hb)
          · cases op <;> simp_all [cmpInt]
    exact key ns ms (by rw [← hv.length, ← hw.length]; exact hne)
section
variable {g : Gd} {k : Nat} {Z : Zp} {O : Own} {a b : Addr} {vs ws : List Value} {n m : Nat}
theorem conCmpL {op : CmpOp} {c : Bool} (x : LoopIs op vs ws c) (ha : At Z O a (listO vs n)) (hb : At Z O b (listO ws m)) : Con g k Z O (richCompare op (.ref a) (.ref b)) (fun Z' O' v => Z' = Z ∧ O' = O ∧ v = .bool c) := by
  intro A s Q hr ok hq
  have h1 := ha.get ok
  have h2 := hb.get ok
  refine richCompare_meets_room ⟨_, h1, rfl⟩ ⟨_, h2, rfl⟩ (listI_slot op x.ord) (listI_entry op x.ord) (listI_args op x.ord _ _) (list_cmp x a b n m) ⟨h1, h2, ?_⟩ hr.units
  show Value.bool c ≠ .notImplemented ∧ Q _ s
  exact ⟨(nomatch ·), hq _ s Z O (Step.refl ok (t := s.toks)) ⟨rfl, rfl, rfl⟩⟩
end
end Mine
end
section
open PySem PySem.W PyProof.Rows PySem.Calls
set_option Elab.async false
set_option maxRecDepth 100000
set_option linter.unusedVariables false
set_option maxHeartbeats 1000000
namespace Mine
section
variable {g : Gd} {K : Frag} {C a b d f : Addr} {k : Nat} {Z : Zp} {O : Own} {sl : List (Option Value)} {od : Obj} {vs : List Value} {n : Nat} {c : Bool}
end
end Mine
end
section
open PySem PySem.W PyProof.Rows PySem.Calls
set_option Elab.async false
set_option maxRecDepth 100000
set_option linter.unusedVariables false
set_option maxHeartbeats 1000000
namespace Mine
section
variable {prog : Program} {w : World} {A : Around} {E : Value → Shared → Prop} {h : Heap} {g : Array GenState} {d : Drawn} {t : Nat} {os : OsState} {a : Addr} {o : Obj} {vs : List Value} {n : Nat}
end
end Mine
end
section
open PySem PySem.W PyProof.Rows PySem.Calls
set_option Elab.async false
set_option maxRecDepth 100000
set_option linter.unusedVariables false
set_option maxHeartbeats 1000000
namespace Mine
section
variable {prog : Program} {w : World} {A : Around} {E : Value → Shared → Prop} {h : Heap} {g : Array GenState} {d : Drawn} {t : Nat} {os : OsState} {x C f : Addr} {ox : Obj} {od : Option Obj} {K : Frag} {name : Str}
end
end Mine
end
section
open PySem PySem.W PyProof.Rows PySem.Calls
set_option Elab.async false
set_option maxRecDepth 100000
set_option linter.unusedVariables false
set_option maxHeartbeats 1000000
namespace Mine
/-- the operator module's comparisons -/
def opI : CmpOp → String
  | .Eq => "_operator.eq"
  | .Lt => "_operator.lt"
  | .LtE => "_operator.le"
  | .Gt => "_operator.gt"
  | _ => "_operator.ge"
def isOp : CmpOp → Bool
  | .Eq | .Lt | .LtE | .Gt | .GtE => true
  | _ => false
def opB : CmpOp → Builtin
  | .Eq => Builtin.«_operator.eq»
  | .Lt => Builtin.«_operator.lt»
  | .LtE => Builtin.«_operator.le»
  | .Gt => Builtin.«_operator.gt»
  | _ => Builtin.«_operator.ge»
section
variable {g : Gd} {K : Frag} {C a b d f : Addr} {k : Nat} {Z : Zp} {O : Own} {sl : List (Option Value)} {od : Obj} {vs : List Value} {n : Nat} {c : Bool}
theorem conLenO {i : Int} (hK : g.K = K) (h : At Z O a (instO C d sl)) (hd : At Z O d od) (hs : findIn K (.ref C) "__len__" = some (some (.ref f))) (hf : isFn K (.ref f) = true) (h0 : 0 ≤ i) (h1 : i < 2 ^ 63)
    (hc : Con g k Z O (call (.ref f) [.ref a]) (fun Z' O' v => O' = O ∧ ∃ t, v = .int i t)) : Con g (k + 1) Z O (call (.builtin "len") [.ref a]) (fun Z' O' v => O' = O ∧ ∃ t, v = .int i t) := by
  subst hK
  intro A s Q hr ok hq
  refine Calls.call_function_entry kind_len plain_len entry_len (args_len1 _) ?_
  unfold Builtin.«len»
  refine wpAny_bind (m := oneArg "len" _) (wpAny_pure ?_)
  refine wpAny_bind (m := callSpecial? (.ref a) (Str.ofString "__len__")) (special_fn ok.K_in (inst_at (h.get ok) (hd.get ok)) hs (beq_iff_eq.mp hf) (hc A.in1 s _ hr.in1 ok fun v s' Z' O' st ⟨e1, t, e2⟩ => ?_))
  subst e1 e2
  refine wpAny_bind (wpAny_holding (wpAny_pure ?_))
  refine wpAny_bind (wpAny_letGo ?_)
  show wpAny _ _ (if i < 0 then _ else _) _ _ _
  rw [if_neg (by omega)]
  show wpAny _ _ (if i ≥ 2 ^ 63 then _ else _) _ _ _
  rw [if_neg (by omega)]
  exact wpAny_bind (wpAny_mkInt (wpAny_pure ⟨_, rfl, hq _ _ Z' O' (st.trans (Step.refl (st.ok ok))) ⟨rfl, _, rfl⟩⟩))
/-- own[i] -/
theorem conSubO {value slice : Expr} {i : Value} {P : Zp → Own → Value → Prop} (hK : g.K = K) (h : At Z O a (instO C d sl)) (hd : At Z O d od) (hq : noSeq K C = true) (hs : findIn K (.ref C) "__getitem__" = some (some (.ref f))) (hf : fnIn K f = true) (hfn : isFn K (.ref f) = true)
    (hsl : (∃ ops, subscripted slice true (.ref a) i = operate ops (getItem (.ref a) i)) ∨ subscripted slice true (.ref a) i = runValue (.builtin "lifetime.subscript" ⟨[.ref a, i], []⟩))
    (hc : Con g k Z O (call (.ref f) [.ref a, i]) P) : Con g (k + 1) Z O (subscriptTail value slice (.ref a) i) P := by
  subst hK
  intro A s Q hr ok hqq
  have X := ok.K_in
  have I := inst_at (h.get ok) (hd.get ok)
  unfold fnIn at hf
  split at hf
  · rename_i e
    unfold subscriptTail getitemInPython
    refine wpAny_bind (wpAny_bind (wpAny_bind (I.type.here ((looks_findIn X hs).here ?_))))
    dsimp only
    refine wpAny_bind (wpAny_load (X _ _ e) (wpAny_pure ?_))
    dsimp only
    refine wpAny_bind ?_
    rcases hsl with ⟨ops, hsl⟩ | hsl
    · rw [hsl]
      refine wpAny_operating ?_
      unfold getItem sequenceKey
      refine wpAny_holding (wpAny_bind (wpAny_bind (I.type.here ?_)))
      refine wpAny_bind ((anyM_none X hq).here ?_)
      rw [if_pos (show (!false) = true from rfl)]
      exact wpAny_pure (wpAny_bind (special_fn X I hs (beq_iff_eq.mp hfn) (hc A s _ (hr.le (Nat.le_succ _)) ok fun v s' Z' O' st p => wpAny_pure (wpAny_bind (wpAny_letTemporaryGo (wpAny_pure (hqq v s' Z' O' st p)))))))
    · rw [hsl]
      refine wpAny_runValue (codeAny_builtin entry_sub ?_)
      unfold Builtin.«lifetime.subscript»
      refine wpAny_bind (special_fn X I hs (beq_iff_eq.mp hfn) (hc A.in1 s _ hr.in1 ok fun v s' Z' O' st p => ?_))
      refine wpAny_pure ?_
      exact wpAny_bind (wpAny_letTemporaryGo (wpAny_pure (hqq v s' Z' O' st p)))
  · cases hf
end
end Mine
end
section
open PySem PySem.W PyProof.Rows PySem.Calls
set_option Elab.async false
set_option maxRecDepth 100000
set_option linter.unusedVariables false
set_option maxHeartbeats 1000000
namespace Mine
section
variable {g : Gd} {k : Nat} {Z : Zp} {O : Own} {a : Addr} {vs : List Value} {ns : List Int} {n : Nat} {i j x : Int} {t u : Tok}
theorem conMax : Con g k Z O (call (.builtin "max") [.int i t, .int j u]) (fun Z' O' v => O' = O ∧ ∃ t, v = .int (max i j) t) := by
  intro A s Q hr ok hq
  refine max_two_ints hr.1 fun h' tk hk => ?_
  have st := Step.ext ok tk hk
  by_cases hb : j > i
  · rw [if_pos hb]; exact hq _ _ Z O st ⟨rfl, u, by rw [Int.max_eq_right (Int.le_of_lt hb)]⟩
  · rw [if_neg hb]; exact hq _ _ Z O st ⟨rfl, t, by rw [Int.max_eq_left (by omega)]⟩
theorem conMin : Con g k Z O (call (.builtin "min") [.int i t, .int j u]) (fun Z' O' v => O' = O ∧ ∃ t, v = .int (min i j) t) := by
  intro A s Q hr ok hq
  refine min_two_ints hr.1 fun h' tk hk => ?_
  have st := Step.ext ok tk hk
  by_cases hb : j < i
  · rw [if_pos hb]; exact hq _ _ Z O st ⟨rfl, u, by rw [Int.min_eq_right (Int.le_of_lt hb)]⟩
  · rw [if_neg hb]; exact hq _ _ Z O st ⟨rfl, t, by rw [Int.min_eq_left (by omega)]⟩
end
end Mine
end
section
open PySem PySem.W PyProof.Rows PySem.Calls
set_option Elab.async false
set_option maxRecDepth 100000
set_option linter.unusedVariables false
set_option maxHeartbeats 1000000
namespace Mine
def selI (start stop step : Int) (i : Nat) : Bool :=
  if step > 0 then start ≤ i && i < stop && (i - start) % step == 0
  else stop < i && i ≤ start && (start - i) % (-step) == 0
open PySem.Builtin.List in
def delTree (self i : Value) : Sem Fin := do
  if let some k ← listSubscript? i then
    match seqIndex? k (← listItems self).size with
    | some k => listUpdate self (·.eraseIdxIfInBounds k); return ← ret .none
    | none => rule "list.__delitem__.out-of-range"; raiseError "IndexError" "list assignment index out of range"
  if (← typeOf i) != .type "slice" then listBadSubscript i
  let (lo, hi, st) ← listSliceParts i
  let old ← listItems self
  let (start, stop, step) ← sliceIndices lo hi st old.size
  rule "list.__delitem__.slice"
  listUpdate self fun xs => (xs.toList.zipIdx.filterMap fun (x, k) => if selI start stop step k then none else some x).toArray
  let gone := old.toList.zipIdx.filterMap fun (x, k) => if selI start stop step k then some x else none
  letGo (if step == 1 then gone.reverse else gone)
  ret .none
/-- where a place of a slice falls -/
def clipI (i : Int) (n : Nat) : Nat := (max 0 (min (if i < 0 then i + n else i) n)).toNat
theorem clipI_le (i : Int) (n : Nat) : clipI i n ≤ n := by unfold clipI; omega
theorem bounds_two (i j : Int) (n : Nat) : sliceBounds (some i) (some j) none n = ((clipI i n : Int), (clipI j n : Int), 1) := by
  simp only [sliceBounds, clipI, Option.getD_none, show ((1 : Int) > 0) = True from by simp, if_true]
  rw [Int.toNat_of_nonneg (by omega), Int.toNat_of_nonneg (by omega)]
section
variable {g : Gd} {k : Nat} {Z : Zp} {O : Own} {a sl : Addr} {vs : List Value} {n : Nat} {i j : Int}
end
end Mine
end
section
open PySem PySem.W PyProof.Rows PySem.Calls
set_option Elab.async false
set_option maxRecDepth 100000
set_option linter.unusedVariables false
set_option maxHeartbeats 1000000
namespace Mine
section
variable {g : Gd} {k : Nat} {Z : Zp} {O : Own} {a sl : Addr} {vs : List Value} {ns : List Int} {n : Nat} {i j x : Int} {t u : Tok}
theorem conTupleOf (h : At Z O a (listO vs n)) (hs : vs.length ≤ sizeLine) : Con g k Z O (call (.type "tuple") [.ref a]) (fun Z' O' v => O' = O ∧ ∃ b m, v = .ref b ∧ Z' b = some (tupO vs m)) := by
  intro A s Q hr ok hq
  refine call_tuple_list (items := vs.toArray) ⟨_, h.get ok, rfl, n, rfl⟩ (fun h' hk => ?_) (by simpa using hs)
  have st := Step.ext ok s.toks hk
  have st2 := st.trans (Step.push (st.ok ok) (tupO vs 0) s.toks)
  exact hq _ _ _ O st2 ⟨rfl, _, 0, rfl, Zp.set_self ..⟩
/-- a range from nought -/
def aRange (n : Int) : AV := ⟨fun Z v => ∃ a t u w, v = .ref a ∧ Z a = some (rangeO 0 n 1 t u w), fun hz ⟨a, t, u, w, e, h⟩ => ⟨a, t, u, w, e, hz _ _ h⟩⟩
theorem conRange : Con g k Z O (call (.type "range") [.int i t]) (fun Z' O' v => O' = O ∧ (aRange i).P Z' v) := by
  intro A s Q hr ok hq
  refine call_range_1 ?_
  exact hq _ _ _ O (Step.push ok (rangeO 0 i 1 s.toks t (s.toks + 1)) (s.toks + 1 + 1)) ⟨rfl, _, _, _, _, rfl, Zp.set_self ..⟩
end
end Mine
end
section
open PySem PySem.W PyProof.Rows PySem.Calls
set_option Elab.async false
set_option maxRecDepth 100000
set_option linter.unusedVariables false
set_option maxHeartbeats 1000000
namespace Mine
section
variable {g : Gd} {r : Frm} {ρ : Loc} {Z : Zp} {O : Own}
/-- a text -/
def aStr (x : Str) : AV := ⟨fun _ w => ∃ t, w = .str x t, fun _ h => h⟩
end
section
variable {g : Gd} {k : Nat} {Z : Zp} {O : Own} {a b C d : Addr} {sl : List (Option Value)} {ob : Obj}
theorem conIsNone {i : Int} {t : Tok} : Con g k Z O (compareOp .Is (.int i t) .none) (fun Z' O' v => O' = O ∧ v = .bool false) :=
  fun A s Q hr ok hq => is_int_none (hq _ s Z O (Step.refl ok (t := s.toks)) ⟨rfl, rfl⟩)
end
/-! rows of ints -/
def aL (ns : List Int) : AV := ⟨fun Z v => ∃ a vs, v = .ref a ∧ LZ Z a vs ∧ IntsAre vs ns, fun hz ⟨a, vs, e, x, i⟩ => ⟨a, vs, e, x.le hz, i⟩⟩
def aT (ns : List Int) : AV := ⟨fun Z v => ∃ a vs n, v = .ref a ∧ Z a = some (tupO vs n) ∧ IntsAre vs ns, fun hz ⟨a, vs, n, e, x, i⟩ => ⟨a, vs, n, e, hz _ _ x, i⟩⟩
def aV (C : Addr) (ns : List Int) : AV := ⟨fun Z v => ∃ a xs, v = .ref a ∧ PV Z C a xs ∧ IntsAre xs ns, fun hz ⟨a, xs, e, x, i⟩ => ⟨a, xs, e, x.le hz, i⟩⟩
section
variable {g : Gd} {k : Nat} {ns ms : List Int} {i x : Int}
theorem cmpLL {op : CmpOp} (hop : isOrd op = true) : CmpR g k op (aL ns) (aL ms) (aBool (cmpL op ns ms)) := by
  rintro Z _ _ ⟨a, vs, rfl, ⟨n, h1⟩, i1⟩ ⟨b, ws, rfl, ⟨m, h2⟩, i2⟩
  have : compareOp op (.ref a) (.ref b) = richCompare op (.ref a) (.ref b) := by cases op <;> first | rfl | cases hop
  rw [this]
  exact (conCmpL (LoopIs.ints hop i1 i2) (.inl h1) (.inl h2)).mono fun Z' O' v _ ⟨_, e1, e2⟩ => ⟨e1, e2⟩
theorem binAddLL (hs : ns.length + ms.length ≤ sizeLine) : BinR g k .Add (aL ns) (aL ms) (aL (ns ++ ms)) := by
  rintro Z _ _ ⟨a, vs, rfl, ⟨n, h1⟩, i1⟩ ⟨b, ws, rfl, ⟨m, h2⟩, i2⟩
  refine (Con.frzV ((conAddL (.inl h1) (.inl h2) (by rw [i1.length, i2.length]; exact hs)).mono fun Z' O' v _ ⟨c, q, e1, _, e2⟩ => ⟨c, q, e1, e2⟩)).mono fun Z' O' v _ ⟨e1, c, e2, e3⟩ => ⟨e1, c, _, e2, e3, i1.append i2⟩
variable {r : Frm} {ρ : Loc} {Z : Zp} {O : Own}
end
end Mine
end
section
open PySem PySem.W PyProof.Rows PySem.Calls
set_option Elab.async false
set_option maxRecDepth 100000
set_option linter.unusedVariables false
set_option maxHeartbeats 1000000
namespace Mine
theorem slot_slice_ga : Slot "slice" "__getattribute__" "slice.__getattribute__" :=
  .of (owner := "slice") (n := "__getattribute__") (by rw [typeLookup_type, builtinLookup_eq_fast]; kernel_rfl) (by decide +kernel) (by decide +kernel) (by decide +kernel)
    (by first | exact .inl (by decide +kernel) | exact .inr (by decide +kernel)) (by rw [isSubtype_type]; kernel_rfl)
theorem entry_slice_ga : entryFor table "slice.__getattribute__" = some Builtin.«object.__getattribute__» :=
  entryFor_alias (id' := "object.__getattribute__") (by kernel_rfl) (by first | rfl | decide +kernel) (by decide +kernel) (by kernel_rfl)
theorem args_slice_ga (a b : Value) : argsOk "slice.__getattribute__" ⟨[a, b], []⟩ := by unfold argsOk; kernel_rfl
theorem slot_memg : Slot "member_descriptor" "__get__" "member_descriptor.__get__" :=
  .of (owner := "member_descriptor") (n := "__get__") (by rw [typeLookup_type, builtinLookup_eq_fast]; kernel_rfl) (by decide +kernel) (by decide +kernel) (by decide +kernel)
    (by first | exact .inl (by decide +kernel) | exact .inr (by decide +kernel)) (by rw [isSubtype_type]; kernel_rfl)
theorem entry_memg : entryFor table "member_descriptor.__get__" = some Builtin.«member_descriptor.__get__» := entryFor_of_tree (by kernel_rfl)
theorem args_memg (a b c : Value) : argsOk "member_descriptor.__get__" ⟨[a, b, c], []⟩ := by unfold argsOk; kernel_rfl
theorem slot_mems : Slot "member_descriptor" "__set__" "member_descriptor.__set__" :=
  .of (owner := "member_descriptor") (n := "__set__") (by rw [typeLookup_type, builtinLookup_eq_fast]; kernel_rfl) (by decide +kernel) (by decide +kernel) (by decide +kernel)
    (by first | exact .inl (by decide +kernel) | exact .inr (by decide +kernel)) (by rw [isSubtype_type]; kernel_rfl)
section
variable {prog : Program} {w : World} {A : Around} {E : Value → Shared → Prop} {h : Heap} {g : Array GenState} {d : Drawn} {t : Nat} {os : OsState} {a : Addr} {v0 v1 v2 : Value} {q : Option Int}
theorem start_ty : typeOf (.builtin "slice.start") = pure (.type "member_descriptor") := by show builtinType _ = _; rw [builtinType_eq_fast]; kernel_rfl
theorem start_lk : typeLookup (.type "slice") "start" = pure (some (.builtin "slice.start")) := by rw [typeLookup_type, builtinLookup_eq_fast]; kernel_rfl
theorem start_entry : entryFor table "slice.start" = some Builtin.«slice.start» := entryFor_of_tree (by kernel_rfl)
theorem start_sub : isSubtype (.type "slice") (.type (".".intercalate ("slice.start".cutAt '.').dropLast)) = pure true := by
  rw [show (".".intercalate ("slice.start".cutAt '.').dropLast) = "slice" from by decide +kernel, isSubtype_type]; kernel_rfl
theorem start_get {R : Result → Shared → Prop} (hx : h.get? a = some (sliceO v0 v1 v2)) (hp : IsPart v0 q) (hq : R (.ok (.ret v0)) ⟨h, g, d, t, os⟩) :
    codeAny (model prog w) A (.call (.builtin "member_descriptor.__get__") ⟨[.builtin "slice.start", .ref a, .type "slice"], []⟩) R ⟨h, g, d, t, os⟩ := by
  have hT : (⟨h, g, d, t, os⟩ : Shared).TypeIs (.ref a) "slice" := ⟨_, hx, rfl⟩
  have f5 := start_ty
  have hT5 : (⟨h, g, d, t, os⟩ : Shared).TypeIs (.builtin "slice.start") "member_descriptor" := f5
  have f8 := start_sub
  refine codeAny_call_builtin slot_memg.plain entry_memg (slot_memg.check _ _ _ _ _ _ _ _ hT5 (args_memg _ _ _) ?_)
  repeat (any_goals (first | assumption | wp_step))
  refine ⟨Code.quiet_builtin _ (by decide +kernel), codeAny_builtin start_entry ?_⟩
  unfold Builtin.«slice.start»
  repeat (any_goals (first | assumption | with_reducible refine wpAny_field hx (vs := #[v0, v1, v2]) (v := v0) rfl rfl ?_ | wp_step))
theorem start_attr {e : Bool} {Q : Value → Shared → Prop} (hx : h.get? a = some (sliceO v0 v1 v2)) (hp : IsPart v0 q) (hq : Q v0 ⟨h, g, d, t + 1, os⟩) :
    wpAny (model prog w) A (getAttr (.ref a) "start" e) Q E ⟨h, g, d, t, os⟩ := by
  have entry : ∀ {tk : Tok} {t : Nat} {E : Value → Shared → Prop} {Q : Fin → Shared → Prop} {A : Around}, Q (.done (.ret v0)) ⟨h, g, d, t, os⟩ → wpAny (model prog w) A (Builtin.«object.__getattribute__» ⟨[.ref a, .str "start" tk], []⟩) Q E ⟨h, g, d, t, os⟩ := by
    intro tk t E Q A hq
    have hT : (⟨h, g, d, t, os⟩ : Shared).TypeIs (.ref a) "slice" := ⟨_, hx, rfl⟩
    have hT5 : (⟨h, g, d, t, os⟩ : Shared).TypeIs (.builtin "slice.start") "member_descriptor" := start_ty
    have f4 := start_lk
    have f5 := start_ty
    have f6 := slot_memg.lookup
    have f7 := slot_mems.lookup
    repeat (any_goals (first | assumption | wp_step))
    refine start_get hx hp ?_
    repeat (any_goals (first | assumption | wp_step))
  have callga : ∀ {tk : Tok} {t : Nat} {R : Result → Shared → Prop} {A : Around}, R (.ok (.ret v0)) ⟨h, g, d, t, os⟩ → codeAny (model prog w) A (.call (.builtin "slice.__getattribute__") ⟨[.ref a, .str "start" tk], []⟩) R ⟨h, g, d, t, os⟩ := fun hq =>
    codeAny_call_builtin slot_slice_ga.plain entry_slice_ga (slot_slice_ga.check _ _ _ _ _ _ _ _ (show (⟨h, g, d, _, os⟩ : Shared).TypeIs (.ref a) "slice" from ⟨_, hx, rfl⟩) (args_slice_ga _ _) (entry hq))
  have byga : ∀ {tk : Tok} {t : Nat} {fill expr : Bool} {E : Value → Shared → Prop} {Q : Value → Shared → Prop} {A : Around}, Q v0 ⟨h, g, d, t, os⟩ → wpAny (model prog w) A (getAttrBy (.ref a) (.str "start" tk) fill expr) Q E ⟨h, g, d, t, os⟩ := by
    intro tk t fill expr E Q A hq
    have hT : (⟨h, g, d, t, os⟩ : Shared).TypeIs (.ref a) "slice" := ⟨_, hx, rfl⟩
    have f2 := slot_slice_ga.lookup
    have f3 := slot_slice_ga.bind (.ref a)
    have hx0 : (expr && onTheHeap (Value.builtin "slice.__getattribute__")) = false := by cases expr <;> rfl
    repeat (any_goals (first | assumption | wp_step))
    refine callga ?_
    repeat (any_goals (first | assumption | wp_step))
    cases hp <;> exact wpAny_pure hq
  unfold getAttr
  repeat (any_goals (first | assumption | with_reducible apply byga | wp_step))
theorem stop_ty : typeOf (.builtin "slice.stop") = pure (.type "member_descriptor") := by show builtinType _ = _; rw [builtinType_eq_fast]; kernel_rfl
theorem stop_lk : typeLookup (.type "slice") "stop" = pure (some (.builtin "slice.stop")) := by rw [typeLookup_type, builtinLookup_eq_fast]; kernel_rfl
theorem stop_entry : entryFor table "slice.stop" = some Builtin.«slice.stop» := entryFor_of_tree (by kernel_rfl)
theorem stop_sub : isSubtype (.type "slice") (.type (".".intercalate ("slice.stop".cutAt '.').dropLast)) = pure true := by
  rw [show (".".intercalate ("slice.stop".cutAt '.').dropLast) = "slice" from by decide +kernel, isSubtype_type]; kernel_rfl
theorem stop_get {R : Result → Shared → Prop} (hx : h.get? a = some (sliceO v0 v1 v2)) (hp : IsPart v1 q) (hq : R (.ok (.ret v1)) ⟨h, g, d, t, os⟩) :
    codeAny (model prog w) A (.call (.builtin "member_descriptor.__get__") ⟨[.builtin "slice.stop", .ref a, .type "slice"], []⟩) R ⟨h, g, d, t, os⟩ := by
  have hT : (⟨h, g, d, t, os⟩ : Shared).TypeIs (.ref a) "slice" := ⟨_, hx, rfl⟩
  have f5 := stop_ty
  have hT5 : (⟨h, g, d, t, os⟩ : Shared).TypeIs (.builtin "slice.stop") "member_descriptor" := f5
  have f8 := stop_sub
  refine codeAny_call_builtin slot_memg.plain entry_memg (slot_memg.check _ _ _ _ _ _ _ _ hT5 (args_memg _ _ _) ?_)
  repeat (any_goals (first | assumption | wp_step))
  refine ⟨Code.quiet_builtin _ (by decide +kernel), codeAny_builtin stop_entry ?_⟩
  unfold Builtin.«slice.stop»
  repeat (any_goals (first | assumption | with_reducible refine wpAny_field hx (vs := #[v0, v1, v2]) (v := v1) rfl rfl ?_ | wp_step))
theorem stop_attr {e : Bool} {Q : Value → Shared → Prop} (hx : h.get? a = some (sliceO v0 v1 v2)) (hp : IsPart v1 q) (hq : Q v1 ⟨h, g, d, t + 1, os⟩) :
    wpAny (model prog w) A (getAttr (.ref a) "stop" e) Q E ⟨h, g, d, t, os⟩ := by
  have entry : ∀ {tk : Tok} {t : Nat} {E : Value → Shared → Prop} {Q : Fin → Shared → Prop} {A : Around}, Q (.done (.ret v1)) ⟨h, g, d, t, os⟩ → wpAny (model prog w) A (Builtin.«object.__getattribute__» ⟨[.ref a, .str "stop" tk], []⟩) Q E ⟨h, g, d, t, os⟩ := by
    intro tk t E Q A hq
    have hT : (⟨h, g, d, t, os⟩ : Shared).TypeIs (.ref a) "slice" := ⟨_, hx, rfl⟩
    have hT5 : (⟨h, g, d, t, os⟩ : Shared).TypeIs (.builtin "slice.stop") "member_descriptor" := stop_ty
    have f4 := stop_lk
    have f5 := stop_ty
    have f6 := slot_memg.lookup
    have f7 := slot_mems.lookup
    repeat (any_goals (first | assumption | wp_step))
    refine stop_get hx hp ?_
    repeat (any_goals (first | assumption | wp_step))
  have callga : ∀ {tk : Tok} {t : Nat} {R : Result → Shared → Prop} {A : Around}, R (.ok (.ret v1)) ⟨h, g, d, t, os⟩ → codeAny (model prog w) A (.call (.builtin "slice.__getattribute__") ⟨[.ref a, .str "stop" tk], []⟩) R ⟨h, g, d, t, os⟩ := fun hq =>
    codeAny_call_builtin slot_slice_ga.plain entry_slice_ga (slot_slice_ga.check _ _ _ _ _ _ _ _ (show (⟨h, g, d, _, os⟩ : Shared).TypeIs (.ref a) "slice" from ⟨_, hx, rfl⟩) (args_slice_ga _ _) (entry hq))
  have byga : ∀ {tk : Tok} {t : Nat} {fill expr : Bool} {E : Value → Shared → Prop} {Q : Value → Shared → Prop} {A : Around}, Q v1 ⟨h, g, d, t, os⟩ → wpAny (model prog w) A (getAttrBy (.ref a) (.str "stop" tk) fill expr) Q E ⟨h, g, d, t, os⟩ := by
    intro tk t fill expr E Q A hq
    have hT : (⟨h, g, d, t, os⟩ : Shared).TypeIs (.ref a) "slice" := ⟨_, hx, rfl⟩
    have f2 := slot_slice_ga.lookup
    have f3 := slot_slice_ga.bind (.ref a)
    have hx0 : (expr && onTheHeap (Value.builtin "slice.__getattribute__")) = false := by cases expr <;> rfl
    repeat (any_goals (first | assumption | wp_step))
    refine callga ?_
    repeat (any_goals (first | assumption | wp_step))
    cases hp <;> exact wpAny_pure hq
  unfold getAttr
  repeat (any_goals (first | assumption | with_reducible apply byga | wp_step))
theorem step_ty : typeOf (.builtin "slice.step") = pure (.type "member_descriptor") := by show builtinType _ = _; rw [builtinType_eq_fast]; kernel_rfl
theorem step_lk : typeLookup (.type "slice") "step" = pure (some (.builtin "slice.step")) := by rw [typeLookup_type, builtinLookup_eq_fast]; kernel_rfl
theorem step_entry : entryFor table "slice.step" = some Builtin.«slice.step» := entryFor_of_tree (by kernel_rfl)
theorem step_sub : isSubtype (.type "slice") (.type (".".intercalate ("slice.step".cutAt '.').dropLast)) = pure true := by
  rw [show (".".intercalate ("slice.step".cutAt '.').dropLast) = "slice" from by decide +kernel, isSubtype_type]; kernel_rfl
theorem step_get {R : Result → Shared → Prop} (hx : h.get? a = some (sliceO v0 v1 v2)) (hp : IsPart v2 q) (hq : R (.ok (.ret v2)) ⟨h, g, d, t, os⟩) :
    codeAny (model prog w) A (.call (.builtin "member_descriptor.__get__") ⟨[.builtin "slice.step", .ref a, .type "slice"], []⟩) R ⟨h, g, d, t, os⟩ := by
  have hT : (⟨h, g, d, t, os⟩ : Shared).TypeIs (.ref a) "slice" := ⟨_, hx, rfl⟩
  have f5 := step_ty
  have hT5 : (⟨h, g, d, t, os⟩ : Shared).TypeIs (.builtin "slice.step") "member_descriptor" := f5
  have f8 := step_sub
  refine codeAny_call_builtin slot_memg.plain entry_memg (slot_memg.check _ _ _ _ _ _ _ _ hT5 (args_memg _ _ _) ?_)
  repeat (any_goals (first | assumption | wp_step))
  refine ⟨Code.quiet_builtin _ (by decide +kernel), codeAny_builtin step_entry ?_⟩
  unfold Builtin.«slice.step»
  repeat (any_goals (first | assumption | with_reducible refine wpAny_field hx (vs := #[v0, v1, v2]) (v := v2) rfl rfl ?_ | wp_step))
theorem step_attr {e : Bool} {Q : Value → Shared → Prop} (hx : h.get? a = some (sliceO v0 v1 v2)) (hp : IsPart v2 q) (hq : Q v2 ⟨h, g, d, t + 1, os⟩) :
    wpAny (model prog w) A (getAttr (.ref a) "step" e) Q E ⟨h, g, d, t, os⟩ := by
  have entry : ∀ {tk : Tok} {t : Nat} {E : Value → Shared → Prop} {Q : Fin → Shared → Prop} {A : Around}, Q (.done (.ret v2)) ⟨h, g, d, t, os⟩ → wpAny (model prog w) A (Builtin.«object.__getattribute__» ⟨[.ref a, .str "step" tk], []⟩) Q E ⟨h, g, d, t, os⟩ := by
    intro tk t E Q A hq
    have hT : (⟨h, g, d, t, os⟩ : Shared).TypeIs (.ref a) "slice" := ⟨_, hx, rfl⟩
    have hT5 : (⟨h, g, d, t, os⟩ : Shared).TypeIs (.builtin "slice.step") "member_descriptor" := step_ty
    have f4 := step_lk
    have f5 := step_ty
    have f6 := slot_memg.lookup
    have f7 := slot_mems.lookup
    repeat (any_goals (first | assumption | wp_step))
    refine step_get hx hp ?_
    repeat (any_goals (first | assumption | wp_step))
  have callga : ∀ {tk : Tok} {t : Nat} {R : Result → Shared → Prop} {A : Around}, R (.ok (.ret v2)) ⟨h, g, d, t, os⟩ → codeAny (model prog w) A (.call (.builtin "slice.__getattribute__") ⟨[.ref a, .str "step" tk], []⟩) R ⟨h, g, d, t, os⟩ := fun hq =>
    codeAny_call_builtin slot_slice_ga.plain entry_slice_ga (slot_slice_ga.check _ _ _ _ _ _ _ _ (show (⟨h, g, d, _, os⟩ : Shared).TypeIs (.ref a) "slice" from ⟨_, hx, rfl⟩) (args_slice_ga _ _) (entry hq))
  have byga : ∀ {tk : Tok} {t : Nat} {fill expr : Bool} {E : Value → Shared → Prop} {Q : Value → Shared → Prop} {A : Around}, Q v2 ⟨h, g, d, t, os⟩ → wpAny (model prog w) A (getAttrBy (.ref a) (.str "step" tk) fill expr) Q E ⟨h, g, d, t, os⟩ := by
    intro tk t fill expr E Q A hq
    have hT : (⟨h, g, d, t, os⟩ : Shared).TypeIs (.ref a) "slice" := ⟨_, hx, rfl⟩
    have f2 := slot_slice_ga.lookup
    have f3 := slot_slice_ga.bind (.ref a)
    have hx0 : (expr && onTheHeap (Value.builtin "slice.__getattribute__")) = false := by cases expr <;> rfl
    repeat (any_goals (first | assumption | wp_step))
    refine callga ?_
    repeat (any_goals (first | assumption | wp_step))
    cases hp <;> exact wpAny_pure hq
  unfold getAttr
  repeat (any_goals (first | assumption | with_reducible apply byga | wp_step))
end

section
variable {g : Gd} {r : Frm} {ρ : Loc} {Z : Zp} {O : Own} {k : Nat} {sl : Addr} {v0 v1 v2 : Value} {q : Option Int}
theorem conStart {e : Bool} (h : At Z O sl (sliceO v0 v1 v2)) (hp : IsPart v0 q) : Con g k Z O (getAttr (.ref sl) "start" e) (fun Z' O' v => O' = O ∧ v = v0) :=
  fun A s Q hr ok hq => start_attr (h.get ok) hp (hq _ _ Z O (Step.refl ok) ⟨rfl, rfl⟩)
theorem conStop {e : Bool} (h : At Z O sl (sliceO v0 v1 v2)) (hp : IsPart v1 q) : Con g k Z O (getAttr (.ref sl) "stop" e) (fun Z' O' v => O' = O ∧ v = v1) :=
  fun A s Q hr ok hq => stop_attr (h.get ok) hp (hq _ _ Z O (Step.refl ok) ⟨rfl, rfl⟩)
theorem conStep {e : Bool} (h : At Z O sl (sliceO v0 v1 v2)) (hp : IsPart v2 q) : Con g k Z O (getAttr (.ref sl) "step" e) (fun Z' O' v => O' = O ∧ v = v2) :=
  fun A s Q hr ok hq => step_attr (h.get ok) hp (hq _ _ Z O (Step.refl ok) ⟨rfl, rfl⟩)
/-- x is None, x being a part of a slice -/
theorem cmpIsNoneP {v : Value} (hp : IsPart v q) : CmpR g k .Is (aVal v) aNone (aBool q.isNone) := by
  rintro Z x y h h'
  obtain rfl : x = v := h
  obtain rfl : y = .none := h'
  cases hp with
  | none => exact fun A s Q hr ok hq => is_none (hq _ s Z [] (Step.refl ok (t := s.toks)) ⟨rfl, rfl⟩)
  | int i t => exact conIsNone
end
end Mine
end
section
open PySem PySem.W PyProof.Rows PySem.Calls
set_option Elab.async false
set_option maxRecDepth 100000
set_option linter.unusedVariables false
set_option maxHeartbeats 1000000
namespace Mine
section
variable {g : Gd} {r : Frm} {ρ : Loc} {Z : Zp} {O : Own} {k : Nat}
theorem ty_slice : typeOf (.type "slice") = pure (.type "type") := by kernel_rfl
theorem sub_slice : isSubtype (.type "slice") (.type "slice") = pure true := by rw [isSubtype_type]; kernel_rfl
theorem ty_int : typeOf (.type "int") = pure (.type "type") := by kernel_rfl
theorem sub_int_int : isSubtype (.type "int") (.type "int") = pure true := by rw [isSubtype_type]; kernel_rfl
theorem conIsiSl {sl : Addr} {v0 v1 v2 : Value} (h : At Z O sl (sliceO v0 v1 v2)) : Con g k Z O (call (.builtin "isinstance") [.ref sl, .type "slice"]) (fun Z' O' v => O' = O ∧ v = .bool true) :=
  fun A s Q hr ok hq => call_isinstance (isinstance_true ty_slice sub_slice) ⟨⟨_, h.get ok, rfl⟩, hq _ _ Z O (Step.refl ok (t := s.toks)) ⟨rfl, rfl⟩⟩
theorem conIsiII {i : Int} {t : Tok} : Con g k Z O (call (.builtin "isinstance") [.int i t, .type "int"]) (fun Z' O' v => O' = O ∧ v = .bool true) :=
  fun A s Q hr ok hq => call_isinstance (isinstance_true ty_int sub_int_int) ⟨rfl, hq _ _ Z O (Step.refl ok (t := s.toks)) ⟨rfl, rfl⟩⟩
end
end Mine
end
section
open PySem PySem.W PyProof.Rows PySem.Calls
set_option Elab.async false
set_option maxRecDepth 100000
set_option linter.unusedVariables false
namespace Mine
theorem LZ.uniq {Z : Zp} {a : Addr} {vs ws : List Value} (h1 : LZ Z a vs) (h2 : LZ Z a ws) : vs = ws := by
  obtain ⟨n, h1⟩ := h1
  obtain ⟨m, h2⟩ := h2
  rw [h1] at h2
  have := Option.some.inj h2
  injection this with _ _ h _
  injection h with h
  simpa using h
theorem map_ref_inj : ∀ {cs cs' : List Addr}, cs.map Value.ref = cs'.map Value.ref → cs = cs'
  | [], [], _ => rfl
  | a :: cs, b :: cs', h => by
    rw [List.map_cons, List.map_cons] at h
    injection h with h1 h2
    injection h1 with h1
    rw [h1, map_ref_inj h2]
theorem Kids.uniq {N : Addr → List Addr → Prop} {w : Nat} (hu : ∀ c ls ls', N c ls → N c ls' → ls = ls') : ∀ {cs ls ls' : List Addr}, Kids N w cs ls → Kids N w cs ls' → ls = ls'
  | [], _, _, h1, h2 => by rw [show _ = [] from h1, show _ = [] from h2]
  | _ :: _, ls, ls', ⟨_, a1, b1⟩, ⟨_, a2, b2⟩ => by
    rw [← List.take_append_drop w ls, ← List.take_append_drop w ls', hu _ _ _ a1 a2, Kids.uniq hu b1 b2]
theorem cmpL_ne : ∀ (ns ms : List Int), cmpL .NotEq ns ms = decide (ns ≠ ms)
  | [], [] => rfl
  | [], _ :: _ => rfl
  | _ :: _, [] => rfl
  | n :: ns, m :: ms => by
    unfold cmpL
    by_cases h : n = m
    · rw [if_pos h, cmpL_ne ns ms]; subst h; simp
    · rw [if_neg h]; simp [cmpInt, h]
end Mine
end
section
open PySem PySem.W PyProof.Rows PySem.Calls
set_option Elab.async false
set_option maxRecDepth 100000
set_option linter.unusedVariables false
set_option maxHeartbeats 1000000
namespace Mine
/-! rows of ints with a bound of their length -/
def aLb (b : Nat) (ns : List Int) : AV := ⟨fun Z v => (aL ns).P Z v ∧ ns.length ≤ b, fun hz h => ⟨(aL ns).mono hz h.1, h.2⟩⟩
def aTb (b : Nat) (ns : List Int) : AV := ⟨fun Z v => (aT ns).P Z v ∧ ns.length ≤ b, fun hz h => ⟨(aT ns).mono hz h.1, h.2⟩⟩
theorem lenPick (ns : List Int) (lo hi st : Option Int) : (pickNums ns lo hi st).length ≤ ns.length := by
  have : IntsAre (ns.map fun i => Value.int i 0) ns := by
    induction ns with
    | nil => exact .nil
    | cons x xs ih => exact .cons _ _ ih
  exact length_pickNums_le this lo hi st
section
variable {g : Gd} {k : Nat} {ns ms : List Int} {i x : Int} {a b : Nat}
theorem cmpLLb {op : CmpOp} (hop : isOrd op = true) : CmpR g k op (aLb a ns) (aLb b ms) (aBool (cmpL op ns ms)) := fun Z x y h1 h2 => cmpLL hop Z x y h1.1 h2.1
theorem binAddLb (hs : a + b ≤ sizeLine) : BinR g k .Add (aLb a ns) (aLb b ms) (aLb (a + b) (ns ++ ms)) := fun Z x y h1 h2 =>
  (binAddLL (by have := h1.2; have := h2.2; omega) Z x y h1.1 h2.1).mono fun Z' O' v _ ⟨e1, p⟩ => ⟨e1, p, by rw [List.length_append]; have := h1.2; have := h2.2; omega⟩
variable {r : Frm} {ρ : Loc} {Z : Zp} {O : Own}
theorem subCutLb {value slice : Expr} {lo hi sp : Option Int} (h0 : sp ≠ some 0) (hb : b ≤ sizeLine)
    (hs : ∀ o i, ∃ ops, subscripted slice false o i = operate ops (getItem o i) := by intro o i; exact ⟨_, by with_unfolding_all rfl⟩) :
    SubR g k value slice (aLb b ns) (aSlice lo hi sp) (aLb b (pickNums ns lo hi sp)) :=
  fun Z₁ o iv ⟨⟨a, vs, e1, ⟨n, h⟩, i1⟩, hl⟩ ⟨sl, vl, vu, vst, e2, e3, p1, p2, p3⟩ => by
    subst e1 e2
    exact (Con.frzV (conSubTail (T := "list") (o := .ref a) (fun s ok => ⟨_, ok.zin _ _ h, rfl⟩) slot_list_getitem.lookup (hs _ _) ((conSlice (.inl h) (.inl e3) p1 p2 p3 h0 (by rw [i1.length]; omega)).mono fun Z' O' v _ ⟨b, m, e1, _, e2⟩ => ⟨b, m, e1, e2⟩))).mono
      fun Z' O' v _ ⟨e1, c, e2, e3⟩ => ⟨e1, ⟨c, _, e2, e3, i1.pick lo hi sp⟩, Nat.le_trans (lenPick ..) hl⟩
theorem subCutL0 {value : Expr} {l u : Option Expr} {p : Pos} {lo hi sp : Option Int} (h0 : sp ≠ some 0) (hb : b ≤ sizeLine) : SubR g k value (.Slice l u none p) (aLb b ns) (aSlice lo hi sp) (aLb b (pickNums ns lo hi sp)) := subCutLb h0 hb fun o i => ⟨[i, o], rfl⟩
theorem evLenLb {K : Frag} {e : Expr} {pos p : Pos} (hK : g.K = K) (hb : nsIn K mainGlobals "len" = some none) (he : Ev g r ρ Z O e (aLb b ns)) (hs : b ≤ sizeLine)
    (hl : r.env.kindOf "len" = some .globalImplicit := by rfl) (hst : starEach [e] r.env = [(false, eval e r.env)] := by rfl) : Ev g r ρ Z O (.Call (.Name "len" p) [e] [] pos) (aInt ns.length) :=
  opCall (f := .builtin "len") (Ev.boot hK hb boot_len (by decide) hl) Kp.builtin (Evs.cons he Evs.nil hst) (fun Z₁ vs hz hd => by
    obtain ⟨v, rfl, ⟨a, ws, rfl, ⟨n, h⟩, i1⟩, hl⟩ := hd.one
    exact (conLen (.inl h) (by rw [i1.length]; omega)).mono fun Z' O' v _ ⟨_, e1, t, e2⟩ => ⟨e1, t, by rw [e2, i1.length]⟩) (by with_unfolding_all rfl)
theorem densInts {Z : Zp} : ∀ {vs : List Value} {ns : List Int}, Dens Z vs (ns.map aInt) → IntsAre vs ns
  | [], [], _ => .nil
  | v :: vs, n :: ns, h => by
    obtain ⟨t, e⟩ := h.1
    rw [e]
    exact .cons _ _ (densInts (show Dens Z vs (ns.map aInt) from h.2))
  | [], _ :: _, h => h.elim
  | _ :: _, [], h => h.elim
/-- a list display of ints -/
theorem evListI {pos : Pos} {es : List Expr} (ns : List Int) (h : Evs g r ρ Z O pos es (ns.map aInt)) (hs : ns.length ≤ sizeLine) : Ev g r ρ Z O (.List es pos) (aLb ns.length ns) :=
  Ev.mono (evList h (by rw [List.length_map]; exact hs)) fun Z' v hz ⟨a, vs, n, e1, e2, d⟩ => ⟨⟨a, vs, e1, ⟨n, e2⟩, densInts d⟩, Nat.le_refl _⟩
theorem evNilI {pos : Pos} : Ev g r ρ Z O (.List [] pos) (aLb 0 []) := evListI [] Evs.nil (Nat.zero_le _)
theorem evOneI {pos : Pos} {e : Expr} (h : Ev g r ρ Z O e (aInt x)) (hst : starEach [e] r.env = (false, eval e r.env) :: starEach [] r.env := by rfl) : Ev g r ρ Z O (.List [e] pos) (aLb 1 [x]) := evListI [x] (Evs.cons h Evs.nil hst) (show 1 ≤ sizeLine by decide)
theorem evMax {K : Frag} {e1 e2 : Expr} {pos p : Pos} {j : Int} (hK : g.K = K) (hb : nsIn K mainGlobals "max" = some none) (h1 : Ev g r ρ Z O e1 (aInt i)) (h2 : Ev g r ρ Z O e2 (aInt j))
    (hl : r.env.kindOf "max" = some .globalImplicit := by rfl) (hst : starEach [e1, e2] r.env = (false, eval e1 r.env) :: starEach [e2] r.env := by rfl) (hst2 : starEach [e2] r.env = (false, eval e2 r.env) :: starEach [] r.env := by rfl) : Ev g r ρ Z O (.Call (.Name "max" p) [e1, e2] [] pos) (aInt (max i j)) :=
  opCall (f := .builtin "max") (as := [aInt i, aInt j]) (Ev.boot hK hb bt_max (by decide) hl) Kp.builtin (Evs.cons h1 (Evs.cons h2 Evs.nil hst2) hst) (fun Z₁ vs hz hd => by
    obtain ⟨v, w, rfl, ⟨t, rfl⟩, ⟨u, rfl⟩⟩ := hd.two
    exact conMax) (by with_unfolding_all rfl)
theorem evMin {K : Frag} {e1 e2 : Expr} {pos p : Pos} {j : Int} (hK : g.K = K) (hb : nsIn K mainGlobals "min" = some none) (h1 : Ev g r ρ Z O e1 (aInt i)) (h2 : Ev g r ρ Z O e2 (aInt j))
    (hl : r.env.kindOf "min" = some .globalImplicit := by rfl) (hst : starEach [e1, e2] r.env = (false, eval e1 r.env) :: starEach [e2] r.env := by rfl) (hst2 : starEach [e2] r.env = (false, eval e2 r.env) :: starEach [] r.env := by rfl) : Ev g r ρ Z O (.Call (.Name "min" p) [e1, e2] [] pos) (aInt (min i j)) :=
  opCall (f := .builtin "min") (as := [aInt i, aInt j]) (Ev.boot hK hb bt_min (by decide) hl) Kp.builtin (Evs.cons h1 (Evs.cons h2 Evs.nil hst2) hst) (fun Z₁ vs hz hd => by
    obtain ⟨v, w, rfl, ⟨t, rfl⟩, ⟨u, rfl⟩⟩ := hd.two
    exact conMin) (by with_unfolding_all rfl)
theorem evTupleLb {K : Frag} {e : Expr} {pos p : Pos} (hK : g.K = K) (hb : nsIn K mainGlobals "tuple" = some none) (h1 : Ev g r ρ Z O e (aLb b ns)) (hs : b ≤ sizeLine)
    (hl : r.env.kindOf "tuple" = some .globalImplicit := by rfl) (hst : starEach [e] r.env = (false, eval e r.env) :: starEach [] r.env := by rfl) : Ev g r ρ Z O (.Call (.Name "tuple" p) [e] [] pos) (aTb b ns) :=
  opCall (f := .type "tuple") (as := [aLb b ns]) (Ev.boot hK hb bt_tuple (by decide) hl) Kp.type (Evs.cons h1 Evs.nil hst) (fun Z₁ vs hz hd => by
    obtain ⟨v, rfl, ⟨a, ws, rfl, ⟨n, h⟩, i1⟩, hl⟩ := hd.one
    exact (conTupleOf (.inl h) (by rw [i1.length]; omega)).mono fun Z' O' v _ ⟨e1, c, m, e2, e3⟩ => ⟨e1, ⟨c, _, m, e2, e3, i1⟩, hl⟩) (by with_unfolding_all rfl)
/-- the division of the script's numbers by small ones -/
theorem binDivS {j : Int} (hj : 0 < j) (h2 : j < 2 ^ 30) : BinR g k .FloorDiv (aInt i) (aInt j) (aInt (i.fdiv j)) := by
  refine binDiv (by omega) ?_
  unfold Builtin.divisionGoesByPylong
  have : j.natAbs.log2 < 30 := by
    have : j.natAbs < 2 ^ 30 := by omega
    exact (Nat.log2_lt (by omega)).mpr this
  have h3 : j.natAbs.log2 / 30 = 0 := Nat.div_eq_of_lt this
  have h4 : ¬ ((if j == 0 then 0 else j.natAbs.log2 / 30 + 1) > 300) := by
    rw [h3]; split <;> omega
  simp only [Bool.and_eq_false_iff, decide_eq_false_iff_not]
  exact .inl h4
theorem mulOk_left {j : Int} (h : i.natAbs < 2 ^ 64) : IntMulOk i j := by
  refine IntMulOk.of_left ?_
  unfold Builtin.Int.intBits
  by_cases h0 : i.natAbs = 0
  · simp only [h0]; split <;> decide
  · have := (Nat.log2_lt (k := 64) h0).mpr h
    split <;> omega
end
theorem intsTake : ∀ {xs : List Value} {ns : List Int}, IntsAre xs ns → ∀ p, IntsAre (xs.take p) (ns.take p)
  | _, _, .nil, p => by rw [List.take_nil, List.take_nil]; exact .nil
  | _, _, .cons a b h, 0 => .nil
  | _, _, .cons a b h, p + 1 => .cons a b (intsTake h p)
theorem intsDrop : ∀ {xs : List Value} {ns : List Int}, IntsAre xs ns → ∀ p, IntsAre (xs.drop p) (ns.drop p)
  | _, _, .nil, p => by rw [List.drop_nil, List.drop_nil]; exact .nil
  | _, _, .cons a b h, 0 => .cons a b h
  | _, _, .cons a b h, p + 1 => intsDrop h p
end Mine
end
section
open PySem PySem.W PyProof.Rows PySem.Calls
set_option Elab.async false
set_option linter.unusedVariables false
namespace Mine
theorem clip_nat (a n : Nat) : clipI (a : Int) n = min a n := by
  unfold clipI
  rw [if_neg (Int.not_lt.mpr (Int.natCast_nonneg a)), show min (a : Int) (n : Int) = ((min a n : Nat) : Int) from by omega, Int.max_eq_right (Int.natCast_nonneg _), Int.toNat_natCast]
theorem range_cut (ns : List Int) (a b : Nat) (hb : b ≤ ns.length) : (sliceRange (a : Int) (b : Int) 1).filterMap (ns[·]?) = (ns.drop a).take (b - a) := by
  unfold sliceRange
  have hc : (if (1 : Int) > 0 then (if (a : Int) < b then ((b : Int) - a + 1 - 1) / 1 else 0) else (if (a : Int) > b then ((a : Int) - b - 1 - 1) / (-1) else 0)).toNat = b - a := by
    rw [if_pos (by decide)]
    split
    · rw [Int.ediv_one]; omega
    · omega
  show ((List.range (if (1 : Int) > 0 then (if (a : Int) < b then ((b : Int) - a + 1 - 1) / 1 else 0) else (if (a : Int) > b then ((a : Int) - b - 1 - 1) / (-1) else 0)).toNat).map fun (k : Nat) => ((a : Int) + 1 * (k : Int)).toNat).filterMap (ns[·]?) = _
  rw [hc]
  have e1 : ((List.range (b - a)).map fun (k : Nat) => ((a : Int) + 1 * (k : Int)).toNat) = (List.range (b - a)).map (a + ·) := by
    apply List.map_congr_left; intro k _; omega
  rw [e1, List.filterMap_map]
  have key : ∀ m, a + m ≤ ns.length → (List.range m).filterMap ((ns[·]?) ∘ (a + ·)) = (ns.drop a).take m := by
    intro m
    induction m with
    | zero => intro _; simp
    | succ m ih =>
      intro h
      rw [List.range_succ, List.filterMap_append, ih (by omega), List.take_add_one]
      congr 1
      have : (ns.drop a)[m]? = ns[a + m]? := by rw [List.getElem?_drop]
      rw [this, List.getElem?_eq_getElem (by omega)]
      simp [List.getElem?_eq_getElem (show a + m < ns.length by omega)]
  by_cases h : a ≤ b
  · exact key (b - a) (by omega)
  · have : b - a = 0 := by omega
    rw [this]; simp
theorem pn_run (ns : List Int) (i j : Int) : pickNums ns (some i) (some j) none = (ns.drop (clipI i ns.length)).take (clipI j ns.length - clipI i ns.length) := by
  unfold pickNums
  rw [bounds_two]
  exact range_cut ns _ _ (clipI_le _ _)
theorem pn_to (ns : List Int) (j : Int) : pickNums ns none (some j) none = ns.take (clipI j ns.length) := by
  have : sliceBounds none (some j) none ns.length = (((0 : Nat) : Int), (clipI j ns.length : Int), 1) := by
    unfold sliceBounds clipI; simp
  unfold pickNums
  rw [this]
  have := range_cut ns 0 _ (clipI_le j ns.length)
  simpa using this
theorem pn_from (ns : List Int) (i : Int) : pickNums ns (some i) none none = ns.drop (clipI i ns.length) := by
  have : sliceBounds (some i) none none ns.length = ((clipI i ns.length : Int), ((ns.length : Nat) : Int), 1) := by
    unfold sliceBounds clipI; simp
  unfold pickNums
  rw [this, range_cut ns _ _ (Nat.le_refl _)]
  rw [List.take_of_length_le (by rw [List.length_drop]; omega)]
local macro_rules | `(tactic| walk_at "lst") => `(tactic| (
  apply List.ext_getElem?; intro i
  simp only [List.getElem?_append, List.getElem?_take, List.getElem?_drop, List.length_append, List.length_take, List.length_drop, List.getElem?_nil, List.length_nil, List.getElem?_eraseIdx]
  repeat' split
  all_goals first | rfl | omega | (congr 1; omega) | (symm; apply List.getElem?_eq_none; omega) | (apply List.getElem?_eq_none; omega)))
section
variable {row other : List Int} {low hi0 : Nat} {b e : Int}
end
end Mine
end
section
open PySem PySem.W PyProof.Rows PySem.Calls
set_option Elab.async false
set_option maxRecDepth 100000
set_option linter.unusedVariables false
set_option maxHeartbeats 1000000
namespace Mine
/-- the script: a list of these ints, however it was made -/
def aS (ns : List Int) : AV := ⟨fun Z v => ∃ (a : Addr) (o : Obj) (vs : List Value) (n : Nat), v = .ref a ∧ Z a = some o ∧ o.cls = .type "list" ∧ o.data = .seq vs.toArray n ∧ IntsAre vs ns ∧ vs.length ≤ sizeLine, fun hz ⟨a, o, vs, n, e, h, r⟩ => ⟨a, o, vs, n, e, hz _ _ h, r⟩⟩
section
variable {g : Gd} {r : Frm} {ρ : Loc} {Z : Zp} {O : Own} {k : Nat} {ns : List Int}
theorem subCutS {value : Expr} {l u : Option Expr} {p : Pos} {lo hi : Option Int} (b : Nat) (hb : (pickNums ns lo hi none).length ≤ b) : SubR g k value (.Slice l u none p) (aS ns) (aSlice lo hi none) (aLb b (pickNums ns lo hi none)) :=
  fun Z₁ o iv ⟨a, ob, vs, n, e1, h, hc, hd, i1, hl⟩ ⟨sl, vl, vu, vst, e2, e3, p1, p2, p3⟩ => by
    subst e1 e2
    refine (Con.frzV (vs := pick vs lo hi none) (conSubTail (T := "list") (o := .ref a) (fun s ok => ⟨_, ok.zin _ _ h, hc⟩) slot_list_getitem.lookup ⟨[.ref sl, .ref a], rfl⟩ ?_)).mono fun Z' O' v _ ⟨e1, c, e2, e3⟩ => ⟨e1, ⟨c, _, e2, e3, i1.pick lo hi none⟩, hb⟩
    intro A s Q hr ok hq
    refine wpAny_getItem_list_slice (items := vs.toArray) ⟨_, ok.zin _ _ h, hc, n, hd⟩ ⟨_, ok.zin _ _ e3, rfl, rfl⟩ p1 p2 p3 (by simp) ?_ (by simpa using hl)
    have := hq _ _ Z₁ _ (Step.pushO ok (listO (pick vs lo hi none) 0) s.toks) ⟨_, _, rfl, rfl⟩
    simpa [pick] using this
/-- range(e) -/
theorem evRange {K : Frag} {e : Expr} {pos p : Pos} {i : Int} (hK : g.K = K) (hb : nsIn K mainGlobals "range" = some none) (h1 : Ev g r ρ Z O e (aInt i))
    (hl : r.env.kindOf "range" = some .globalImplicit := by rfl) (hst : starEach [e] r.env = (false, eval e r.env) :: starEach [] r.env := by rfl) : Ev g r ρ Z O (.Call (.Name "range" p) [e] [] pos) (aRange i) :=
  opCall (f := .type "range") (as := [aInt i]) (Ev.boot hK hb bt_range (by decide) hl) Kp.type (Evs.cons h1 Evs.nil hst) (fun Z₁ vs hz hd => by
    obtain ⟨v, rfl, t, rfl⟩ := hd.one
    exact conRange) (by with_unfolding_all rfl)
theorem rangeSmall (n : Nat) (hn : n ≤ 5000) : Builtin.Range.small 0 (n : Int) 1 = true ∧ (Builtin.Range.rangeSize 0 (n : Int) 1).toNat = n := by
  constructor
  · have h0 : Builtin.Range.rangeSize 0 (n : Int) 1 = n := by
      unfold Builtin.Range.rangeSize
      rw [if_pos (by decide), Int.ediv_one]
      split <;> omega
    unfold Builtin.Range.small
    rw [h0]
    unfold Builtin.Range.rangeFitsLong
    simp
    omega
  · unfold Builtin.Range.rangeSize
    rw [if_pos (by decide), Int.ediv_one]
    split <;> omega
theorem hitRange {n : Nat} (hn : n ≤ 5000) {Z₁ : Zp} {v : Value} (h : (aRange (n : Int)).P Z₁ v) : Con g k Z₁ O (pyIter v) (ItersS g n (fun i => aInt (i : Nat)) O) := by
  obtain ⟨a, t, u, w, rfl, h⟩ := h
  obtain ⟨h1, h2⟩ := rangeSmall n hn
  have := iterRangeS (g := g) (k := k) (O := O) h h1
  rw [h2] at this
  refine this.mono fun Z' O' w hz ⟨it, o, oi, e1, e2, e3, hI, hs⟩ => ⟨it, o, oi, e1, e2, e3, ⟨fun Z₁ hz i o hi ho k => (hI.next Z₁ hz i o hi ho k).mono fun Z' O' v _ ⟨e1, x, o', e2, ⟨t, e3⟩, e4⟩ => ⟨e1, x, o', e2, ⟨t, e3.trans (by rw [Int.zero_add, Int.mul_one])⟩, e4⟩, hI.done⟩, hs⟩
/-- y = [elt for x in range(n)], of ints -/
theorem exAssignCompI {x y : String} {px py pos spos : Pos} {elt iter : Expr} {scope : Scope} {cl : List (Str × Addr)} {rest : List Stmt} {F : Flow → Loc → Zp → Own → Prop} (n b : Nat) (f : Nat → Int) (ρ' : Loc)
    (hi : Ev g r ρ Z O iter (aRange (n : Int))) (hn : n ≤ b) (hb : b ≤ 5000)
    (hρ : ∀ p ∈ ρ', p ∈ ρ ∧ r.env.kindOf (Str.ofString p.1) = some .cell ∧ (relabel scope r.env).names.lookup (Str.ofString p.1) = some .cell ∧ cl.lookup (Str.ofString p.1) = r.cells.lookup (Str.ofString p.1))
    (helt : ∀ (i : Nat) C Zs, i < n → Z.Le Zs → Ev g (cFrm r scope cl C Zs) ((x, aInt (i : Nat)) :: ρ') Zs [] elt (aInt (f i)))
    (h : Exs g r (updL y (aLb b ((List.range n).map f)) ρ) Z O rest F)
    (hsw : swapsWith (.ListComp elt [⟨.Name (Str.ofString x) px, iter, [], 0⟩] scope pos) (some (.Name (Str.ofString y) py)) spos.line r.env = pure true)
    (hclos : closureFor scope r.env = pure cl) (hcell : ∀ z ∈ scope.names, z.2 ≠ .cell) (hkind : scope.kind = .function)
    (hnames : ∀ z ∈ scope.names, z.2 = .local → scope.names.lookup z.1 = some .local) (hx : scope.names.lookup (Str.ofString x) = some .local)
    (hy : r.env.kindOf (Str.ofString y) = some .local) (hs : ∀ x, foldedSetIterable iter r.env x = pure x) :
    Exs g r ρ Z O (.Assign [.Name (Str.ofString y) py] (.ListComp elt [⟨.Name (Str.ofString x) px, iter, [], 0⟩] scope pos) spos :: rest) F := by
  have hsz : 5000 ≤ sizeLine := Nat.le_of_ble_eq_true rfl
  refine exAssignComp n (fun i => aInt (i : Nat)) (fun i => aInt (f i)) ρ' hi (fun Z₁ v hz hv => hitRange (by omega) hv) (by omega) hρ helt ?_ hsw hclos hcell hkind hnames hx hy hs
  refine Ex.weak (ρ' := updL y (aLb b ((List.range n).map f)) ρ) (fun z av hz => ?_) h
  rcases List.mem_cons.mp hz with e | hz
  · injection e with e1 e2
    subst e1 e2
    refine ⟨_, .head _, fun Z₁ v hz ⟨a, vs, m, e1, e2, e3, e4⟩ => ⟨⟨a, vs, e1, ⟨m, e2⟩, ?_⟩, by rw [List.length_map, List.length_range]; exact hn⟩⟩
    have key : ∀ (vs : List Value) (n : Nat) (f : Nat → Int), vs.length = n → (∀ (j : Nat) x, vs[j]? = some x → ∃ t, x = Value.int (f j) t) → IntsAre vs ((List.range n).map f) := by
      intro vs
      induction vs with
      | nil => intro n f hn _; rw [← hn]; exact .nil
      | cons v vs ih =>
        intro n f hn hj
        rw [← hn, List.length_cons, List.range_succ_eq_map, List.map_cons, List.map_map]
        obtain ⟨t, e⟩ := hj 0 v rfl
        rw [e]
        exact .cons _ _ (ih _ _ rfl fun j x hx => hj (j + 1) x (by simpa using hx))
    exact key vs n f e3 e4
  · exact ⟨av, .tail _ hz, fun _ _ _ h => h⟩
end
end Mine
end
section
open PySem PySem.W PyProof.Rows PySem.Calls
set_option Elab.async false
set_option maxRecDepth 100000
set_option maxHeartbeats 1000000
set_option linter.unusedVariables false
namespace Mine
/-! isinstance of a range against an own class -/
theorem rg_entry : entryFor table "range.__getattribute__" = some Builtin.«object.__getattribute__» :=
  entryFor_alias (id' := "object.__getattribute__") (by kernel_rfl) (by first | rfl | decide +kernel) (by decide +kernel) (by kernel_rfl)
theorem rg_class : typeLookup (.type "range") "__class__" = pure (some (.builtin "object.__class__")) := by rw [typeLookup_type, builtinLookup_eq_fast]; kernel_rfl
theorem rg_owner : isSubtype (.type "range") (.type (".".intercalate ("object.__class__".cutAt '.').dropLast)) = pure true := by
  rw [F.owner_object_class, isSubtype_type]; kernel_rfl
section
variable {prog : Program} {w : World} {A : Around} {E : Value → Shared → Prop} {h : Heap} {g : Array GenState} {d : Drawn} {t : Nat} {os : OsState} {a : Addr} {o : Obj}
theorem rg_get {R : Result → Shared → Prop} (hx : h.get? a = some o) (hc : o.cls = .type "range") (hq : R (.ok (.ret (.type "range"))) ⟨h, g, d, t, os⟩) :
    codeAny (model prog w) A (.call (.builtin "getset_descriptor.__get__") ⟨[.builtin "object.__class__", .ref a, .type "range"], []⟩) R ⟨h, g, d, t, os⟩ := by
  have t1 : (⟨h, g, d, t, os⟩ : Shared).TypeIs (.ref a) "range" := ⟨_, hx, hc⟩
  have t2 : (⟨h, g, d, t, os⟩ : Shared).TypeIs (.builtin "object.__class__") "getset_descriptor" := F.typeOf_object_class
  have f1 := rg_owner
  refine codeAny_call_builtin F.slot_gs_get.plain F.entry_gs_get (F.slot_gs_get.check _ _ _ _ _ _ _ _ t2 (F.args_gs_get _ _ _) ?_)
  repeat (any_goals (first | assumption | wp_step))
  refine ⟨Code.quiet_builtin _ (by decide +kernel), codeAny_builtin F.entry_object_class ?_⟩
  repeat (any_goals (first | assumption | wp_step))
theorem rg_tree {tk : Tok} {Q : Fin → Shared → Prop} (hx : h.get? a = some o) (hc : o.cls = .type "range") (hq : Q (.done (.ret (.type "range"))) ⟨h, g, d, t, os⟩) :
    wpAny (model prog w) A (Builtin.«object.__getattribute__» ⟨[.ref a, .str "__class__" tk], []⟩) Q E ⟨h, g, d, t, os⟩ := by
  have t1 : (⟨h, g, d, t, os⟩ : Shared).TypeIs (.ref a) "range" := ⟨_, hx, hc⟩
  have t2 : (⟨h, g, d, t, os⟩ : Shared).TypeIs (.builtin "object.__class__") "getset_descriptor" := F.typeOf_object_class
  have f1 := rg_class
  have f2 := F.typeOf_object_class
  have f3 := F.slot_gs_get.lookup
  have f4 := F.slot_gs_set.lookup
  repeat (any_goals (first | assumption | wp_step))
  refine rg_get hx hc ?_
  repeat (any_goals (first | assumption | wp_step))
theorem rg_by {tk : Tok} {Q : Value → Shared → Prop} (hx : h.get? a = some o) (hc : o.cls = .type "range") (hq : Q (.type "range") ⟨h, g, d, t, os⟩) : wpAny (model prog w) A (getAttrBy (.ref a) (.str "__class__" tk) false) Q E ⟨h, g, d, t, os⟩ := by
  have t1 : (⟨h, g, d, t, os⟩ : Shared).TypeIs (.ref a) "range" := ⟨_, hx, hc⟩
  have f1 := F.slot_range_getattribute.lookup
  have f2 := F.slot_range_getattribute.bind (.ref a)
  repeat (any_goals (first | assumption | wp_step))
  refine codeAny_call_builtin F.slot_range_getattribute.plain rg_entry (F.slot_range_getattribute.check _ _ _ _ _ _ _ _ t1 (F.args_range_getattribute_2 _ _) (rg_tree hx hc ?_))
  repeat (any_goals (first | assumption | wp_step))
end
theorem range_cls {a : Addr} {prog : Program} {w : World} {A : Around} {E : Value → Shared → Prop} {Q : Option Value → Shared → Prop} {s : Shared} (p : ∃ o, s.heap.get? a = some o ∧ o.cls = .type "range") (h : Q (some (.type "range")) { s with toks := s.toks + 1 }) :
    wpAny (model prog w) A (getAttr? (.ref a) "__class__") Q E s := by
  obtain ⟨o, hx, hc⟩ := p
  obtain ⟨hh, g, d, t, os⟩ := s
  unfold getAttr? getAttrBy?
  repeat (any_goals (first | assumption | with_reducible apply rg_by hx hc | wp_step))
theorem intsOf : ∀ (vs : List Value) (n : Nat) (f : Nat → Int), vs.length = n → (∀ (j : Nat) x, vs[j]? = some x → ∃ t, x = Value.int (f j) t) → IntsAre vs ((List.range n).map f) := by
  intro vs
  induction vs with
  | nil => intro n f hn _; rw [← hn]; exact .nil
  | cons v vs ih =>
    intro n f hn hj
    rw [← hn, List.length_cons, List.range_succ_eq_map, List.map_cons, List.map_map]
    obtain ⟨t, e⟩ := hj 0 v rfl
    rw [e]
    exact .cons _ _ (ih _ _ rfl fun j x hx => hj (j + 1) x (by simpa using hx))
section
variable {g : Gd} {K : Frag} {C a : Addr} {k : Nat} {Z : Zp} {O : Own} {x b c : Int} {t u v : Tok}
theorem conIsiR (hK : g.K = K) (hn : isNotIn K "range" C = true) (h : At Z O a (rangeO x b c t u v)) : Con g k Z O (call (.builtin "isinstance") [.ref a, .ref C]) (fun Z' O' v => Z' = Z ∧ O' = O ∧ v = .bool false) := by
  subst hK
  intro A s Q hr ok hq
  have ho := h.get ok
  exact isn_call (P := fun hh => ∃ o, hh.get? a = some o ∧ o.cls = .type "range") ok.K_in (fun M => (Looks.ld ho).andThen .now) hn (by intro e; cases e) ⟨_, ho, rfl⟩ (fun p q => range_cls p q) (hq _ _ Z O (Step.refl ok) ⟨rfl, rfl, rfl⟩)
/-- list(range(n)) -/
theorem conListRange {n : Nat} (h : At Z O a (rangeO 0 (n : Int) 1 t u v)) (hn : n ≤ 5000) : Con g k Z O (call (.type "list") [.ref a]) (fun Z' O' v => ∃ d vs m, v = .ref d ∧ O' = (d, listO vs m) :: O ∧ IntsAre vs ((List.range n).map fun i : Nat => (i : Int))) := by
  intro A s Q hr ok hq
  obtain ⟨h1, h2⟩ := rangeSmall n hn
  have hsz : Builtin.Range.rangeSize 0 (n : Int) 1 = n := by
    unfold Builtin.Range.rangeSize
    rw [if_pos (by decide), Int.ediv_one]
    split <;> omega
  refine call_list_range hr.1 (h.get ok) h1 hsz (by omega) fun h' tk acc c' hk hnew hit => ?_
  have hsn : s.heap.get? s.heap.objs.size = none := by
    cases hz : s.heap.get? s.heap.objs.size with
    | none => rfl
    | some o' => exact absurd (Heap.lt_size hz) (Nat.lt_irrefl _)
  refine hq _ _ Z ((s.heap.objs.size, listO acc.toList c') :: O) ?_ ⟨_, acc.toList, c', rfl, rfl, ?_⟩
  · exact {
      le := .refl _
      zin := fun x o e => hk x o (ok.zin x o e)
      keep := fun x o e _ => hk x o e
      new := fun x o e e0 => by rw [e] at e0; cases e0
      own := fun p hp => by
        rcases List.mem_cons.mp hp with rfl | hp
        · refine ⟨by simpa using hnew, ?_, .inl hsn⟩
          show Z s.heap.objs.size = none
          cases hz : Z s.heap.objs.size with
          | none => rfl
          | some o' => rw [ok.zin _ _ hz] at hsn; cases hsn
        · exact ⟨hk _ _ (ok.own p hp).1, (ok.own p hp).2, .inr ⟨p, hp, rfl⟩⟩
      nod := by
        rw [List.map_cons, List.nodup_cons]
        refine ⟨fun h => ?_, ok.nod⟩
        obtain ⟨p, hp, e⟩ := List.mem_map.mp h
        exact absurd (Heap.lt_size (ok.own p hp).1) (by rw [e]; exact Nat.lt_irrefl _)
      gens := rfl
      os := rfl }
  · exact intsOf acc.toList n (fun i => (i : Int)) (by rw [Array.length_toList]; exact hit.1) fun j x hx => by
      obtain ⟨t, e⟩ := hit.2 j x (by rw [← Array.getElem?_toList]; exact hx)
      exact ⟨t, by rw [e, Int.zero_add, Int.mul_one]⟩
end
end Mine
end
section
open PySem PySem.W PyProof.Rows PySem.Calls
set_option Elab.async false
set_option maxRecDepth 100000
set_option maxHeartbeats 1000000
set_option linter.unusedVariables false
namespace Mine
local macro_rules | `(tactic| walk_at "mem") => `(tactic| first | exact List.Mem.head _ | (refine List.Mem.tail _ ?_; walk_at "mem"))
local macro_rules | `(tactic| walk_at "nm") => `(tactic| (refine' Ev.name ?hm ?hd; (case hm => walk_at "mem"); (case hd => decide)))
local macro_rules | `(tactic| walk_at "sub") => `(tactic| first | exact List.forall_mem_nil _ | (refine List.forall_mem_cons.mpr ⟨?_, ?_⟩; (first | walk_at "mem" | simp); walk_at "sub"))
local macro_rules | `(tactic| walk_at "upd") => `(tactic| dsimp only [updL, List.filter, String.reduceBNe])
theorem fillK8 (w : World) : (KK w.params = KK w.params) ∧ (PySem.Challenge.rw_nc0017_01.name = PySem.Challenge.rw_nc0017_01.name) := by k_fill; exact ⟨rfl, rfl⟩
theorem mExtend (w : World) : MethK (KK w.params) C "extend" 256 := by constructor <;> k_is
theorem notList (w : World) : isNotIn (KK w.params) "list" C = true := by kernel_rfl
theorem notTup (w : World) : isNotIn (KK w.params) "tuple" C = true := by kernel_rfl
/-- what extend takes -/
def Giv (Z : Zp) (o : Addr) (ys : List Value) : Prop := PV Z C o ys ∨ (∃ n, Z o = some (listO ys n)) ∨ (∃ n, Z o = some (tupO ys n))
theorem Giv.le {Z Z' : Zp} {o : Addr} {ys : List Value} (hz : Z.Le Z') : Giv Z o ys → Giv Z' o ys
  | .inl h => .inl (h.le hz)
  | .inr (.inl ⟨n, h⟩) => .inr (.inl ⟨n, hz _ _ h⟩)
  | .inr (.inr ⟨n, h⟩) => .inr (.inr ⟨n, hz _ _ h⟩)
section
variable {g : Gd} (hK : g.K = KK g.w.params)
include hK
/-- what extend takes, a range too -/
def GivQ (Z : Zp) (o : Addr) (Qy : List Value → Prop) : Prop := (∃ ys, Giv Z o ys ∧ Qy ys) ∨ (∃ (n : Nat) (t u w : Tok), Z o = some (rangeO 0 (n : Int) 1 t u w) ∧ n ≤ 5000 ∧ ∀ ys, IntsAre ys ((List.range n).map fun i : Nat => (i : Int)) → Qy ys)
omit hK in
theorem notRange (w : World) : isNotIn (KK w.params) "range" C = true := by kernel_rfl
/-- extend, with what becomes of the leaves -/
theorem extend_gen {Z : Zp} {O : Own} {a o t root : Addr} {ls : List Addr} {vss : List (List Value)} {tl : List Value} {h : Nat} {Qy : List Value → Prop} (v : Vec Z C a ls vss t tl h root) (ho : GivQ Z o Qy) (hQ : ∀ ys, Qy ys → 32 * ls.length + tl.length + ys.length ≤ capV) :
    Con g 24 Z O (call (.ref 256) [.ref a, .ref o]) (fun Z' O' w => O' = O ∧ ∃ ys, Qy ys ∧ ((ys = [] ∧ w = .ref a) ∨ (ys ≠ [] ∧ ∃ b ls' vss' t' tl' h' root', w = .ref b ∧ Vec Z' C b ls' vss' t' tl' h' root' ∧ vss'.flatten ++ tl' = vss.flatten ++ tl ++ ys ∧
      ((tl.length < 32 ∧ ∃ more, ls' = ls ++ more) ∨ (tl.length = 32 ∧ ∃ more, ls' = ls ++ [t] ++ more))))) := by
  have hcap2 : capV + 64 ≤ sizeLine := by decide
  obtain ⟨d, t1, t2, t3, hobj, hd⟩ := v.obj
  refine ConC.con (conDef (k := 23) (bs := [("self", .ref a), ("obj", .ref o)]) [("self", aVal (.ref a)), ("obj", aVal (.ref o))] ⟨rfl, rfl, rfl, rfl, trivial⟩ hK (by k_is) (by k_is) (fun s _ => BindsTo.of_eq rfl) (by rfl) (by simp) (by rfl) rfl rfl rfl ?_)
  intro L A gs os
  refine exAssignO (P := fun Z' O' w => ∃ d' ys m, w = .ref d' ∧ O' = (d', listO ys m) :: O ∧ Qy ys) ?_ (fun Z₁ O₁ v₁ hz1 ⟨dl, ys, ml, e1, e2, hqy⟩ => ?_)
  · rcases ho with ⟨ys, ho, hqy⟩ | ⟨n, t', u', w', hr, hn, hqy⟩
    · have hys : ys.length ≤ sizeLine := by have := hQ ys hqy; omega
      refine Op.mono (P := fun Z' O' v => ∃ a n, v = .ref a ∧ O' = (a, listO ys n) :: O) ?_ fun Z' O' v _ ⟨d', m, e1, e2⟩ => ⟨d', ys, m, e1, e2, hqy⟩
      rcases ho with hv | ⟨n, hl⟩ | ⟨n, ht⟩
      · obtain ⟨ls2, vss2, t2', tl2, h2, root2, v2, e2⟩ := id hv
        obtain ⟨d2, s1, s2, s3, hobj2, hd2⟩ := v2.obj
        refine opIte (b := true) (Tst.of (opCall (f := .builtin "isinstance") (Ev.boot hK (by k_is) bt_isinstance) Kp.builtin (Evs.cons (by walk_at "nm") (Evs.cons (Ev.glob hK (by k_is)) Evs.nil)) (fun Z₁ ws hz hds => ?_)) TruR.bool) (fun _ => ?_) (fun h => by cases h)
        · obtain ⟨v1, v2, rfl, e1, e2⟩ := hds.two
          obtain rfl : v1 = .ref o := e1
          obtain rfl : v2 = .ref C := e2
          exact (conIsiT hK (.inl (hz _ _ hobj2))).mono fun Z' O' v _ ⟨_, e1, e2⟩ => ⟨e1, e2⟩
        · refine opMeth (f := .ref 176) (by walk_at "nm") (fun Z₂ ov hz hov => ?_) (Kp.own hK (by k_is)) Evs.nil (fun Z₂ ov ws hz2 hov hds => ?_)
          · obtain rfl : ov = .ref o := hov
            exact conMeth hK (mTolist g.w) (.inl (hz _ _ hobj2)) (.inl (hz _ _ hd2))
          · obtain rfl : ov = .ref o := hov
            obtain rfl := hds.nil
            exact (tolist_ok hK (hv.le hz2)).room (Nat.le_of_ble_eq_true rfl)
      · refine opIte (b := false) (Tst.of (opCall (f := .builtin "isinstance") (Ev.boot hK (by k_is) bt_isinstance) Kp.builtin (Evs.cons (by walk_at "nm") (Evs.cons (Ev.glob hK (by k_is)) Evs.nil)) (fun Z₁ ws hz hds => ?_)) TruR.bool) (fun h => by cases h) (fun _ => ?_)
        · obtain ⟨v1, v2, rfl, e1, e2⟩ := hds.two
          obtain rfl : v1 = .ref o := e1
          obtain rfl : v2 = .ref C := e2
          exact (conIsiL hK (notList g.w) (.inl (hz _ _ hl))).mono fun Z' O' v _ ⟨_, e1, e2⟩ => ⟨e1, e2⟩
        · refine opCall (f := .type "list") (Ev.boot hK (by k_is) bt_list) Kp.type (Evs.cons (by walk_at "nm") Evs.nil) (fun Z₁ ws hz hds => ?_)
          obtain ⟨v1, rfl, e1⟩ := hds.one
          obtain rfl : v1 = .ref o := e1
          exact (conListOf (.inl rfl) (.inl (hz _ _ hl)) rfl rfl hys).mono fun Z' O' v _ ⟨a, n, e1, _, e2⟩ => ⟨a, n, e1, e2⟩
      · refine opIte (b := false) (Tst.of (opCall (f := .builtin "isinstance") (Ev.boot hK (by k_is) bt_isinstance) Kp.builtin (Evs.cons (by walk_at "nm") (Evs.cons (Ev.glob hK (by k_is)) Evs.nil)) (fun Z₁ ws hz hds => ?_)) TruR.bool) (fun h => by cases h) (fun _ => ?_)
        · obtain ⟨v1, v2, rfl, e1, e2⟩ := hds.two
          obtain rfl : v1 = .ref o := e1
          obtain rfl : v2 = .ref C := e2
          exact (conIsiTup hK (notTup g.w) (.inl (hz _ _ ht))).mono fun Z' O' v _ ⟨_, e1, e2⟩ => ⟨e1, e2⟩
        · refine opCall (f := .type "list") (Ev.boot hK (by k_is) bt_list) Kp.type (Evs.cons (by walk_at "nm") Evs.nil) (fun Z₁ ws hz hds => ?_)
          obtain ⟨v1, rfl, e1⟩ := hds.one
          obtain rfl : v1 = .ref o := e1
          exact (conListOf (.inr rfl) (.inl (hz _ _ ht)) rfl rfl hys).mono fun Z' O' v _ ⟨a, n, e1, _, e2⟩ => ⟨a, n, e1, e2⟩
    · refine opIte (b := false) (Tst.of (opCall (f := .builtin "isinstance") (Ev.boot hK (by k_is) bt_isinstance) Kp.builtin (Evs.cons (by walk_at "nm") (Evs.cons (Ev.glob hK (by k_is)) Evs.nil)) (fun Z₁ ws hz hds => ?_)) TruR.bool) (fun h => by cases h) (fun _ => ?_)
      · obtain ⟨v1, v2, rfl, e1, e2⟩ := hds.two
        obtain rfl : v1 = .ref o := e1
        obtain rfl : v2 = .ref C := e2
        exact (conIsiR hK (notRange g.w) (.inl (hz _ _ hr))).mono fun Z' O' v _ ⟨_, e1, e2⟩ => ⟨e1, e2⟩
      · refine opCall (f := .type "list") (Ev.boot hK (by k_is) bt_list) Kp.type (Evs.cons (by walk_at "nm") Evs.nil) (fun Z₁ ws hz hds => ?_)
        obtain ⟨v1, rfl, e1⟩ := hds.one
        obtain rfl : v1 = .ref o := e1
        exact (conListRange (.inl (hz _ _ hr)) hn).mono fun Z' O' v _ ⟨d', vs, m, e1, e2, hi⟩ => ⟨d', vs, m, e1, e2, hqy vs hi⟩
  subst e1 e2
  have hc := hQ ys hqy
  have hys : ys.length ≤ sizeLine := by omega
  refine Ex.frz fun Z₂ hz2 hdl => ?_
  have hzz := hz1.trans hz2
  have v := v.le hzz
  replace hobj := hzz _ _ hobj
  replace hd := hzz _ _ hd
  refine Ex.weak (ρ' := [("l", aVals ys), ("self", aVal (.ref a)), ("obj", aVal (.ref o))]) (fun y av hy => ?_) ?_
  · simp only [List.mem_cons, List.not_mem_nil, or_false, Prod.mk.injEq] at hy
    rcases hy with ⟨rfl, rfl⟩ | ⟨rfl, rfl⟩ | ⟨rfl, rfl⟩
    · exact ⟨_, .head _, fun Z₃ w hz3 e => ⟨dl, e, ml, hz3 _ _ hdl⟩⟩
    · exact ⟨aVal (.ref a), by simp [updL], fun _ _ _ e => e⟩
    · exact ⟨aVal (.ref o), by simp [updL], fun _ _ _ e => e⟩
  refine Ex.mono (F := fun fl ρ' Z' O' => O' = O ∧ ((ys = [] ∧ retOf fl = .ref a) ∨ (ys ≠ [] ∧ ∃ b ls' vss' t' tl' h' root', retOf fl = .ref b ∧ Vec Z' C b ls' vss' t' tl' h' root' ∧ vss'.flatten ++ tl' = vss.flatten ++ tl ++ ys ∧
      ((tl.length < 32 ∧ ∃ more, ls' = ls ++ more) ∨ (tl.length = 32 ∧ ∃ more, ls' = ls ++ [t] ++ more))))) ?_ fun fl ρ' Z' O' _ ⟨e, p⟩ => ⟨e, ys, hqy, p⟩
  refine exIf (Tst.of (by walk_at "nm") (truVals hys)) (fun hb => ?_) (fun hb => ?_)
  · cases ys with
    | nil => simp at hb
    | cons y ys =>
      refine exAssignO (P := fun Z' O' w => ∃ b ls' vss' t' tl' h' root', w = .ref b ∧ OVec C O (32 * (ls'.length : Nat)) b ls' vss' t' tl' h' root' Z' O' ∧
        ((ls' = ls ∧ vss' = vss ∧ tl' = tl ++ [y] ∧ tl.length < 32) ∨ (ls' = ls ++ [t] ∧ vss' = vss ++ [tl] ∧ tl' = [y] ∧ tl.length = 32)))
        (opMeth (f := .ref 221) (by walk_at "nm") (fun Z₂ ov hz hov => ?_) (Kp.own hK (by k_is)) (Evs.cons (evItemV (x := y) (by walk_at "nm") Ev.int (by decide) (by decide) rfl) Evs.nil) (fun Z₂ ov ws hz2 hov hds => ?_))
        (fun Z₁ O₁ w hz1 pk => ?_)
      · obtain rfl : ov = .ref a := hov
        exact conMeth hK (mAppend g.w) (.inl (hz _ _ hobj)) (.inl (hz _ _ hd))
      · obtain rfl : ov = .ref a := hov
        obtain ⟨v1, rfl, e1⟩ := hds.one
        obtain rfl : v1 = y := e1
        exact (append_ok hK (v.le hz2) (by simp at hc; omega)).room (Nat.le_of_ble_eq_true rfl)
      obtain ⟨b, ls', vss', t', tl', h', root', e1, ov', hcase⟩ := pk
      subst e1
      walk_at "upd"
      obtain ⟨d', s1, s2, s3, m', e0, hd', rest'⟩ := id ov'
      have hlen' : 32 * ls'.length + tl'.length = 32 * ls.length + tl.length + 1 := by
        rcases hcase with ⟨rfl, rfl, rfl, _⟩ | ⟨rfl, rfl, rfl, h32⟩
        · simp; omega
        · simp; omega
      have hflat' : vss'.flatten ++ tl' = vss.flatten ++ tl ++ [y] := by
        rcases hcase with ⟨rfl, rfl, rfl, _⟩ | ⟨rfl, rfl, rfl, h32⟩
        · simp
        · simp
      refine exExpr (P := fun Z' O' => ∃ ls'' vss'' t'' tl'' h'' root'', OVec C O (32 * (ls''.length : Nat)) b ls'' vss'' t'' tl'' h'' root'' Z' O' ∧ vss''.flatten ++ tl'' = vss'.flatten ++ tl' ++ ys ∧ ∃ more, ls'' = ls' ++ more)
        (opMeth (f := .ref 249) (by walk_at "nm") (fun Z₂ ov hz hov => ?_) (Kp.own hK (by k_is)) (Evs.cons (evCutV (sp := none) (by walk_at "nm") (evSlice (PartE.some Ev.int) PartE.none PartE.none) (by simp) (by simpa using hys)) Evs.nil) (fun Z₂ ov ws hz2 hov hds => ?_))
        (fun Z₂ O₂ hz2 pk => ?_)
      · obtain rfl : ov = .ref b := hov
        exact conMeth hK (mMutExt g.w) (.inr (by rw [e0]; exact .head _)) (.inl (hz _ _ hd'))
      · obtain rfl : ov = .ref b := hov
        obtain ⟨v1, rfl, sq, rfl, hsq⟩ := hds.one
        have hpk : pick (y :: ys) (some 1) none none = ys := pick_from (y :: ys) 1
        rw [hpk] at hsq
        refine ((mutext_ok hK (off := 32 * (ls'.length : Nat)) (t := t') (root := root') (h := h') ?_ hsq (by simp at hc; omega)).room (Nat.le_of_ble_eq_true rfl))
        obtain ⟨r1, r2, r3, r4, r5, r6⟩ := rest'
        exact ⟨d', s1, s2, s3, m', e0, hz2 _ _ hd', r1.le hz2, r2, r3.le hz2, r4, r5, r6⟩
      · obtain ⟨ls'', vss'', t'', tl'', h'', root'', ov'', hcon, more, hmore⟩ := pk
        obtain ⟨d2, u1, u2, u3, m2, e2, hd2, r1, r2, r3, r4, r5, r6⟩ := ov''
        subst e2
        refine Ex.frz fun Z₃ hz3 hb3 => Ex.frz fun Z₄ hz4 hb4 => exRetEv (by walk_at "nm") fun Z₅ v5 hz5 e5 => ⟨rfl, .inr ⟨by simp, b, ls'', vss'', t'', tl'', h'', root'', e5, ?_, ?_, ?_⟩⟩
        · have hz35 := hz3.trans (hz4.trans hz5)
          exact OVec.vec rfl (hz5 _ _ (hz4 _ _ hb3)) (hz5 _ _ hb4) (hz35 _ _ hd2) (r1.le hz35) r2 (r3.le hz35) r4 r5 r6
        · rw [hcon, hflat']; simp
        · rcases hcase with ⟨rfl, _, _, h1⟩ | ⟨rfl, _, _, h1⟩
          · exact .inl ⟨h1, more, hmore⟩
          · exact .inr ⟨h1, more, hmore⟩
  · cases ys with
    | cons y ys => simp at hb
    | nil => exact exRetEv (by walk_at "nm") fun Z₅ v5 hz5 e5 => ⟨rfl, .inl ⟨rfl, e5⟩⟩
theorem extend_fine {Z : Zp} {O : Own} {a o t root : Addr} {ls : List Addr} {vss : List (List Value)} {tl ys : List Value} {h : Nat} (v : Vec Z C a ls vss t tl h root) (ho : Giv Z o ys) (hc : 32 * ls.length + tl.length + ys.length ≤ capV) :
    Con g 24 Z O (call (.ref 256) [.ref a, .ref o]) (fun Z' O' w => O' = O ∧ ((ys = [] ∧ w = .ref a) ∨ (ys ≠ [] ∧ ∃ b ls' vss' t' tl' h' root', w = .ref b ∧ Vec Z' C b ls' vss' t' tl' h' root' ∧ vss'.flatten ++ tl' = vss.flatten ++ tl ++ ys ∧
      ((tl.length < 32 ∧ ∃ more, ls' = ls ++ more) ∨ (tl.length = 32 ∧ ∃ more, ls' = ls ++ [t] ++ more))))) :=
  (extend_gen hK (Qy := fun y => y = ys) v (.inl ⟨ys, ho, rfl⟩) fun y e => by rw [e]; exact hc).mono fun Z' O' w _ ⟨e, y, e2, p⟩ => by subst e2; exact ⟨e, p⟩
theorem extend_ok {Z : Zp} {O : Own} {a o : Addr} {xs ys : List Value} (v : PV Z C a xs) (ho : Giv Z o ys) (hc : xs.length + ys.length ≤ capV) :
    Con g 24 Z O (call (.ref 256) [.ref a, .ref o]) (fun Z' O' w => O' = O ∧ ∃ b, w = .ref b ∧ PV Z' C b (xs ++ ys)) := by
  obtain ⟨ls, vss, t, tl, h, root, v, rfl⟩ := v
  refine (extend_fine hK v ho (by rw [List.length_append, v.leaves.flat] at hc; exact hc)).mono fun Z' O' w hz ⟨e, hcase⟩ => ⟨e, ?_⟩
  rcases hcase with ⟨rfl, e⟩ | ⟨_, b, ls', vss', t', tl', h', root', e, v', hcon, _⟩
  · exact ⟨a, e, ls, vss, t, tl, h, root, v.le hz, by simp⟩
  · exact ⟨b, e, ls', vss', t', tl', h', root', v', hcon.symm⟩
end
end Mine
end
section
open PySem PySem.W PyProof.Rows PySem.Calls
set_option Elab.async false
set_option maxRecDepth 100000
set_option maxHeartbeats 2000000
set_option linter.unusedVariables false
namespace Mine
def Zp.unset (Z : Zp) (a : Addr) : Zp := fun b => if b = a then none else Z b
theorem Zp.unset_self (Z : Zp) (a : Addr) : (Z.unset a) a = none := if_pos rfl
theorem Zp.unset_ne (Z : Zp) {a b : Addr} (h : b ≠ a) : (Z.unset a) b = Z b := if_neg h
theorem Zp.unset_some {Z : Zp} {a b : Addr} {o : Obj} (h : (Z.unset a) b = some o) : b ≠ a ∧ Z b = some o := by
  by_cases e : b = a
  · subst e; rw [Zp.unset_self] at h; cases h
  · rw [Zp.unset_ne _ e] at h; exact ⟨e, h⟩
section
variable {α : Type} {g : Gd} {k : Nat} {Z : Zp} {O : Own} {a b : Addr} {o : Obj}
end
section
variable {g : Gd} {k : Nat} {Z : Zp} {O : Own} {a b : Addr} {vs : List Value} {n : Nat} {x : Int} {u : Tok}
/-- n copies of a row -/
abbrev reps (m : Nat) (ns : List Int) : List Int := (List.replicate m ns).flatten
variable {ns : List Int} {c : Nat}
end
section
variable {g : Gd} {K : Frag} {C a d f : Addr} {k : Nat} {Z : Zp} {O : Own} {sl : List (Option Value)} {od : Obj} {x : Int} {u : Tok}
end
end Mine
end
section
open PySem PySem.W PyProof.Rows PySem.Calls
set_option Elab.async false
set_option maxRecDepth 100000
set_option linter.unusedVariables false
namespace Mine
theorem Kids.get {N : Addr → List Addr → Prop} {w : Nat} (hw : 0 < w) : ∀ {cs ls : List Addr} {q : Nat}, Kids N w cs ls → q * w < ls.length → ∃ c, cs[q]? = some c ∧ N c ((ls.drop (q * w)).take w)
  | [], ls, q, h, h1 => by rw [show ls = [] from h] at h1; exact absurd h1 (Nat.not_lt_zero _)
  | c :: cs, ls, 0, ⟨_, h1, _⟩, _ => ⟨c, rfl, by rw [Nat.zero_mul, List.drop_zero]; exact h1⟩
  | c :: cs, ls, q + 1, ⟨_, _, h2⟩, h3 => by
    have e : (q + 1) * w = q * w + w := by rw [Nat.add_mul]; omega
    obtain ⟨d, e1, e2⟩ := Kids.get (q := q) hw h2 (by rw [List.length_drop]; omega)
    refine ⟨d, by simpa using e1, ?_⟩
    rw [List.drop_drop] at e2
    rwa [e, Nat.add_comm]
theorem Kids.setAt {N : Addr → List Addr → Prop} {w : Nat} {b t : Addr} : ∀ {cs ls : List Addr} {q p : Nat}, Kids N w cs ls → p < w → q * w + p < ls.length → N b (((ls.drop (q * w)).take w).set p t) → Kids N w (cs.set q b) (ls.set (q * w + p) t)
  | [], ls, q, p, h, _, h1, _ => by rw [show ls = [] from h] at h1; exact absurd h1 (Nat.not_lt_zero _)
  | c :: cs, ls, 0, p, ⟨hne, h1, h2⟩, hp, _, hb => by
    rw [Nat.zero_mul, Nat.zero_add]
    rw [Nat.zero_mul, List.drop_zero] at hb
    refine ⟨by simpa using hne, ?_, ?_⟩
    · rw [List.take_set]; exact hb
    · rw [List.drop_set, if_pos hp]; exact h2
  | c :: cs, ls, q + 1, p, ⟨hne, h1, h2⟩, hp, h3, hb => by
    have e : (q + 1) * w + p = w + (q * w + p) := by rw [Nat.add_mul]; omega
    have e' : (q + 1) * w = q * w + w := by rw [Nat.add_mul]; omega
    refine ⟨by simpa using hne, ?_, ?_⟩
    · rw [List.take_set, e, List.set_eq_of_length_le (by rw [List.length_take]; omega)]; exact h1
    · rw [List.drop_set, e, if_neg (by omega), Nat.add_sub_cancel_left]
      refine Kids.setAt h2 hp (by rw [List.length_drop]; omega) ?_
      rw [List.drop_drop, Nat.add_comm w, ← e']; exact hb
theorem subIdx2 {j h : Nat} {i : Int} (hi : i = 5 * ((h : Int) + 1)) : Builtin.bitAnd ((j : Int).fdiv (2 ^ i.toNat)) 31 = ((j / (32 * 32 ^ h) % 32 : Nat) : Int) := by
  have e1 : i.toNat = 5 * (h + 1) := by omega
  rw [e1, show (31 : Int) = 2 ^ 5 - 1 from rfl, kbt_mask]
  have e3 : ((2 : Int) ^ (5 * (h + 1))) = ((32 * 32 ^ h : Nat) : Int) := by
    rw [Int.pow_mul]
    push_cast
    rw [Int.pow_succ, Int.mul_comm]
  rw [e3, show ((2 : Int) ^ 5) = ((32 : Nat) : Int) from rfl]
  rw [Int.fdiv_eq_ediv_of_nonneg _ (Int.natCast_nonneg _)]
  rw [← Int.natCast_ediv, ← Int.natCast_emod]
theorem lowIdx {j : Nat} : Builtin.bitAnd (j : Int) 31 = ((j % 32 : Nat) : Int) := by
  rw [show (31 : Int) = 2 ^ 5 - 1 from rfl, kbt_mask, show ((2 : Int) ^ 5) = ((32 : Nat) : Int) from rfl, ← Int.natCast_emod]
/-- a node with one leaf exchanged -/
def aSetN (h : Nat) (ls : List Addr) (p : Nat) (vals : List Value) : AV := ⟨fun Z v => ∃ b l, v = .ref b ∧ NodeZ Z h b (ls.set p l) ∧ LZ Z l vals, fun hz ⟨b, l, e, x, y⟩ => ⟨b, l, e, x.le hz, y.le hz⟩⟩
theorem Leaves.get {Z : Zp} : ∀ {ls vss}, Leaves Z ls vss → ∀ p, p < ls.length → ∃ l vs, ls[p]? = some l ∧ vss[p]? = some vs ∧ LZ Z l vs ∧ vs.length = 32
  | [], _, _, p, h => absurd h (Nat.not_lt_zero _)
  | l :: _, _, ⟨vs, r, a, b, c, d⟩, 0, _ => ⟨l, vs, rfl, by rw [a]; rfl, b, c⟩
  | _ :: _, _, ⟨vs, r, a, b, c, d⟩, p + 1, h => by
    obtain ⟨l', vs', h1, h2, h3, h4⟩ := Leaves.get d p (by simpa using h)
    exact ⟨l', vs', by simpa using h1, by rw [a]; simpa using h2, h3, h4⟩
theorem Leaves.setAt {Z : Zp} {l : Addr} {ws : List Value} (hl : LZ Z l ws) (hw : ws.length = 32) : ∀ {ls vss}, Leaves Z ls vss → ∀ p, p < ls.length → Leaves Z (ls.set p l) (vss.set p ws)
  | [], _, _, p, h => absurd h (Nat.not_lt_zero _)
  | _ :: _, _, ⟨vs, r, a, b, c, d⟩, 0, _ => ⟨ws, r, by rw [a]; rfl, hl, hw, d⟩
  | _ :: _, _, ⟨vs, r, a, b, c, d⟩, p + 1, h => ⟨vs, r.set p ws, by rw [a]; rfl, b, c, Leaves.setAt hl hw d p (by simpa using h)⟩
/-- the flat row with one place exchanged -/
theorem flat_set {x : Value} : ∀ {vss : List (List Value)} {tl : List Value} (j : Nat), (∀ vs ∈ vss, vs.length = 32) → j < 32 * vss.length →
    (vss.set (j / 32) ((vss.getD (j / 32) []).set (j % 32) x)).flatten = vss.flatten.set j x
  | [], _, j, _, h => absurd h (by simp)
  | vs :: r, tl, j, h, hj => by
    have h32 := h vs (.head _)
    by_cases hlt : j < 32
    · have e1 : j / 32 = 0 := by omega
      have e2 : j % 32 = j := by omega
      rw [e1, e2]
      simp [List.set_append, hlt, h32]
    · have e1 : j / 32 = (j - 32) / 32 + 1 := by omega
      have e2 : j % 32 = (j - 32) % 32 := by omega
      have ih := flat_set (x := x) (vss := r) (tl := tl) (j - 32) (fun vs hv => h vs (.tail _ hv)) (by simp at hj; omega)
      rw [e1, e2]
      simp only [List.set_cons_succ, List.getD_cons_succ, List.flatten_cons]
      rw [ih, List.set_append, if_neg (by omega), h32]
theorem Leaves.all32 {Z : Zp} : ∀ {ls vss}, Leaves Z ls vss → ∀ vs ∈ vss, vs.length = 32
  | [], _, e, vs, h => by rw [show _ = [] from e] at h; cases h
  | _ :: _, _, ⟨vs, r, a, b, c, d⟩, ws, h => by
    subst a
    rcases List.mem_cons.mp h with rfl | h
    · exact c
    · exact Leaves.all32 d ws h
end Mine
end
section
open PySem PySem.W PyProof.Rows PySem.Calls
set_option Elab.async false
set_option maxRecDepth 100000
set_option maxHeartbeats 1000000
set_option linter.unusedVariables false
namespace Mine
section
variable {g : Gd} {r : Frm} {ρ : Loc} {Z : Zp} {O : Own} {k : Nat}
/-- l op1 m op2 n, as a test -/
theorem Tst.chain2 {l m n : Expr} {op1 op2 : CmpOp} {pos : Pos} {a b c : AV} {p q : Bool} (h1 : Ev g r ρ Z O l a) (h2 : Ev g r ρ Z O m b) (h3 : Ev g r ρ Z O n c) (c1 : CmpR g r.k op1 a b (aBool p)) (c2 : CmpR g r.k op2 b c (aBool q))
    (hm : lastMarks [op1, op2] [m, n] = false := by with_unfolding_all rfl) : Tst g r ρ Z O (.Compare l [op1, op2] [m, n] pos) (p && q) := by
  intro B Z₁ s Q hz st hq
  refine isTrue_chain (h1 B Z₁ s _ hz st fun v s' Z' O' hz' st' ⟨e, pv⟩ => ?_) hm
  subst e
  refine test_link (h2 B Z' s' _ (hz.trans hz') st' fun v2 s2 Z2 O2 hz2 st2 ⟨e, p2⟩ => ?_)
  subst e
  refine Op.of_con (ρ := ρ) (fun Z₃ hz3 => Con.pur_beside (c1 Z₃ v v2 (a.mono (hz2.trans hz3) pv) (b.mono hz3 p2))) B Z2 s2 _ (.refl _) st2 fun v' s3 Z3 O3 hz3 st3 p' => ?_
  obtain ⟨e, e'⟩ := p'
  subst e
  obtain rfl : v' = .bool p := e'
  refine wpAny_truthy_bool ?_
  cases p with
  | false => exact hq _ s3 Z3 _ (hz'.trans (hz2.trans hz3)) st3 ⟨rfl, rfl⟩
  | true =>
    refine test_last (h3 B Z3 s3 _ (hz.trans (hz'.trans (hz2.trans hz3))) st3 fun v4 s4 Z4 O4 hz4 st4 ⟨e, p4⟩ => ?_)
    subst e
    refine Op.of_con (ρ := ρ) (fun Z₃ hz5 => Con.pur_beside (c2 Z₃ v2 v4 (b.mono (hz3.trans (hz4.trans hz5)) p2) (c.mono hz5 p4))) B Z4 s4 _ (.refl _) st4 fun v5 s5 Z5 O5 hz5 st5 p5 => ?_
    obtain ⟨e, e'⟩ := p5
    subst e
    obtain rfl : v5 = .bool q := e'
    exact wpAny_truthy_bool (hq _ s5 Z5 _ (hz'.trans (hz2.trans (hz3.trans (hz4.trans hz5)))) st5 ⟨rfl, rfl⟩)
/-- the two ways of an if meet behind it -/
theorem exIfJ {test : Expr} {body rest : List Stmt} {pos : Pos} {b : Bool} {F : Flow → Loc → Zp → Own → Prop} (ρ' : Loc) (ht : Tst g r ρ Z O test b) (h : Exs g r ρ' Z O rest F)
    (h1 : b = true → (∀ F', Exs g r ρ' Z O rest F' → Exs g r ρ Z O (body ++ rest) F')) (h2 : b = false → ∀ p ∈ ρ', p ∈ ρ) : Exs g r ρ Z O (.If test body [] pos :: rest) F :=
  exIf ht (fun e => h1 e F h) (fun e => Ex.less h (h2 e))
/-- a static method, read of its class -/
theorem conClsStat {K : Frag} {C p f : Addr} {nm : Str} {rest : List Value} {pl : Sem Bool} (hK : g.K = K) (hg : specialIn K (.ref C) "__getattribute__" = some (some (.builtin "type.__getattribute__"))) (hr : readsIn K C (.type "type") = true)
    (e : findCls K (.ref C) (.type "type") nm = some (.get (.builtin "staticmethod.__get__") (.ref p) .none (.ref C))) (hp : recIn K p "staticmethod" = some (.ref f :: rest)) : Con g k Z O (getMethod (.ref C) nm pl) (fun Z' O' fx => O' = O ∧ fx = (.ref f, [])) := by
  subst hK
  intro A s Q hro ok hq
  exact method_cls ok.K_in hg (cls_bind ok.K_in hr e (wpAny_call (sm_get (s := { s with toks := s.toks + 1 }) ok.K_in hp (handed_on rfl (hq _ _ Z O (Step.refl ok) ⟨rfl, rfl⟩)))))
/-- range(a, b, c) -/
def aRange3 (x b c : Int) : AV := ⟨fun Z v => ∃ a t u w, v = .ref a ∧ Z a = some (rangeO x b c t u w), fun hz ⟨a, t, u, w, e, h⟩ => ⟨a, t, u, w, e, hz _ _ h⟩⟩
theorem conRange3 {x b c : Int} {t u w : Tok} (hc : c ≠ 0) (hp : Builtin.divisionGoesByPylong (b - x) c = false) : Con g k Z O (call (.type "range") [.int x t, .int b u, .int c w]) (fun Z' O' v => O' = O ∧ (aRange3 x b c).P Z' v) := by
  intro A s Q hr ok hq
  exact call_range_3 hc (hq _ _ _ O (Step.push ok (rangeO x b c t u w) s.toks) ⟨rfl, _, _, _, _, rfl, Zp.set_self ..⟩) (.inl hp)
theorem evRange3 {K : Frag} {e1 e2 e3 : Expr} {pos p : Pos} {x b c : Int} (hK : g.K = K) (hb : nsIn K mainGlobals "range" = some none) (h1 : Ev g r ρ Z O e1 (aInt x)) (h2 : Ev g r ρ Z O e2 (aInt b)) (h3 : Ev g r ρ Z O e3 (aInt c)) (hc : c ≠ 0) (hp : Builtin.divisionGoesByPylong (b - x) c = false)
    (hl : r.env.kindOf "range" = some .globalImplicit := by rfl) (hst : starEach [e1, e2, e3] r.env = (false, eval e1 r.env) :: starEach [e2, e3] r.env := by rfl) (hst2 : starEach [e2, e3] r.env = (false, eval e2 r.env) :: starEach [e3] r.env := by rfl) (hst3 : starEach [e3] r.env = (false, eval e3 r.env) :: starEach [] r.env := by rfl) :
    Ev g r ρ Z O (.Call (.Name "range" p) [e1, e2, e3] [] pos) (aRange3 x b c) :=
  opCall (f := .type "range") (as := [aInt x, aInt b, aInt c]) (Ev.boot hK hb bt_range (by decide) hl) Kp.type (Evs.cons h1 (Evs.cons h2 (Evs.cons h3 Evs.nil hst3) hst2) hst) (fun Z₁ vs hz hd => by
    obtain ⟨v1, v2, v3, rfl, ⟨t, rfl⟩, ⟨u, rfl⟩, ⟨w, rfl⟩⟩ := hd.three
    exact conRange3 hc hp) (by with_unfolding_all rfl)
theorem levels (H : Nat) (hH : H ≤ 10) : Builtin.Range.small (5 * (H : Int)) 0 (-5) = true ∧ (Builtin.Range.rangeSize (5 * (H : Int)) 0 (-5)).toNat = H := by
  have : ∀ H, H ≤ 10 → Builtin.Range.small (5 * ((H : Nat) : Int)) 0 (-5) = true ∧ (Builtin.Range.rangeSize (5 * ((H : Nat) : Int)) 0 (-5)).toNat = H := by decide +kernel
  exact this H hH
theorem hitLevels {H : Nat} (hH : H ≤ 10) {Z₁ : Zp} {v : Value} (h : (aRange3 (5 * (H : Int)) 0 (-5)).P Z₁ v) : Con g k Z₁ O (pyIter v) (Iters g H (fun i => aInt (5 * (H : Int) + (i : Nat) * (-5))) O) := by
  obtain ⟨a, t, u, w, rfl, h⟩ := h
  obtain ⟨h1, h2⟩ := levels H hH
  have := iterRange (g := g) (k := k) (O := O) h h1
  rw [h2] at this
  exact this
end
end Mine
end
section
open PySem PySem.W PyProof.Rows PySem.Calls
set_option Elab.async false
set_option maxRecDepth 100000
set_option maxHeartbeats 1000000
set_option linter.unusedVariables false
namespace Mine
local macro_rules | `(tactic| walk_at "mem") => `(tactic| first | exact List.Mem.head _ | (refine List.Mem.tail _ ?_; walk_at "mem"))
local macro_rules | `(tactic| walk_at "nm") => `(tactic| (refine' Ev.name ?hm ?hd; (case hm => walk_at "mem"); (case hd => decide)))
local macro_rules | `(tactic| walk_at "sub") => `(tactic| first | exact List.forall_mem_nil _ | (refine List.forall_mem_cons.mpr ⟨?_, ?_⟩; (first | walk_at "mem" | simp); walk_at "sub"))
local macro_rules | `(tactic| walk_at "upd") => `(tactic| dsimp only [updL, List.filter, String.reduceBNe])
theorem fillK21 (w : World) : (KK w.params = KK w.params) ∧ (PySem.Challenge.rw_nc0017_01.name = PySem.Challenge.rw_nc0017_01.name) := by k_fill; exact ⟨rfl, rfl⟩
theorem kCga (w : World) : specialIn (KK w.params) (.ref C) "__getattribute__" = some (some (.builtin "type.__getattribute__")) := by k_is
theorem kCrd (w : World) : readsIn (KK w.params) C (.type "type") = true := by k_is
theorem kNodeFor (w : World) : findCls (KK w.params) (.ref C) (.type "type") "_node_for" = some (.get (.builtin "staticmethod.__get__") (.ref 206) .none (.ref C)) := by k_is
theorem kNodeFor2 (w : World) : ∃ rest, recIn (KK w.params) 206 "staticmethod" = some (.ref 204 :: rest) := ⟨_, by k_is⟩
theorem mDoSet (w : World) : MethK (KK w.params) C "_do_set" 197 := by constructor <;> k_is
/-- the node of height e above the leaf p -/
def aNodeAt (ls : List Addr) (p e : Nat) : AV := ⟨fun Z v => ∃ c, v = .ref c ∧ NodeZ Z e c ((ls.drop (p / 32 ^ e * 32 ^ e)).take (32 ^ e)), fun hz ⟨c, e, x⟩ => ⟨c, e, x.le hz⟩⟩
theorem subNode {g : Gd} {k : Nat} {ls : List Addr} {p e : Nat} {value slice : Expr} (hp : p < ls.length)
    (hs : ∀ a i u, subscripted slice false (.ref a) (.int i u) = operate [.ref a, .int i u] (getItem (.ref a) (.int i u)) := by intros; with_unfolding_all rfl) (hg : ∀ a r, letTemporaryGo value (.ref a) r = pure () := by intros; with_unfolding_all rfl) :
    SubR g k value slice (aNodeAt ls p (e + 1)) (aInt ((p / 32 ^ e % 32 : Nat) : Int)) (aNodeAt ls p e) := by
  rintro Z _ _ ⟨c, rfl, cs, ⟨n, hc⟩, hk⟩ ⟨u, rfl⟩
  have hW : 0 < 32 ^ e := Nat.pow_pos (by decide)
  rw [Nat.pow_succ] at hk
  generalize hw : 32 ^ e = w at *
  have e1 : p / (w * 32) = p / w / 32 := (Nat.div_div_eq_div_mul p w 32).symm
  rw [e1] at hk
  have h1 := Nat.div_mul_le_self p w
  have h2 := Nat.div_add_mod (p / w) 32
  have h3 := Nat.mod_lt (p / w) (show 0 < 32 by decide)
  generalize hsv : p / w = s at *
  generalize hx : s / 32 = x at *
  generalize hsub : s % 32 = sub at *
  have e2 : s * w = x * (w * 32) + sub * w := by rw [← h2, Nat.add_mul, Nat.mul_comm 32 x, Nat.mul_assoc, Nat.mul_comm 32 w]
  have e3 : sub * w + w ≤ w * 32 := by have := Nat.mul_le_mul_right w (show sub + 1 ≤ 32 by omega); rw [Nat.add_mul, Nat.mul_comm 32 w] at this; omega
  obtain ⟨b, hb, hN⟩ := hk.get (q := sub) hW (by rw [List.length_take, List.length_drop]; omega)
  refine (conItem (i := ((sub : Nat) : Int)) (x := .ref b) (.inl hc) (by omega) (by omega) (by simp [hb]) (hs _ _ _) (hg _)).mono fun Z' O' v hz ⟨_, e1, e2'⟩ => ⟨e1, b, e2', ?_⟩
  rw [hw, hsv, e2]
  rw [List.drop_take, List.take_take, List.drop_drop, Nat.min_eq_left (by omega)] at hN
  exact hN.le hz
section
variable {g : Gd} (hK : g.K = KK g.w.params)
include hK
theorem nodefor_ok {Z : Zp} {O : Own} {a t root : Addr} {ls : List Addr} {vss : List (List Value)} {tl : List Value} {h j : Nat} {tj : Tok} (v : Vec Z C a ls vss t tl h root) (hj : j < 32 * ls.length + tl.length) :
    Con g 6 Z O (call (.ref 204) [.ref a, .int j tj]) (fun Z' O' w => O' = O ∧ w = .ref ((ls ++ [t]).getD (j / 32) 0)) := by
  obtain ⟨d, t1, t2, t3, hobj, hd⟩ := v.obj
  have h32 := v.tlen
  refine ConC.con (conDef (k := 5) (bs := [("pvector_like", .ref a), ("i", .int j tj)]) [("pvector_like", aVal (.ref a)), ("i", aInt j)] ⟨rfl, rfl, rfl, ⟨_, rfl⟩, trivial⟩ hK (by k_is) (by k_is) (fun s _ => BindsTo.of_eq rfl) (by rfl) (by simp) (by rfl) rfl rfl rfl ?_)
  intro L A gs os
  refine exIf (Tst.chain2 Ev.int (by walk_at "nm") (evInt (evSlot hK (kCount g.w) (by walk_at "nm") (.inl hobj) (.inl hd) rfl)) cmpLe cmpLt) (fun _ => ?_) (fun hb => absurd hb (by simp; omega))
  refine exIf (Tst.cmp (by walk_at "nm") (evInt (evSlot hK (kOff g.w) (by walk_at "nm") (.inl hobj) (.inl hd) rfl)) cmpGe) (fun hb => ?_) (fun hb => ?_)
  · simp only [decide_eq_true_eq] at hb
    refine exRetEv (evSlot hK (kTail g.w) (by walk_at "nm") (.inl hobj) (.inl hd) rfl) fun Z' v' hz e => ⟨rfl, ?_⟩
    obtain rfl : v' = .ref t := e
    have : j / 32 = ls.length := by omega
    show Value.ref t = _
    rw [this, List.getD_eq_getElem?_getD, List.getElem?_append_right (Nat.le_refl _), Nat.sub_self]; rfl
  · simp only [decide_eq_false_iff_not] at hb
    have hp : j / 32 < ls.length := by omega
    refine exAssign (P := aNodeAt ls (j / 32) (h + 1)) (Ev.mono (evSlot hK (kRoot g.w) (by walk_at "nm") (.inl hobj) (.inl hd) rfl) fun Z' v' hz e => ⟨root, e, ?_⟩) ?_
    · have hlt : j / 32 < 32 ^ (h + 1) := Nat.lt_of_lt_of_le hp v.cap
      rw [Nat.div_eq_of_lt hlt, Nat.zero_mul, List.drop_zero, List.take_of_length_le v.cap]
      exact v.node.le hz
    walk_at "upd"
    have hshift : ((5 * ((h : Int) + 1)) : Int) = 5 * ((h + 1 : Nat) : Int) := by push_cast; rfl
    refine exForB (h + 1) (fun i => aInt (5 * ((h + 1 : Nat) : Int) + (i : Nat) * (-5))) (fun i => [("node", aNodeAt ls (j / 32) (h + 1 - i)), ("i", aInt j)]) (fun _ Z' O' => O' = O)
      (evRange3 hK (by k_is) (evInt (t := t2) (hshift ▸ evSlot hK (kShift g.w) (by walk_at "nm") (.inl hobj) (.inl hd) rfl)) Ev.int (evNeg (evInt (Ev.glob hK (by k_is)))) (by decide) ?_) (fun Z₁ v' hz1 e => hitLevels (by have := v.hmax; omega) e) (by walk_at "sub") (fun _ => by walk_at "sub") (fun Z₁ hz1 => rfl) (fun i Z' O' hz1 hi e => ?_) (fun Z' O' hz1 e => ?_)
    · have := v.hmax
      have : ∀ h, h ≤ 3 → Builtin.divisionGoesByPylong (0 - 5 * ((h + 1 : Nat) : Int)) (-5) = false := by decide +kernel
      exact this h v.hmax
    · subst e
      obtain ⟨e', he'⟩ : ∃ e', h + 1 - i = e' + 1 := ⟨h - i, by omega⟩
      have hlev : (5 * ((h + 1 : Nat) : Int) + (i : Nat) * (-5)) = 5 * ((e' : Int) + 1) := by push_cast; omega
      have hidx := subIdx2 (j := j) (h := e') (i := 5 * ((h + 1 : Nat) : Int) + (i : Nat) * (-5)) hlev
      rw [← Nat.div_div_eq_div_mul] at hidx
      refine exAssign (P := aNodeAt ls (j / 32) e') (evSub (Pa := aNodeAt ls (j / 32) (e' + 1)) (Pb := aInt ((j / 32 / 32 ^ e' % 32 : Nat) : Int)) (by rw [← he']; walk_at "nm") (by rw [← hidx]; exact Ev.bin (Ev.bin (by walk_at "nm") (by walk_at "nm") (binShr (by omega))) (evInt (Ev.glob hK (by k_is))) binAnd) (subNode hp)) ?_
      walk_at "upd"
      refine exs_nil fun Z₁ hz2 => ⟨?_, rfl⟩
      rw [show h + 1 - (i + 1) = e' from by omega]
      walk_at "sub"
    · subst e
      rw [Nat.sub_self]
      refine exRetEv (P := aNodeAt ls (j / 32) 0) (by walk_at "nm") fun Z₁ v' hz2 ⟨c, e, hN⟩ => ⟨rfl, ?_⟩
      subst e
      have hN : (ls.drop (j / 32 / 32 ^ 0 * 32 ^ 0)).take (32 ^ 0) = [c] := hN
      rw [Nat.pow_zero, Nat.div_one, Nat.mul_one] at hN
      have : (ls ++ [t]).getD (j / 32) 0 = c := by
        rw [List.getD_eq_getElem?_getD, List.getElem?_append_left hp]
        have h0 : ((ls.drop (j / 32)).take 1)[0]? = some c := by rw [hN]; rfl
        rw [List.getElem?_take_of_lt (by decide), List.getElem?_drop] at h0
        rw [show j / 32 + 0 = j / 32 from rfl] at h0
        rw [h0]; rfl
      show Value.ref c = _
      rw [this]
end
theorem fillK22 (w : World) : (KK w.params = KK w.params) ∧ (PySem.Challenge.rw_nc0017_01.name = PySem.Challenge.rw_nc0017_01.name) := by k_fill; exact ⟨rfl, rfl⟩
theorem mSet (w : World) : MethK (KK w.params) C "set" 190 := by constructor <;> k_is
section
variable {g : Gd} (hK : g.K = KK g.w.params)
include hK
/-- _do_set: the leaf that holds the place is exchanged; the place in the whole is q * 32 ^ (h + 1) + i -/
theorem doset_ok {self d : Addr} {sl : List (Option Value)} {val : Value} {j : Nat} : ∀ (h : Nat) {tj : Tok} {Z : Zp} {O : Own} {node : Addr} {ls : List Addr} {vss : List (List Value)} {lv : Int} {tk : Tok} {q r : Nat}, lv = 5 * h → h ≤ 4 →
    NodeZ Z h node ls → Leaves Z ls vss → ls.length ≤ 32 ^ h → j = q * (32 * 32 ^ h) + r → r < 32 * ls.length → At Z O self (instO C d sl) → At Z O d emptyDict →
    Con g (h + 2) Z O (call (.ref 197) [.ref self, .int lv tk, .ref node, .int j tj, val]) (fun Z' O' v => O' = O ∧ (aSetN h ls (r / 32) ((vss.getD (r / 32) []).set (r % 32) val)).P Z' v) := by
  intro h
  induction h with
  | zero =>
    intro tj Z O node ls vss lv tk q r hlv hh hn hl hc hj hr hs hd
    obtain rfl : ls = [node] := hn
    obtain ⟨vs, rr, rfl, ⟨m, hm⟩, hlen, hr'⟩ := hl
    obtain rfl : rr = [] := hr'
    have hr32 : r < 32 := by simpa using hr
    have hsz : vs.length ≤ sizeLine := by have : 32 ≤ sizeLine := by decide
                                          omega
    have hj32 : j % 32 = r := by rw [hj, Nat.pow_zero, Nat.mul_one]; omega
    refine ConC.con (conDef (k := 1) (bs := [("self", .ref self), ("level", .int lv tk), ("node", .ref node), ("i", .int j tj), ("val", val)]) [("self", aVal (.ref self)), ("level", aInt lv), ("node", aVal (.ref node)), ("i", aInt j), ("val", aVal val)] ⟨rfl, rfl, rfl, ⟨_, rfl⟩, rfl, rfl, rfl, ⟨_, rfl⟩, rfl, rfl, trivial⟩ hK (by k_is) (by k_is) (fun s _ => BindsTo.of_eq rfl) (by rfl) (by simp) (by rfl) rfl rfl rfl ?_)
    intro L A gs os
    refine exAssignO (P := NewL' O vs) (opCall (f := .type "list") (Ev.boot hK (by k_is) bt_list) Kp.type (Evs.cons (by walk_at "nm") Evs.nil) (fun Z₁ ws hz hds => ?_)) (fun Z₁ O₁ v₁ hz1 pk => ?_)
    · obtain ⟨v1, rfl, e1⟩ := hds.one
      obtain rfl : v1 = .ref node := e1
      exact (conListOf (.inl rfl) (.inl (hz _ _ hm)) rfl rfl hsz).mono fun Z' O' v _ ⟨a, n, e1, _, e2⟩ => ⟨a, n, e1, e2⟩
    obtain ⟨b, n', e1, e2⟩ := pk
    subst e1 e2
    walk_at "upd"
    refine exIf (Tst.cmp (by walk_at "nm") Ev.int cmpEq) (fun _ => ?_) (fun h => absurd h (by simp [hlv]))
    have hidx := lowIdx (j := j)
    rw [hj32] at hidx
    refine exStoreItem (P := aVal val) (k := ((r : Nat) : Int)) (by walk_at "nm") (by walk_at "nm") (by rw [← hidx]; exact Ev.bin (by walk_at "nm") (evInt (Ev.glob hK (by k_is))) binAnd) (by omega) (by omega) (by omega) (fun Z₂ v n'' hz2 e => ?_)
    obtain rfl : v = val := e
    refine exRetFrz (by walk_at "nm") fun Z₃ hz3 e => ⟨rfl, b, b, rfl, ?_, ?_⟩
    · rw [show r / 32 = 0 from by omega]; rfl
    · rw [show r / 32 = 0 from by omega, show r % 32 = r from by omega]; exact ⟨n'', e⟩
  | succ h ih =>
    intro tj Z O node ls vss lv tk q r hlv hh ⟨cs, ⟨m, hm⟩, hk⟩ hl hc hj hr hs hd
    have hw : 0 < 32 ^ h := Nat.pow_pos (by decide)
    have hpow : 32 ^ (h + 1) = 32 ^ h * 32 := Nat.pow_succ ..
    have hidx0 := subIdx2 (j := j) (h := h) (i := lv) (by rw [hlv]; push_cast; rfl)
    obtain ⟨hl1, hl2, hl3⟩ := hk.len hw
    have hp1 := Nat.div_add_mod r 32
    have hp2 := Nat.mod_lt r (show 0 < 32 by decide)
    rw [hpow] at hc hj
    generalize hW : 32 ^ h = w at *
    have hlt : r / 32 < ls.length := by omega
    have hd1 := Nat.div_add_mod (r / 32) w
    have hd2 := Nat.mod_lt (r / 32) hw
    have hsub : r / 32 / w < 32 := Nat.div_lt_of_lt_mul (by omega)
    have hdm : r / (32 * w) = r / 32 / w := (Nat.div_div_eq_div_mul r 32 w).symm
    have hjw : j / (32 * w) % 32 = r / 32 / w := by
      have : j = (32 * w) * (q * 32) + r := by rw [hj, Nat.mul_comm w 32, Nat.mul_left_comm q 32, Nat.mul_comm (32 * w), Nat.mul_assoc q 32, Nat.mul_left_comm 32 q]
      rw [this, Nat.mul_add_div (by omega), Nat.add_comm, Nat.add_mul_mod_self_right, hdm, Nat.mod_eq_of_lt hsub]
    rw [hjw] at hidx0
    generalize hS : r / 32 / w = sub at *
    generalize hR : r / 32 % w = rem at *
    have hswr : sub * w + rem = r / 32 := by rw [Nat.mul_comm]; exact hd1
    have hsw : sub * w < ls.length := by omega
    obtain ⟨c, hc', hcn⟩ := hk.get (q := sub) hw hsw
    have hcl : cs.length ≤ 33 := by
      rcases Nat.eq_zero_or_pos cs.length with h0 | h0
      · omega
      · have h3 : (cs.length - 1) * w < 32 * w := Nat.lt_of_lt_of_le (hl3 (by intro e; rw [e] at h0; cases h0)) (by omega)
        have := Nat.lt_of_mul_lt_mul_right h3
        omega
    have hsz : cs.length ≤ sizeLine := by have : 33 ≤ sizeLine := by decide
                                          omega
    have hsubl : sub < cs.length := (List.getElem?_eq_some_iff.mp hc').1
    refine ConC.con (conDef (k := h + 2) (bs := [("self", .ref self), ("level", .int lv tk), ("node", .ref node), ("i", .int j tj), ("val", val)]) [("self", aVal (.ref self)), ("level", aInt lv), ("node", aVal (.ref node)), ("i", aInt j), ("val", aVal val)] ⟨rfl, rfl, rfl, ⟨_, rfl⟩, rfl, rfl, rfl, ⟨_, rfl⟩, rfl, rfl, trivial⟩ hK (by k_is) (by k_is) (fun s _ => BindsTo.of_eq rfl) (by rfl) (by simp) (by rfl) rfl rfl rfl ?_)
    intro L A gs os
    refine exAssignO (P := NewL' O (cs.map .ref)) (opCall (f := .type "list") (Ev.boot hK (by k_is) bt_list) Kp.type (Evs.cons (by walk_at "nm") Evs.nil) (fun Z₁ ws hz hds => ?_)) (fun Z₁ O₁ v₁ hz1 pk => ?_)
    · obtain ⟨v1, rfl, e1⟩ := hds.one
      obtain rfl : v1 = .ref node := e1
      exact (conListOf (.inl rfl) (.inl (hz _ _ hm)) rfl rfl (by simpa using hsz)).mono fun Z' O' v _ ⟨a, n, e1, _, e2⟩ => ⟨a, n, e1, e2⟩
    obtain ⟨b, n', e1, e2⟩ := pk
    subst e1 e2
    walk_at "upd"
    have hs1 : At Z₁ ((b, listO (cs.map .ref) n') :: O) self (instO C d sl) := (hs.le hz1).imp id fun h => .tail _ h
    have hd1' : At Z₁ ((b, listO (cs.map .ref) n') :: O) d emptyDict := (hd.le hz1).imp id fun h => .tail _ h
    refine exIf (Tst.cmp (by walk_at "nm") Ev.int cmpEq) (fun h => absurd h (by simp [hlv]; omega)) (fun _ => ?_)
    refine exAssign (Ev.bin (Ev.bin (by walk_at "nm") (by walk_at "nm") (binShr (by omega))) (evInt (Ev.glob hK (by k_is))) binAnd) ?_
    walk_at "upd"
    rw [hidx0]
    have hcm : (cs.map Value.ref)[((sub : Nat) : Int).toNat]? = some (.ref c) := by simp [hc']
    generalize hvals : (vss.getD (r / 32) []).set (r % 32) val = vals
    refine exStoreItem (P := aSetN h ((ls.drop (sub * w)).take w) rem vals) (opMeth (f := .ref 197) (by walk_at "nm") (fun Z₂ ov hz hov => ?_) (Kp.own hK (by k_is))
      (Evs.cons (Ev.bin (by walk_at "nm") (evInt (Ev.glob hK (by k_is))) binSub) (Evs.cons (evItem (by walk_at "nm") (by walk_at "nm") (.inl (hz1 _ _ hm)) (by omega) (by omega) hcm) (Evs.cons (by walk_at "nm") (Evs.cons (by walk_at "nm") Evs.nil)))) (fun Z₂ ov ws hz2 hov hds => ?_))
      (by walk_at "nm") (by walk_at "nm") (by omega) (by omega) (by simpa using hsubl) (fun Z₂ v n'' hz2 pk => ?_)
    · obtain rfl : ov = .ref self := hov
      exact conMeth hK (mDoSet g.w) (hs1.le hz) (hd1'.le hz)
    · obtain rfl : ov = .ref self := hov
      obtain ⟨v1, v2, v3, v4, rfl, ⟨tk2, rfl⟩, e2, ⟨tk3, rfl⟩, e4⟩ := hds.four
      obtain rfl : v2 = .ref c := e2
      obtain rfl : v4 = val := e4
      have hlc := ((hl.le (hz1.trans hz2)).drop (sub * w)).take w
      have hchl : ((ls.drop (sub * w)).take w).length = min w (ls.length - sub * w) := by rw [List.length_take, List.length_drop]
      have hrr : rem * 32 + r % 32 < 32 * ((ls.drop (sub * w)).take w).length := by rw [hchl]; omega
      have := ih (tj := tk3) (q := q * 32 + sub) (r := rem * 32 + r % 32) (tk := tk2) (lv := lv - 5) (by rw [hlv]; push_cast; omega) (by omega) (hcn.le (hz1.trans hz2)) hlc (by rw [hchl]; omega) ?_ hrr (hs1.le hz2) (hd1'.le hz2)
      · rw [show (rem * 32 + r % 32) / 32 = rem from by omega, show (rem * 32 + r % 32) % 32 = r % 32 from by omega] at this
        have hv : ((vss.drop (sub * w)).take w).getD rem [] = vss.getD (r / 32) [] := by
          rw [List.getD_eq_getElem?_getD, List.getElem?_take_of_lt hd2, List.getElem?_drop, hswr, List.getD_eq_getElem?_getD]
        rw [hv, hvals] at this
        exact this
      · rw [Nat.add_mul, hj, Nat.mul_comm w 32]
        have e1 : q * (32 * (32 * w)) = q * 32 * (32 * w) := by rw [Nat.mul_assoc]
        have e2 : sub * (32 * w) = 32 * (sub * w) := by rw [Nat.mul_left_comm]
        rw [e1, e2]; omega
    · obtain ⟨b', l', e, hb', hl'⟩ := pk
      subst e
      refine exRetFrz (by walk_at "nm") fun Z₃ hz3 e => ⟨rfl, b, l', rfl, ⟨cs.set sub b', ⟨n'', ?_⟩, ?_⟩, hl'.le hz3⟩
      · rw [e]; simp [List.map_set]
      · rw [hW, ← hswr]
        exact (hk.imp fun _ _ => NodeZ.le (hz1.trans (hz2.trans hz3))).setAt hd2 (by omega) (hb'.le hz3)
end
theorem fillK23 (w : World) : (KK w.params = KK w.params) ∧ (PySem.Challenge.rw_nc0017_01.name = PySem.Challenge.rw_nc0017_01.name) := by k_fill; exact ⟨rfl, rfl⟩
section
variable {g : Gd} (hK : g.K = KK g.w.params)
include hK
/-- set within the vector, with what becomes of the leaves -/
theorem set_fine {Z : Zp} {O : Own} {a t root : Addr} {ls : List Addr} {vss : List (List Value)} {tl : List Value} {h j : Nat} {i : Int} {ti : Tok} {val : Value} (v : Vec Z C a ls vss t tl h root) (hj : j < 32 * ls.length + tl.length) (hi : i = j ∨ i = j - (32 * ls.length + tl.length : Int)) :
    Con g 24 Z O (call (.ref 190) [.ref a, .int i ti, val]) (fun Z' O' w => O' = O ∧ ∃ b ls' vss' t' tl' root', w = .ref b ∧ Vec Z' C b ls' vss' t' tl' h root' ∧
      ((32 * ls.length ≤ j ∧ ls' = ls ∧ vss' = vss ∧ tl' = tl.set (j - 32 * ls.length) val) ∨ (j < 32 * ls.length ∧ (∃ l, ls' = ls.set (j / 32) l) ∧ vss' = vss.set (j / 32) ((vss.getD (j / 32) []).set (j % 32) val) ∧ t' = t ∧ tl' = tl))) := by
  obtain ⟨d, t1, t2, t3, hobj, hd⟩ := v.obj
  obtain ⟨m, htl⟩ := v.tail
  have h32 := v.tlen
  have hh := v.hmax
  have hsz : tl.length ≤ sizeLine := by have : 32 ≤ sizeLine := by decide
                                        omega
  refine ConC.con (conDef (k := 23) (bs := [("self", .ref a), ("i", .int i ti), ("val", val)]) [("self", aVal (.ref a)), ("i", aInt i), ("val", aVal val)] ⟨rfl, rfl, rfl, ⟨_, rfl⟩, rfl, rfl, trivial⟩ hK (by k_is) (by k_is) (fun s _ => BindsTo.of_eq rfl) (by rfl) (by simp) (by rfl) rfl rfl rfl ?_)
  intro L A gs os
  refine exIf (b := !true) (Tst.not (Tst.of (opCall (f := .builtin "isinstance") (as := [aInt i, aVal (.type "int")]) (Ev.boot hK (by k_is) bt_isinstance) Kp.builtin (Evs.cons (by walk_at "nm") (Evs.cons (Ev.boot hK (by k_is) bt_int) Evs.nil)) (fun Z₁ ws hz hds => ?_)) TruR.bool)) (fun h => by cases h) (fun _ => ?_)
  · obtain ⟨w1, w2, rfl, ⟨tk, rfl⟩, e2⟩ := hds.two
    obtain rfl : w2 = .type "int" := e2
    exact conIsiII
  refine exIfJ [("i", aInt j), ("self", aVal (.ref a)), ("val", aVal val)] (Tst.cmp (by walk_at "nm") Ev.int cmpLt) ?_ (fun hb F' hF => ?_) (fun hb => ?_)
  case refine_2 =>
    simp only [decide_eq_true_eq] at hb
    refine exAug (by walk_at "mem") (evInt (evSlot hK (kCount g.w) (by walk_at "nm") (.inl hobj) (.inl hd) rfl)) augAdd ?_
    walk_at "upd"
    have : i + (32 * (ls.length : Int) + tl.length) = j := by omega
    rw [this]
    exact Ex.less hF (by walk_at "sub")
  case refine_3 =>
    simp only [decide_eq_false_iff_not] at hb
    obtain rfl : i = j := by omega
    walk_at "sub"
  refine exIf (Tst.chain2 Ev.int (by walk_at "nm") (evInt (evSlot hK (kCount g.w) (by walk_at "nm") (.inl hobj) (.inl hd) rfl)) cmpLe cmpLt) (fun _ => ?_) (fun hb => absurd hb (by simp; omega))
  refine exIf (Tst.cmp (by walk_at "nm") (evInt (evSlot hK (kOff g.w) (by walk_at "nm") (.inl hobj) (.inl hd) rfl)) cmpGe) (fun hb => ?_) (fun hb => ?_)
  · simp only [decide_eq_true_eq] at hb
    have hge : 32 * ls.length ≤ j := by omega
    have hidx := lowIdx (j := j)
    rw [show j % 32 = j - 32 * ls.length from by omega] at hidx
    refine exAssignO (P := NewL' O tl) (opCall (f := .type "list") (Ev.boot hK (by k_is) bt_list) Kp.type (Evs.cons (evSlot hK (kTail g.w) (by walk_at "nm") (.inl hobj) (.inl hd) rfl) Evs.nil) (fun Z₁ ws hz hds => ?_)) (fun Z₁ O₁ v₁ hz1 pk => ?_)
    · obtain ⟨v1, rfl, e1⟩ := hds.one
      obtain rfl : v1 = .ref t := e1
      exact (conListOf (.inl rfl) (.inl (hz _ _ htl)) rfl rfl hsz).mono fun Z' O' v _ ⟨a, n, e1, _, e2⟩ => ⟨a, n, e1, e2⟩
    obtain ⟨b, n', e1, e2⟩ := pk
    subst e1 e2
    walk_at "upd"
    refine exStoreItem (P := aVal val) (k := ((j - 32 * ls.length : Nat) : Int)) (by walk_at "nm") (by walk_at "nm") (by rw [← hidx]; exact Ev.bin (by walk_at "nm") (evInt (Ev.glob hK (by k_is))) binAnd) (by omega) (by omega) (by omega) (fun Z₂ v' n'' hz2 e => ?_)
    obtain rfl : v' = val := e
    rw [show (((j - 32 * ls.length : Nat) : Int)).toNat = j - 32 * ls.length from by omega]
    refine Ex.frz fun Z₃ hz3 hb3 => ?_
    have hz := hz1.trans (hz2.trans hz3)
    refine exRet (P := fun Z' O' w => O' = O ∧ ∃ b' o, w = .ref b' ∧ Z' b' = some o ∧ ∃ d' t3', o = vecO C d' (32 * ls.length + tl.length) t1 root (5 * (h + 1)) t2 b (32 * ls.length + tl.length - ((tl.set (j - 32 * ls.length) v').length : Nat)) t3' ∧ Z' d' = some emptyDict)
      (Op.frzEnd (φ := fun Z' o => ∃ d' t3', o = vecO C d' (32 * ls.length + tl.length) t1 root (5 * (h + 1)) t2 b (32 * ls.length + tl.length - ((tl.set (j - 32 * ls.length) v').length : Nat)) t3' ∧ Z' d' = some emptyDict) (fun _ _ _ hz ⟨d', t3', e1, e2⟩ => ⟨d', t3', e1, hz _ _ e2⟩)
      (opCall (f := .ref C) (as := [aVal (.int (32 * ls.length + tl.length) t1), aVal (.int (5 * (h + 1)) t2), aVal (.ref root), aVal (.ref b)]) (Ev.glob hK (by k_is)) (Kp.own hK (by k_is)) (Evs.cons (evSlot hK (kCount g.w) (by walk_at "nm") (.inl (hz _ _ hobj)) (.inl (hz _ _ hd)) rfl)
        (Evs.cons (evSlot hK (kShift g.w) (by walk_at "nm") (.inl (hz _ _ hobj)) (.inl (hz _ _ hd)) rfl) (Evs.cons (evSlot hK (kRoot g.w) (by walk_at "nm") (.inl (hz _ _ hobj)) (.inl (hz _ _ hd)) rfl) (Evs.cons (by walk_at "nm") Evs.nil)))) (fun Z₄ ws hz4 hds => ?_)))
      (fun Z₄ O₄ w' hz4 pk => ?_)
    · obtain ⟨v1, v2, v3, v4, rfl, e1, e2, e3, e4⟩ := hds.four
      obtain rfl : v1 = .int (32 * ls.length + tl.length) t1 := e1
      obtain rfl : v2 = .int (5 * (h + 1)) t2 := e2
      obtain rfl : v3 = .ref root := e3
      obtain rfl : v4 = .ref b := e4
      exact ((new_ok hK (.inl (hz4 _ _ hb3)) (by simp; omega)).room (Nat.le_of_ble_eq_true rfl)).mono fun Z' O' v _ ⟨a', d', t3', e1, e2, e3⟩ => ⟨a', _, e1, e2, d', t3', rfl, e3⟩
    · obtain ⟨eO, b', o, e1, e2, d', t3', e3, e4⟩ := pk
      subst eO e1 e3
      have hl : (tl.set (j - 32 * ls.length) v').length = tl.length := by simp
      rw [hl] at e2
      refine ⟨rfl, b', ls, vss, b, tl.set (j - 32 * ls.length) v', root, rfl, ⟨⟨d', t1, t2, t3', ?_, e4⟩, v.node.le (hz.trans hz4), v.cap, v.leaves.le (hz.trans hz4), ⟨_, hz4 _ _ hb3⟩, by rw [hl]; exact h32, by rw [hl]; exact v.small, hh⟩, .inl ⟨hge, rfl, rfl, rfl⟩⟩
      rw [hl, e2, show (32 * (ls.length : Int) + tl.length - tl.length) = 32 * ls.length from by omega]
  · simp only [decide_eq_false_iff_not] at hb
    have hlt : j < 32 * ls.length := by omega
    generalize hvals : (vss.getD (j / 32) []).set (j % 32) val = vals
    refine exRet (P := fun Z' O' w => O' = O ∧ ∃ b' o, w = .ref b' ∧ Z' b' = some o ∧ ∃ d' t3' rt l, o = vecO C d' (32 * ls.length + tl.length) t1 rt (5 * (h + 1)) t2 t (32 * ls.length + tl.length - (tl.length : Nat)) t3' ∧ Z' d' = some emptyDict ∧ NodeZ Z' (h + 1) rt (ls.set (j / 32) l) ∧ LZ Z' l vals)
      (Op.frzEnd (φ := fun Z' o => ∃ d' t3' rt l, o = vecO C d' (32 * ls.length + tl.length) t1 rt (5 * (h + 1)) t2 t (32 * ls.length + tl.length - (tl.length : Nat)) t3' ∧ Z' d' = some emptyDict ∧ NodeZ Z' (h + 1) rt (ls.set (j / 32) l) ∧ LZ Z' l vals) (fun _ _ _ hz ⟨d', t3', rt, l, e1, e2, e3, e4⟩ => ⟨d', t3', rt, l, e1, hz _ _ e2, e3.le hz, e4.le hz⟩)
      (opCall (f := .ref C) (as := [aVal (.int (32 * ls.length + tl.length) t1), aVal (.int (5 * (h + 1)) t2), aSetN (h + 1) ls (j / 32) vals, aVal (.ref t)]) (Ev.glob hK (by k_is)) (Kp.own hK (by k_is)) (Evs.cons (evSlot hK (kCount g.w) (by walk_at "nm") (.inl hobj) (.inl hd) rfl)
        (Evs.cons (evSlot hK (kShift g.w) (by walk_at "nm") (.inl hobj) (.inl hd) rfl) (Evs.cons (opMeth (f := .ref 197) (by walk_at "nm") (fun Z₂ ov hz hov => ?_) (Kp.own hK (by k_is)) (Evs.cons (evSlot hK (kShift g.w) (by walk_at "nm") (.inl hobj) (.inl hd) rfl) (Evs.cons (evSlot hK (kRoot g.w) (by walk_at "nm") (.inl hobj) (.inl hd) rfl) (Evs.cons (by walk_at "nm") (Evs.cons (by walk_at "nm") Evs.nil)))) (fun Z₂ ov ws hz2 hov hds => ?_))
        (Evs.cons (evSlot hK (kTail g.w) (by walk_at "nm") (.inl hobj) (.inl hd) rfl) Evs.nil)))) (fun Z₄ ws hz4 hds => ?_)))
      (fun Z₄ O₄ w' hz4 pk => ?_)
    · obtain rfl : ov = .ref a := hov
      exact conMeth hK (mDoSet g.w) (.inl (hz _ _ hobj)) (.inl (hz _ _ hd))
    · obtain rfl : ov = .ref a := hov
      obtain ⟨v1, v2, v3, v4, rfl, e1, e2, ⟨tk3, rfl⟩, e4⟩ := hds.four
      obtain rfl : v1 = .int (5 * (h + 1)) t2 := e1
      obtain rfl : v2 = .ref root := e2
      obtain rfl : v4 = val := e4
      have := doset_ok hK (val := v4) (j := j) (tj := tk3) (h + 1) (O := O) (q := 0) (r := j) (lv := 5 * (h + 1)) (tk := t2) (by push_cast; rfl) (by omega) (v.node.le hz2) (v.leaves.le hz2) v.cap (by omega) hlt (.inl (hz2 _ _ hobj)) (.inl (hz2 _ _ hd))
      rw [hvals] at this
      exact this.room (by show h + 1 + 2 ≤ 23; omega)
    · obtain ⟨v1, v2, v3, v4, rfl, e1, e2, ⟨rt, l, rfl, e3, e3'⟩, e4⟩ := hds.four
      obtain rfl : v1 = .int (32 * ls.length + tl.length) t1 := e1
      obtain rfl : v2 = .int (5 * (h + 1)) t2 := e2
      obtain rfl : v4 = .ref t := e4
      exact ((new_ok hK (.inl (hz4 _ _ htl)) (by omega)).room (Nat.le_of_ble_eq_true rfl)).mono fun Z' O' v hz ⟨a', d', t3', e1, e2, e5⟩ => ⟨a', _, e1, e2, d', t3', rt, l, rfl, e5, e3.le hz, e3'.le hz⟩
    · obtain ⟨eO, b', o, e1, e2, d', t3', rt, l, e3, e4, e5, e6⟩ := pk
      subst eO e1 e3
      obtain ⟨l0, vs0, g1, g2, g3, g4⟩ := v.leaves.get (j / 32) (by omega)
      have hvl : vals.length = 32 := by rw [← hvals, List.length_set, List.getD_eq_getElem?_getD, g2]; exact g4
      refine ⟨rfl, b', ls.set (j / 32) l, vss.set (j / 32) vals, t, tl, rt, rfl, ⟨⟨d', t1, t2, t3', ?_, e4⟩, e5, by rw [List.length_set]; exact v.cap, (v.leaves.le hz4).setAt e6 hvl _ (by omega), v.tail.le hz4, h32, by rw [List.length_set]; exact v.small, hh⟩, .inr ⟨hlt, ⟨l, rfl⟩, rfl, rfl, rfl⟩⟩
      rw [List.length_set, e2, show (32 * (ls.length : Int) + tl.length - tl.length) = 32 * ls.length from by omega]
end
theorem fillK9 (w : World) : (KK w.params = KK w.params) ∧ (PySem.Challenge.rw_nc0017_01.name = PySem.Challenge.rw_nc0017_01.name) := by k_fill; exact ⟨rfl, rfl⟩
theorem empty_at (w : World) : ∃ t1 t2 t3 n1 n2, (KK w.params).lookup 311 = some (vecO C 310 0 t1 306 5 t2 307 0 t3) ∧ (KK w.params).lookup 310 = some emptyDict ∧ (KK w.params).lookup 306 = some (listO [] n1) ∧ (KK w.params).lookup 307 = some (listO [] n2) := by
  refine ⟨?_, ?_, ?_, ?_, ?_, ?_, ?_, ?_, ?_⟩
  rotate_right 4
  · exact rfl
  · exact rfl
  · exact rfl
  · exact rfl
section
variable {g : Gd} (hK : g.K = KK g.w.params)
include hK
theorem emptyV {Z : Zp} (tz : ∀ a o, g.T.get? a = some o → Z a = some o) : PV Z C 311 [] := by
  obtain ⟨t1, t2, t3, n1, n2, h1, h2, h3, h4⟩ := empty_at g.w
  have go : ∀ a o, (KK g.w.params).lookup a = some o → Z a = some o := fun a o e => tz a o (g.X a o (hK ▸ e))
  exact ⟨[], [], 307, [], 0, 306, ⟨⟨310, t1, t2, t3, go _ _ h1, go _ _ h2⟩, ⟨[], ⟨n1, go _ _ h3⟩, rfl⟩, by simp, rfl, ⟨n2, go _ _ h4⟩, by simp, by simp [capV], by omega⟩, rfl⟩
theorem len_ok {Z : Zp} {O : Own} {a : Addr} {xs : List Value} (v : PV Z C a xs) : Con g 1 Z O (call (.ref 78) [.ref a]) (fun Z' O' w => O' = O ∧ ∃ t, w = .int xs.length t) := by
  obtain ⟨ls, vss, t, tl, h, root, v, rfl⟩ := v
  obtain ⟨d, t1, t2, t3, hobj, hd⟩ := v.obj
  refine ConC.con (conDef (k := 0) (bs := [("self", .ref a)]) [("self", aVal (.ref a))] ⟨rfl, rfl, trivial⟩ hK (by k_is) (by k_is) (fun s _ => BindsTo.of_eq rfl) (by rfl) (by simp) (by rfl) rfl rfl rfl ?_)
  intro L A gs os
  refine exRetEv (evSlot hK (kCount g.w) (by walk_at "nm") (.inl hobj) (.inl hd) rfl) fun Z' v' hz e => ⟨rfl, t1, ?_⟩
  rw [List.length_append, v.leaves.flat]
  push_cast
  exact e
end
theorem fillK10 (w : World) : (KK w.params = KK w.params) ∧ (PySem.Challenge.rw_nc0017_01.name = PySem.Challenge.rw_nc0017_01.name) := by k_fill; exact ⟨rfl, rfl⟩
/-- what a vector is held against -/
def Oth (Z : Zp) (o : Addr) (ms : List Int) : Prop := (∃ ys, PV Z C o ys ∧ IntsAre ys ms) ∨ (∃ ys n, Z o = some (listO ys n) ∧ IntsAre ys ms)
theorem kNoSeq (w : World) : noSeq (KK w.params) C = true := by kernel_rfl
theorem mLen (w : World) : MethK (KK w.params) C "__len__" 78 := by constructor <;> k_is
section
variable {g : Gd} (hK : g.K = KK g.w.params)
include hK
/-- a vector's own comparison -/
def cmpF : CmpOp → Addr
  | .Lt => 141
  | .LtE => 155
  | .Gt => 134
  | _ => 148
end
theorem fillK11 (w : World) : (KK w.params = KK w.params) ∧ (PySem.Challenge.rw_nc0017_01.name = PySem.Challenge.rw_nc0017_01.name) := by k_fill; exact ⟨rfl, rfl⟩
section
variable {g : Gd} (hK : g.K = KK g.w.params)
include hK
end
theorem fillK12 (w : World) : (KK w.params = KK w.params) ∧ (PySem.Challenge.rw_nc0017_01.name = PySem.Challenge.rw_nc0017_01.name) := by k_fill; exact ⟨rfl, rfl⟩
theorem pick_le (vs : List Value) (lo hi st : Option Int) : (pick vs lo hi st).length ≤ vs.length := by
  have := slicePick_size_le vs.toArray lo hi st
  unfold pick
  simpa using this
theorem pick_all (vs : List Value) : pick vs none none none = vs := by unfold pick; rw [slicePick_all]
section
variable {g : Gd} (hK : g.K = KK g.w.params)
include hK
theorem kInZ {Z : Zp} (tz : ∀ a o, g.T.get? a = some o → Z a = some o) {a : Addr} {o : Obj} (h : (KK g.w.params).lookup a = some o) : Z a = some o := tz a o (g.X a o (hK ▸ h))
/-- _EMPTY_PVECTOR.extend(e) -/
theorem opEmpty {r : Frm} {ρ : Loc} {Z : Zp} {O : Own} {e : Expr} {apos pos np : Pos} {ys : List Value} {pl : Sem Bool} (hk : 24 ≤ r.k) (he : Ev g r ρ Z O e (aVals ys)) (hy : ys.length ≤ capV) (tz : ∀ a o, g.T.get? a = some o → Z a = some o)
    (hg : r.env.kindOf "_EMPTY_PVECTOR" = some .globalImplicit := by rfl) (hst : starEach [e] r.env = [(false, eval e r.env)] := by rfl)
    (hev : eval (.Call (.Attribute (.Name "_EMPTY_PVECTOR" np) "extend" apos) [e] [] pos) r.env = (do
      let ov ← eval (.Name "_EMPTY_PVECTOR" np) r.env
      standAt apos.atName
      let (f, first) ← holding [ov] (getMethod ov "extend" pl)
      callWith pos f first (backTo pos (starEach [e] r.env)) []) := by rfl) :
    Op g r ρ Z O (eval (.Call (.Attribute (.Name "_EMPTY_PVECTOR" np) "extend" apos) [e] [] pos) r.env) (fun Z' O' w => O' = O ∧ ∃ b, w = .ref b ∧ PV Z' C b ys) := by
  have hE := emptyV hK tz
  obtain ⟨ls, vss, t, tl, h, root, vv, exs⟩ := id hE
  obtain ⟨d, t1, t2, t3, hobj, hd⟩ := vv.obj
  refine opMeth (f := .ref 256) (Po := aVal (.ref 311)) (as := [aVals ys]) (Ev.glob hK (by k_is) hg) (fun Z₂ ov hz hov => ?_) (Kp.own hK (by k_is)) (Evs.cons he Evs.nil hst) (fun Z₂ ov ws hz2 hov hds => ?_) hev
  · obtain rfl : ov = .ref 311 := hov
    exact conMeth hK (mExtend g.w) (.inl (hz _ _ hobj)) (.inl (hz _ _ hd))
  · obtain rfl : ov = .ref 311 := hov
    obtain ⟨v1, rfl, b, rfl, n, hb⟩ := hds.one
    exact ((extend_ok hK (hE.le hz2) (.inr (.inl ⟨n, hb⟩)) (by simpa using hy)).room hk).mono fun Z' O' w _ ⟨e, b, e1, e2⟩ => ⟨e, b, e1, by simpa using e2⟩
/-- a slice of a vector -/
theorem getitem_ok {Z : Zp} {O : Own} {a sl : Addr} {xs : List Value} {v0 v1 v2 : Value} {lo hi sp : Option Int} (tz : ∀ a o, g.T.get? a = some o → Z a = some o) (v : PV Z C a xs) (hs : Z sl = some (sliceO v0 v1 v2)) (p0 : IsPart v0 lo) (p1 : IsPart v1 hi) (p2 : IsPart v2 sp) (h0 : sp ≠ some 0) :
    Con g 26 Z O (call (.ref 85) [.ref a, .ref sl]) (fun Z' O' w => O' = O ∧ ∃ b, w = .ref b ∧ PV Z' C b (pick xs lo hi sp)) := by
  have hlen := v.len
  have hcap2 : capV + 64 ≤ sizeLine := by decide
  obtain ⟨ls, vss, t, tl, h, root, vv, e⟩ := id v
  obtain ⟨d, t1, t2, t3, hobj, hd⟩ := vv.obj
  refine ConC.con (conDef (k := 25) (bs := [("self", .ref a), ("index", .ref sl)]) [("self", aVal (.ref a)), ("index", aVal (.ref sl))] ⟨rfl, rfl, rfl, rfl, trivial⟩ hK (by k_is) (by k_is) (fun s _ => BindsTo.of_eq rfl) (by rfl) (by simp) (by rfl) rfl rfl rfl ?_)
  intro L A gs os
  refine exIf (b := true) (Tst.of (opCall (f := .builtin "isinstance") (as := [aVal (.ref sl), aVal (.type "slice")]) (Ev.boot hK (by k_is) bt_isinstance) Kp.builtin (Evs.cons (by walk_at "nm") (Evs.cons (Ev.boot hK (by k_is) bt_slice) Evs.nil)) (fun Z₁ ws hz hds => ?_)) TruR.bool) (fun _ => ?_) (fun h => by cases h)
  · obtain ⟨w1, w2, rfl, e1, e2⟩ := hds.two
    obtain rfl : w1 = .ref sl := e1
    obtain rfl : w2 = .type "slice" := e2
    exact conIsiSl (.inl (hz _ _ hs))
  refine exIf (b := lo.isNone && (hi.isNone && (sp.isNone && true))) (Tst.all (TstAll.and_cons (Tst.cmp (evAttr (Po := aVal (.ref sl)) (P := aVal v0) (by walk_at "nm") (fun Z₁ o hz ho => ?_)) Ev.none (cmpIsNoneP p0)) fun _ => TstAll.and_cons (Tst.cmp (evAttr (Po := aVal (.ref sl)) (P := aVal v1) (by walk_at "nm") (fun Z₁ o hz ho => ?_)) Ev.none (cmpIsNoneP p1)) fun _ => TstAll.and_cons (Tst.cmp (evAttr (Po := aVal (.ref sl)) (P := aVal v2) (by walk_at "nm") (fun Z₁ o hz ho => ?_)) Ev.none (cmpIsNoneP p2)) fun _ => TstAll.and_nil)) (fun hb => ?_) (fun hb => ?_)
  · obtain rfl : o = .ref sl := ho
    exact conStart (.inl (hz _ _ hs)) p0
  · obtain rfl : o = .ref sl := ho
    exact conStop (.inl (hz _ _ hs)) p1
  · obtain rfl : o = .ref sl := ho
    exact conStep (.inl (hz _ _ hs)) p2
  · refine exRetEv (P := aVal (.ref a)) (by walk_at "nm") fun Z' v' hz e' => ⟨rfl, a, e', ?_⟩
    simp only [Bool.and_true, Bool.and_eq_true, Option.isNone_iff_eq_none] at hb
    obtain ⟨rfl, rfl, rfl⟩ := hb
    rw [pick_all]; exact v.le hz
  · refine exRet (opEmpty hK (Nat.le_of_ble_eq_true rfl) (evCutV (vs := xs) (lo := lo) (hi := hi) (sp := sp) (Op.frzV (opMeth (f := .ref 176) (by walk_at "nm") (fun Z₂ ov hz hov => ?_) (Kp.own hK (by k_is)) Evs.nil (fun Z₂ ov ws hz2 hov hds => ?_))) (Ev.mono (P := aVal (.ref sl)) (by walk_at "nm") fun Z' v' hz e => ⟨sl, v0, v1, v2, e, hz _ _ hs, p0, p1, p2⟩) h0 (by omega)) (Nat.le_trans (pick_le _ _ _ _) hlen) tz) fun Z' O' v' _ p => p
    · obtain rfl : ov = .ref a := hov
      exact conMeth hK (mTolist g.w) (.inl (hz _ _ hobj)) (.inl (hz _ _ hd))
    · obtain rfl : ov = .ref a := hov
      obtain rfl := hds.nil
      exact (tolist_ok hK (v.le hz2)).room (Nat.le_of_ble_eq_true rfl)
end
theorem fillK13 (w : World) : (KK w.params = KK w.params) ∧ (PySem.Challenge.rw_nc0017_01.name = PySem.Challenge.rw_nc0017_01.name) := by k_fill; exact ⟨rfl, rfl⟩
section
variable {g : Gd} (hK : g.K = KK g.w.params)
include hK
end
theorem fillK15 (w : World) : (KK w.params = KK w.params) ∧ (PySem.Challenge.rw_nc0017_01.name = PySem.Challenge.rw_nc0017_01.name) := by k_fill; exact ⟨rfl, rfl⟩
/-- a vector of these ints, at most b of them -/
def aVb (b : Nat) (ns : List Int) : AV := ⟨fun Z v => (aV C ns).P Z v ∧ ns.length ≤ b, fun hz h => ⟨(aV C ns).mono hz h.1, h.2⟩⟩
theorem Con.withTz {α : Type} {g : Gd} {k : Nat} {Z : Zp} {O : Own} {t : Sem α} {P : Zp → Own → α → Prop} (h : (∀ a o, g.T.get? a = some o → Z a = some o) → Con g k Z O t P) : Con g k Z O t P :=
  fun A s Q hr ok hq => h ok.tz A s Q hr ok hq
theorem kGet (w : World) : MethK (KK w.params) C "__getitem__" 85 := by constructor <;> k_is
theorem kGetFn (w : World) : fnIn (KK w.params) 85 = true := by k_is
theorem PV.ob {Z : Zp} {a : Addr} {xs : List Value} (v : PV Z C a xs) : ∃ d sl, Z a = some (instO C d sl) ∧ Z d = some emptyDict := by
  obtain ⟨ls, vss, t, tl, h, root, vv, e⟩ := v
  obtain ⟨d, t1, t2, t3, hobj, hd⟩ := vv.obj
  exact ⟨d, _, hobj, hd⟩
section
variable {g : Gd} (hK : g.K = KK g.w.params) {k a b : Nat} {ns ms : List Int} {r : Frm} {ρ : Loc} {Z : Zp} {O : Own} {x i j : Int}
include hK
/-- a slice of a vector -/
theorem subCutVb {value slice : Expr} {lo hi sp : Option Int} (h0 : sp ≠ some 0) (hk : 27 ≤ k)
    (hs : ∀ o i, (∃ ops, subscripted slice true o i = operate ops (getItem o i)) ∨ subscripted slice true o i = runValue (.builtin "lifetime.subscript" ⟨[o, i], []⟩) := by intro o i; first | exact .inl ⟨_, by with_unfolding_all rfl⟩ | exact .inr (by with_unfolding_all rfl)) :
    SubR g k value slice (aVb b ns) (aSlice lo hi sp) (aVb b (pickNums ns lo hi sp)) :=
  fun Z₁ o iv ⟨⟨va, xs, e1, v, i1⟩, hl⟩ ⟨sl, vl, vu, vst, e2, e3, p1, p2, p3⟩ => by
    subst e1 e2
    obtain ⟨d, sl', h3, h4⟩ := v.ob
    refine ((conSubO hK (.inl h3) (.inl h4) (kNoSeq g.w) (kGet g.w).find (kGetFn g.w) (kGet g.w).fn (hs _ _) (Con.withTz fun tz => getitem_ok hK tz v e3 p1 p2 p3 h0)).room hk).mono fun Z' O' w _ ⟨e1, c, e2, e3⟩ => ⟨e1, ⟨c, _, e2, e3, i1.pick lo hi sp⟩, Nat.le_trans (lenPick ..) hl⟩
theorem subCutV0 {value : Expr} {l u : Option Expr} {p : Pos} {lo hi sp : Option Int} (h0 : sp ≠ some 0) (hk : 27 ≤ k) : SubR g k value (.Slice l u none p) (aVb b ns) (aSlice lo hi sp) (aVb b (pickNums ns lo hi sp)) := subCutVb hK h0 hk fun o i => .inl ⟨[i, o], rfl⟩
theorem evLenVb {e : Expr} {pos p : Pos} (he : Ev g r ρ Z O e (aVb b ns)) (hk : 2 ≤ r.k)
    (hl : r.env.kindOf "len" = some .globalImplicit := by rfl) (hst : starEach [e] r.env = [(false, eval e r.env)] := by rfl) : Ev g r ρ Z O (.Call (.Name "len" p) [e] [] pos) (aInt ns.length) :=
  opCall (f := .builtin "len") (Ev.boot hK (by k_is) boot_len (by decide) hl) Kp.builtin (Evs.cons he Evs.nil hst) (fun Z₁ vs hz hd => by
    obtain ⟨v, rfl, ⟨va, xs, rfl, v, i1⟩, hl⟩ := hd.one
    obtain ⟨d, sl', h3, h4⟩ := v.ob
    have hcs : capV < 2 ^ 62 := by decide
    have hl2 := v.len
    rw [← i1.length]
    exact (conLenO (k := 1) hK (.inl h3) (.inl h4) (mLen g.w).find (mLen g.w).fn (by omega) (by omega) (len_ok hK v)).room hk) (by with_unfolding_all rfl)
theorem evTolist {o : Expr} {apos pos : Pos} {pl : Sem Bool} (ho : Ev g r ρ Z O o (aVb b ns)) (hk : 8 ≤ r.k)
    (hev : eval (.Call (.Attribute o "tolist" apos) [] [] pos) r.env = (do
      let ov ← eval o r.env
      standAt apos.atName
      let (f, first) ← holding [ov] (getMethod ov "tolist" pl)
      callWith pos f first (backTo pos (starEach [] r.env)) []) := by rfl) : Ev g r ρ Z O (.Call (.Attribute o "tolist" apos) [] [] pos) (aLb b ns) :=
  opMeth (f := .ref 176) (Po := aVb b ns) ho (fun Z₂ ov hz ⟨⟨va, xs, e1, v, i1⟩, hl⟩ => by
      subst e1
      obtain ⟨d, sl', h3, h4⟩ := v.ob
      exact conMeth hK (mTolist g.w) (.inl h3) (.inl h4)) (Kp.own hK (by k_is)) Evs.nil
    (fun Z₂ ov ws hz ⟨⟨va, xs, e1, v, i1⟩, hl⟩ hds => by
      subst e1
      obtain rfl := hds.nil
      exact ((Con.frzV (tolist_ok hK v)).room hk).mono fun Z' O' w _ ⟨e1, c, e2, e3⟩ => ⟨e1, ⟨c, _, e2, e3, i1⟩, hl⟩) hev
/-- a method of one argument -/
theorem evMeth1 {o e : Expr} {apos pos : Pos} {pl : Sem Bool} {nm : Str} {f : Addr} {A1 R1 : AV} (hm : MethK (KK g.w.params) C nm f) (hkp : keepIn (KK g.w.params) (.ref f) = true) (ho : Ev g r ρ Z O o (aVb b ns)) (he : Ev g r ρ Z O e A1)
    (hc : ∀ Z₁ va xs w, PV Z₁ C va xs → IntsAre xs ns → ns.length ≤ b → A1.P Z₁ w → Con g r.k Z₁ O (call (.ref f) [.ref va, w]) (fun Z' O' u => O' = O ∧ R1.P Z' u)) (hst : starEach [e] r.env = (false, eval e r.env) :: starEach [] r.env := by rfl)
    (hev : eval (.Call (.Attribute o nm apos) [e] [] pos) r.env = (do
      let ov ← eval o r.env
      standAt apos.atName
      let (f, first) ← holding [ov] (getMethod ov nm pl)
      callWith pos f first (backTo pos (starEach [e] r.env)) []) := by rfl) : Ev g r ρ Z O (.Call (.Attribute o nm apos) [e] [] pos) R1 :=
  opMeth (f := .ref f) (Po := aVb b ns) (as := [A1]) ho (fun Z₂ ov hz ⟨⟨va, xs, e1, v, i1⟩, hl⟩ => by
      subst e1
      obtain ⟨d, sl', h3, h4⟩ := v.ob
      exact conMeth hK hm (.inl h3) (.inl h4)) (Kp.own hK hkp) (Evs.cons he Evs.nil hst)
    (fun Z₂ ov ws hz ⟨⟨va, xs, e1, v, i1⟩, hl⟩ hds => by
      subst e1
      obtain ⟨w, rfl, hw⟩ := hds.one
      exact hc Z₂ va xs w v i1 hl hw) hev
/-- what extend takes, as a value -/
def aG (b : Nat) (ms : List Int) : AV := ⟨fun Z w => ∃ o ys, w = .ref o ∧ Giv Z o ys ∧ IntsAre ys ms ∧ ms.length ≤ b, fun hz ⟨o, ys, e, h, i⟩ => ⟨o, ys, e, h.le hz, i⟩⟩
/-! comparisons -/
end
end Mine
end
section
open PySem PySem.W PyProof.Rows PySem.Calls
set_option Elab.async false
set_option maxRecDepth 100000
set_option linter.unusedVariables false
namespace Mine
/-- a place exchanged, as cuts -/
theorem set_cuts (ns : List Int) (p : Nat) (x : Int) (hp : p < ns.length) : ns.take p ++ [x] ++ ns.drop (p + 1) = ns.set p x := by
  rw [List.set_eq_take_append_cons_drop, if_pos hp, List.append_assoc]; rfl
/-- the row as far as it is woven -/
def weave (row : List Int) (s p k : Nat) : List Int := (List.range row.length).map fun j => if j % s < p ∨ (j % s = p ∧ j / s < k) then row.getD j 0 else 0
end Mine
end
section
open PySem PySem.W PyProof.Rows PySem.Calls
set_option Elab.async false
set_option maxRecDepth 100000
set_option maxHeartbeats 1000000
set_option linter.unusedVariables false
namespace Mine
theorem intsSet : ∀ {vs : List Value} {ns : List Int}, IntsAre vs ns → ∀ (j : Nat) (x : Int) (t : Tok), IntsAre (vs.set j (.int x t)) (ns.set j x)
  | _, _, .nil, _, _, _ => by simpa using IntsAre.nil
  | _, _, .cons n t h, 0, x, u => by simpa using IntsAre.cons x u h
  | _, _, .cons n t h, j + 1, x, u => by simpa using IntsAre.cons n t (intsSet h j x u)
section
variable {g : Gd} {r : Frm} {ρ : Loc} {Z : Zp} {O : Own} {k : Nat} {ns ms : List Int} {i j x : Int} {a b : Nat}
theorem castI {e : Expr} (h : Ev g r ρ Z O e (aInt i)) (e' : i = j) : Ev g r ρ Z O e (aInt j) := e' ▸ h
theorem itersOfS {n : Nat} {item : Nat → AV} {w : Value} {Z' : Zp} {O' : Own} (h : ItersS g n item O Z' O' w) : Iters g n item O Z' O' w :=
  let ⟨it, o, oi, e1, e2, e3, hI, _⟩ := h; ⟨it, o, oi, e1, e2, e3, hI⟩
/-- for x in range(n) -/
theorem exForR {x : String} {px pos : Pos} {iter : Expr} {body rest : List Stmt} {F : Flow → Loc → Zp → Own → Prop} (n : Nat) (base : Nat → Loc) (J : Nat → Zp → Own → Prop) (hn : n ≤ 5000)
    (hi : Ev g r ρ Z O iter (aRange (n : Int))) (hb : ∀ p ∈ base 0, p ∈ ρ) (hx : ∀ i, ∀ p ∈ base i, p.1 ≠ x) (h0 : ∀ Z₁, Z.Le Z₁ → J 0 Z₁ O)
    (step : ∀ i Z' O', Z.Le Z' → i < n → J i Z' O' → Exs g r ((x, aInt (i : Nat)) :: base i) Z' O' body (fun fl ρ'' Z'' O'' => match fl with | .next | .cont => (∀ p ∈ base (i + 1), p ∈ ρ'') ∧ J (i + 1) Z'' O'' | .ret u => F (.ret u) ρ'' Z'' O'' | .brk => False))
    (done : ∀ Z' O', Z.Le Z' → J n Z' O' → Exs g r (base n) Z' O' rest F)
    (hl : r.env.kindOf (Str.ofString x) = some .local := by rfl) (hs : ∀ x, foldedSetIterable iter r.env x = pure x := by intro _; rfl) :
    Exs g r ρ Z O (.For (.Name (Str.ofString x) px) iter body [] pos :: rest) F :=
  exForB n (fun i => aInt (i : Nat)) base J hi (fun Z₁ v hz hv => (hitRange hn hv).mono fun Z' O' w _ p => itersOfS p) hb hx h0 step done hl hs
end
end Mine
end
section
open PySem PySem.W PyProof.Rows PySem.Calls
set_option Elab.async false
set_option maxRecDepth 100000
set_option maxHeartbeats 1000000
set_option linter.unusedVariables false
namespace Mine
section
variable {g : Gd} {r : Frm} {ρ : Loc} {Z : Zp} {O : Own}
/-- [elt for x in iter] -/
theorem evComp {x : String} {px pos : Pos} {elt iter : Expr} {scope : Scope} {cl : List (Str × Addr)} {Pi : AV} (n : Nat) (item out : Nat → AV) (ρ' : Loc)
    (hi : Ev g r ρ Z O iter Pi) (hit : ∀ Z₁ v, Z.Le Z₁ → Pi.P Z₁ v → Con g r.k Z₁ O (pyIter v) (ItersS g n item O)) (hn : n ≤ sizeLine)
    (hρ : ∀ p ∈ ρ', p ∈ ρ ∧ r.env.kindOf (Str.ofString p.1) = some .cell ∧ (relabel scope r.env).names.lookup (Str.ofString p.1) = some .cell ∧ cl.lookup (Str.ofString p.1) = r.cells.lookup (Str.ofString p.1))
    (helt : ∀ i C Zs, i < n → Z.Le Zs → Ev g (cFrm r scope cl C Zs) ((x, item i) :: ρ') Zs [] elt (out i))
    (hclos : closureFor scope r.env = pure cl) (hcell : ∀ z ∈ scope.names, z.2 ≠ .cell) (hkind : scope.kind = .function)
    (hnames : ∀ z ∈ scope.names, z.2 = .local → scope.names.lookup z.1 = some .local) (hx : scope.names.lookup (Str.ofString x) = some .local)
    (hs : ∀ x, foldedSetIterable iter r.env x = pure x := by intro _; rfl) :
    Ev g r ρ Z O (.ListComp elt [⟨.Name (Str.ofString x) px, iter, [], 0⟩] scope pos) (aComp n out) := by
  intro B Z₁ s Q hz st hq
  show wpAny _ r.A (comprehension (.ListComp elt [⟨.Name (Str.ofString x) px, iter, [], 0⟩] scope pos) scope r.env _ (newList []) false (eval iter r.env) none) _ _ s
  refine wpAny_comprehension_free (use := none) rfl hs hclos hkind hnames ?_
  refine hi B Z₁ s _ hz st fun xv s1 Z1 O1 hz1 st1 pk => ?_
  obtain ⟨e, p⟩ := pk
  subst e
  refine Op.of_con (ρ := ρ) (fun Z₃ hz3 => hit Z₃ xv (hz.trans (hz1.trans hz3)) (Pi.mono hz3 p)) B Z1 s1 _ (.refl _) st1 fun w s2 Z2 O2 hz2 st2 pk => ?_
  obtain ⟨it, o, oi, e1, e2, ho, hI, hself⟩ := pk
  subst e1 e2
  refine comp_core (RR := fun acc C => compPost g.M r.A No none Q acc C) n item out ρ' st2 ho hI hself hn hρ (fun i C hi => helt i C Z2 hi (hz.trans (hz1.trans hz2))) hcell hkind hx ?_
  intro D C s' Z' vs m hz' hlen hvs hC hZC hBC hOC hns st'
  obtain ⟨mC, hns⟩ := hns
  have stf := st'.step (Step.freeze st'.ok)
  have hDC : D ≠ C := hOC (D, listO vs m) (.head _)
  have hle : Z'.Le (Z'.set D (listO vs m)) := Zp.le_set _ (st'.own (D, listO vs m) (.head _)).2.1
  have hZC' : (Z'.set D (listO vs m)) C = none := by rw [Zp.set_ne _ _ (Ne.symm hDC)]; exact hZC
  have hOC' : ∀ p ∈ O1, p.1 ≠ C := fun p hp => hOC p (.tail _ hp)
  refine ⟨mC, hns, fun h' hs' => ?_⟩
  exact hq _ _ _ O1 (hz1.trans (hz2.trans (hz'.trans hle))) (stf.other hC hZC' hBC hOC' hs') ⟨rfl, D, vs, m, rfl, Zp.set_self _ _ _, hlen, fun j z hj => (out j).mono hle (hvs j z hj)⟩
/-- a name in a frozen cell -/
theorem Ex.cellIn {t : Sem Flow} {F : Flow → Loc → Zp → Own → Prop} {x : String} {c : Addr} {o : Obj} {v : Value} {av : AV} (hk : r.env.kindOf (Str.ofString x) = some .cell) (hc : r.cells.lookup (Str.ofString x) = some c) (ho : Z c = some o) (hd : o.data = .cell (some v)) (hv : av.P Z v)
    (h : Ex g r ((x, av) :: ρ) Z O t F) : Ex g r ρ Z O t F := by
  intro B Z₁ s Q hz st hq
  refine h B Z₁ s Q hz { st with loc := ?_ } hq
  obtain ⟨m, hn, hl⟩ := st.loc
  refine ⟨m, hn, fun y b hy => ?_⟩
  rcases List.mem_cons.mp hy with e | hy
  · injection e with e1 e2
    subst e1 e2
    exact ⟨v, .inr ⟨.inl hk, c, o, hc, hz _ _ ho, hd⟩, b.mono hz hv⟩
  · exact hl y b hy
/-- a name in a cell that is owned -/
theorem evCellO {x : String} {pos : Pos} {c : Addr} {o : Obj} {v : Value} (hk : r.env.kindOf (Str.ofString x) = some .cell) (hc : r.cells.lookup (Str.ofString x) = some c) (ho : (c, o) ∈ O) (hd : o.data = .cell (some v))
    (hdb : (Str.ofString x == ("__debug__" : Str)) = false := by decide) : Ev g r ρ Z O (.Name (Str.ofString x) pos) (aVal v) := by
  intro B Z₁ s Q hz st hq
  exact wpAny_Name (wpAny_loadName_cell st.hk hk hc ⟨o, (st.own _ ho).1, hd⟩ (hq v s Z₁ O (.refl _) st ⟨rfl, rfl⟩)) hdb
theorem sta_cellO {B : Zp} {s : Shared} {x : String} {v : Value} {c : Addr} {o : Obj} {v₀ : Option Value} {Q : Unit → Shared → Prop} (st : Sta g r B s ρ Z ((c, o) :: O)) (hl : r.env.kindOf (Str.ofString x) = some .cell) (hc : r.cells.lookup (Str.ofString x) = some c) (ho : o.data = .cell v₀)
    (h : ∀ s' o', o'.data = .cell (some v) → Sta g r B s' ρ Z ((c, o') :: O) → Q () s') : wpAny g.M r.A (storeName r.env (Str.ofString x) v) Q No s := by
  have hcell := (st.own (c, o) (.head _)).1
  refine wpAny_storeName_cell st.hk hl hc ⟨o, hcell, ho⟩ fun h' hc' hs => ?_
  obtain ⟨o', ho', hd'⟩ := hc'
  exact h _ o' hd' (st.step (Step.write st.ok (o' := o') s.toks hs ho'))
/-- a for whose target is an owned cell -/
theorem exForC {x : String} {px pos : Pos} {iter : Expr} {body rest : List Stmt} {Pi : AV} {F : Flow → Loc → Zp → Own → Prop} {c : Addr} {oc : Obj} {v₀ : Option Value} (n : Nat) (item : Nat → AV) (J : Nat → Loc → Zp → Own → Prop)
    (hi : Ev g r ρ Z ((c, oc) :: O) iter Pi) (hit : ∀ Z₁ v, Z.Le Z₁ → Pi.P Z₁ v → Con g r.k Z₁ ((c, oc) :: O) (pyIter v) (Iters g n item ((c, oc) :: O))) (hc : r.cells.lookup (Str.ofString x) = some c) (hoc : oc.data = .cell v₀) (h0 : ∀ Z₁, Z.Le Z₁ → J 0 ρ Z₁ O)
    (step : ∀ i ρ' Z' O' o' v, Z.Le Z' → i < n → J i ρ' Z' O' → o'.data = .cell (some v) → (item i).P Z' v → Exs g r ρ' Z' ((c, o') :: O') body (fun fl ρ'' Z'' O'' => match fl with | .next | .cont => ∃ o'' v'' O₁, O'' = (c, o'') :: O₁ ∧ o''.data = .cell v'' ∧ J (i + 1) ρ'' Z'' O₁ | .ret u => F (.ret u) ρ'' Z'' O'' | .brk => False))
    (done : ∀ ρ' Z' O' o' v', Z.Le Z' → J n ρ' Z' O' → o'.data = .cell v' → Exs g r ρ' Z' ((c, o') :: O') rest F)
    (hl : r.env.kindOf (Str.ofString x) = some .cell := by rfl) (hs : ∀ x, foldedSetIterable iter r.env x = pure x := by intro _; rfl) :
    Exs g r ρ Z ((c, oc) :: O) (.For (.Name (Str.ofString x) px) iter body [] pos :: rest) F := by
  refine exs_cons (F₁ := fun fl ρ' Z' O' => (fl = .next ∧ ∃ Z₁ o' v' O₁, Z.Le Z₁ ∧ Z₁.Le Z' ∧ J n ρ' Z₁ O₁ ∧ o'.data = .cell v' ∧ O' = (c, o') :: O₁) ∨ (∃ u, fl = .ret u ∧ F (.ret u) ρ' Z' O')) ?_
    (fun ρ' Z' O' hz p => by
      rcases p with ⟨_, Z₁, o', v', O₁, h1, h2, p, hd, e⟩ | ⟨u, e, _⟩
      · subst e; exact (done ρ' Z₁ O₁ o' v' h1 p hd).le h2
      · cases e)
    (fun fl ρ' Z' O' hne hz p => by
      rcases p with ⟨e, _⟩ | ⟨u, e, p⟩
      · exact absurd e hne
      · subst e; exact p)
  intro B Z₁ s Q hz st hq
  refine wpAny_For (hi B Z₁ s _ hz st fun xv s1 Z1 O1 hz1 st1 pk => ?_) hs
  obtain ⟨e, p⟩ := pk
  subst e
  refine Op.of_con (ρ := ρ) (fun Z₃ hz3 => hit Z₃ xv (hz.trans (hz1.trans hz3)) (Pi.mono hz3 p)) B Z1 s1 _ (.refl _) st1 fun w s2 Z2 O2 hz2 st2 pk => ?_
  obtain ⟨it, o, oi, e1, e2, ho, hI⟩ := pk
  subst e1 e2
  have hzz : Z₁.Le Z2 := hz1.trans hz2
  refine codeAny_forLoop (fun m s' => ∃ i ρ' Z' O' o' oc' v', m = n - i ∧ i ≤ n ∧ Z2.Le Z' ∧ oi i o' ∧ oc'.data = .cell v' ∧ J i ρ' Z' O' ∧ Sta g r B s' ρ' Z' (((c, oc') :: O') ++ [(it, o')])) ?_ n ⟨0, ρ, Z2, O, o, oc, v₀, rfl, Nat.zero_le _, .refl _, ho, hoc, h0 Z2 (hz.trans hzz), st2.step (Step.perm st2.ok (List.perm_append_singleton (it, o) ((c, oc) :: O)).symm)⟩ (by intro _; rfl)
  rintro m s' ⟨i, ρ', Z', O', o', oc', v', rfl, hin, hz', hoi, hdc, hJ, st'⟩
  have stp := st'.step (Step.perm st'.ok (List.perm_append_comm (l₁ := (c, oc') :: O') (l₂ := [(it, o')])))
  have hzZ : Z.Le Z' := hz.trans (hzz.trans hz')
  rcases Nat.lt_or_ge i n with hlt | hge
  · refine wpAny_mono (Con.beside (R := (c, oc') :: O') (hI.next Z' hz' i o' hlt hoi r.k) r.A s' _ stp.room stp.ok fun v s3 Z3 O3 stp3 p3 => ?_) (fun _ _ h => h) fun _ _ h => h.elim
    obtain ⟨O₁, e1, ez, xx, o'', e2, hp, e3, hoi'⟩ := p3
    subst e1 e2 e3 ez
    have st3 := stp.step stp3
    have st4 := st3.step (Step.perm st3.ok (List.perm_append_comm (l₁ := [(it, o'')]) (l₂ := (c, oc') :: O')))
    refine wpAny_mono (wpAny_assign_Name (sta_cellO (O := O' ++ [(it, o'')]) st4 hl hc hdc fun s5 oc5 hd5 st5 => ?_)) (fun _ _ h => h) fun _ _ h => h.elim
    refine wpAny_mono ((Ex.beside (R := [(it, o'')]) (step i ρ' Z3 O' oc5 xx hzZ hlt hJ hd5 hp)) B Z3 s5 _ (.refl _) st5 fun fl ρ'' s6 Z6 O6 hz6 st6 p6 => ?_) (fun _ _ h => h) fun _ _ h => h.elim
    obtain ⟨O₂, e4, p6⟩ := p6
    subst e4
    have again : (∃ o3 v3 O₃, O₂ = (c, o3) :: O₃ ∧ o3.data = .cell v3 ∧ J (i + 1) ρ'' Z6 O₃) → ∃ m, m < n - i ∧ ∃ i' ρ' Z' O' o' oc' v', m = n - i' ∧ i' ≤ n ∧ Z2.Le Z' ∧ oi i' o' ∧ oc'.data = .cell v' ∧ J i' ρ' Z' O' ∧ Sta g r B s6 ρ' Z' (((c, oc') :: O') ++ [(it, o')]) := fun ⟨o3, v3, O₃, e, hd3, h⟩ => by
      subst e
      exact ⟨n - (i + 1), Nat.sub_lt_sub_left hlt (Nat.lt_succ_self i), i + 1, ρ'', Z6, O₃, o'', o3, v3, rfl, hlt, hz'.trans hz6, hoi', hd3, h, st6⟩
    cases fl with
    | next => exact again p6
    | cont => exact again p6
    | brk => exact p6.elim
    | ret u => exact hq _ ρ'' s6 Z6 O₂ (hzz.trans (hz'.trans hz6)) (st6.step (Step.drop st6.ok (List.sublist_append_left _ _))) (.inr ⟨u, rfl, p6⟩)
  · have hi : i = n := Nat.le_antisymm hin hge
    subst hi
    refine wpAny_mono (Con.beside (R := (c, oc') :: O') (hI.done Z' hz' o' hoi r.k) r.A s' _ stp.room stp.ok fun v s3 Z3 O3 stp3 p3 => ?_) (fun _ _ h => h) fun _ _ h => h.elim
    obtain ⟨O₁, e1, ez, e2, e3⟩ := p3
    subst e1 e2 e3 ez
    have st3 := stp.step stp3
    exact wpAny_execs_nil (hq .next ρ' s3 Z3 _ (hzz.trans hz') st3 (.inl ⟨rfl, Z3, oc', v', O', hzZ, .refl _, hJ, hdc, rfl⟩))
end
end Mine
end
section
open PySem PySem.W PyProof.Rows PySem.Calls
set_option Elab.async false
set_option maxRecDepth 100000
set_option maxHeartbeats 1000000
set_option linter.unusedVariables false
namespace Mine
section
variable {α : Type} {g : Gd} {r : Frm} {ρ : Loc} {Z : Zp} {O : Own} {c : Addr} {oc : Obj}
theorem aLb_unset {b : Nat} {ns : List Int} {v₀ : Option Value} (hd : oc.data = .cell v₀) {Z' : Zp} {v : Value} (hc : Z' c = some oc) (h : (aLb b ns).P Z' v) : (aLb b ns).P (Z'.unset c) v := by
  obtain ⟨⟨a, vs, e, ⟨n, ha⟩, hi⟩, hl⟩ := h
  refine ⟨⟨a, vs, e, ⟨n, ?_⟩, hi⟩, hl⟩
  have : a ≠ c := by
    rintro rfl
    rw [hc] at ha
    have := Option.some.inj ha
    rw [this] at hd
    cases hd
  rw [Zp.unset_ne _ this]; exact ha
end
end Mine
end
section
open PySem PySem.W PyProof.Rows PySem.Calls
set_option Elab.async false
set_option maxRecDepth 100000
set_option maxHeartbeats 1000000
set_option linter.unusedVariables false
namespace Mine
section
variable {α : Type} {g : Gd} {r : Frm} {ρ : Loc} {Z : Zp} {O : Own} {k : Nat}
theorem Con.stepEnd {t : Sem α} {P P' : Zp → Own → α → Prop} (h : Con g k Z O t P) (hp : ∀ Z' O' v s', Z.Le Z' → Ok g Z' O' s' → P Z' O' v → ∃ Z'' O'', Step Z' O' s' s' Z'' O'' ∧ P' Z'' O'' v) : Con g k Z O t P' :=
  fun A s Q hr ok hq => h A s Q hr ok fun v s' Z' O' st p => by
    obtain ⟨Z'', O'', h1, h2⟩ := hp Z' O' v s' st.le (st.ok ok) p
    exact hq v s' Z'' O'' (st.trans h1) h2
/-- what is told of a name is told more sharply -/
theorem Ex.elim {ι : Type} {t : Sem Flow} {F : Flow → Loc → Zp → Own → Prop} {x : String} {av : AV} {f : ι → AV} (hf : ∀ Z₁ v, Z.Le Z₁ → av.P Z₁ v → ∃ i, (f i).P Z₁ v) (h : ∀ i, Ex g r ((x, f i) :: ρ) Z O t F) : Ex g r ((x, av) :: ρ) Z O t F := by
  intro B Z₁ s Q hz st hq
  obtain ⟨m, hn, hl⟩ := st.loc
  obtain ⟨v, hv, hp⟩ := hl x av (.head _)
  obtain ⟨i, hi⟩ := hf Z₁ v hz hp
  refine h i B Z₁ s Q hz { st with loc := ⟨m, hn, fun y b hy => ?_⟩ } hq
  rcases List.mem_cons.mp hy with e | hy
  · injection e with e1 e2
    subst e1 e2
    exact ⟨v, hv, hi⟩
  · exact hl y b (.tail _ hy)
end
/-- a vector of these ints with these leaves and this tail -/
def aW (C : Addr) (ls : List Addr) (t : Addr) (ns : List Int) : AV := ⟨fun Z v => ∃ a vss tl h root, v = .ref a ∧ Vec Z C a ls vss t tl h root ∧ IntsAre (vss.flatten ++ tl) ns, fun hz ⟨a, vss, tl, h, root, e, x, i⟩ => ⟨a, vss, tl, h, root, e, x.le hz, i⟩⟩
/-- the leaves are the same lists, but for one -/
def Kin (ls : List Addr) (t : Addr) (ls' : List Addr) (t' : Addr) (n : Nat) (tch : Int) : Prop := ∀ part : Nat, 32 * part < n → (part : Int) ≠ tch → (ls' ++ [t']).getD part 0 = (ls ++ [t]).getD part 0
theorem getD_left (a b : List Addr) {p : Nat} (h : p < a.length) : (a ++ b).getD p 0 = a.getD p 0 := by
  rw [List.getD_eq_getElem?_getD, List.getElem?_append_left h, List.getD_eq_getElem?_getD]
theorem Kin.same {ls : List Addr} {t : Addr} {n : Nat} {tch : Int} : Kin ls t ls t n tch := fun _ _ _ => rfl
theorem Kin.tail {ls : List Addr} {t t' : Addr} {more : List Addr} {n : Nat} (hn : n ≤ 32 * ls.length + 32) : Kin ls t (ls ++ more) t' n (ls.length : Nat) := fun part h1 h2 => by
  have h : part < ls.length := by omega
  rw [List.append_assoc, getD_left _ _ h, getD_left _ _ h]
theorem Kin.more {ls : List Addr} {t t' : Addr} {more : List Addr} {n : Nat} {tch : Int} (hn : n ≤ 32 * ls.length + 32) : Kin ls t (ls ++ [t] ++ more) t' n tch := fun part h1 h2 => by
  have h : part < (ls ++ [t]).length := by rw [List.length_append, List.length_singleton]; omega
  rw [List.append_assoc (ls ++ [t]), getD_left _ _ h]
theorem Kin.set {ls : List Addr} {t l : Addr} {n p : Nat} : Kin ls t (ls.set p l) t n (p : Nat) := fun part h1 h2 => by
  rw [List.getD_eq_getElem?_getD, List.getD_eq_getElem?_getD]
  by_cases h : part < ls.length
  · rw [List.getElem?_append_left (by simpa using h), List.getElem?_append_left h, List.getElem?_set_ne (by omega)]
  · rw [List.getElem?_append_right (by simpa using h), List.getElem?_append_right (by omega), List.length_set]
/-- the list of the leaves that the places fall in -/
def leavesOf (ls : List Addr) (t : Addr) (n : Nat) : List Addr := (List.range ((n + 31) / 32)).map fun i => (ls ++ [t]).getD i 0
/-- a list of lists, told by their places -/
def aRefs (as : List Addr) : AV := ⟨fun Z v => ∃ d m, v = .ref d ∧ Z d = some (listO (as.map .ref) m), fun hz ⟨d, m, e, h⟩ => ⟨d, m, e, hz _ _ h⟩⟩
end Mine
end
section
open PySem PySem.W PyProof.Rows PySem.Calls
set_option Elab.async false
set_option maxRecDepth 100000
set_option maxHeartbeats 1000000
set_option linter.unusedVariables false
namespace Mine
local macro_rules | `(tactic| walk_at "mem") => `(tactic| first | exact List.Mem.head _ | (refine List.Mem.tail _ ?_; walk_at "mem"))
local macro_rules | `(tactic| walk_at "nm") => `(tactic| (refine' Ev.name ?hm ?hd; (case hm => walk_at "mem"); (case hd => decide)))
local macro_rules | `(tactic| walk_at "sub") => `(tactic| first | exact List.forall_mem_nil _ | (refine List.forall_mem_cons.mpr ⟨?_, ?_⟩; (first | walk_at "mem" | simp); walk_at "sub"))
local macro_rules | `(tactic| walk_at "upd") => `(tactic| dsimp only [updL, List.filter, String.reduceBNe])
theorem fillK31 (w : World) : (KK w.params = KK w.params) ∧ (PySem.Challenge.rw_nc0017_01.name = PySem.Challenge.rw_nc0017_01.name) := by k_fill; exact ⟨rfl, rfl⟩
abbrev aWc := aW C
theorem aWc.toVb {Z : Zp} {ls : List Addr} {t : Addr} {ns : List Int} {v : Value} {b : Nat} (h : (aWc ls t ns).P Z v) (hb : ns.length ≤ b) : (aVb b ns).P Z v := by
  obtain ⟨a, vss, tl, hh, root, e, x, i⟩ := h
  exact ⟨⟨a, _, e, ⟨ls, vss, t, tl, hh, root, x, rfl⟩, i⟩, hb⟩
theorem aVb.toW {Z : Zp} {ns : List Int} {v : Value} {b : Nat} (h : (aVb b ns).P Z v) : ∃ p : List Addr × Addr, (aWc p.1 p.2 ns).P Z v := by
  obtain ⟨⟨a, xs, e, ⟨ls, vss, t, tl, hh, root, x, rfl⟩, i⟩, hb⟩ := h
  exact ⟨(ls, t), a, vss, tl, hh, root, e, x, i⟩
/-- a new version -/
def NewW (ls : List Addr) (t : Addr) (n : Nat) (tch : Int) (ns : List Int) : Zp → Value → Prop := fun Z v => ∃ ls' t', (aWc ls' t' ns).P Z v ∧ Kin ls t ls' t' n tch
section
variable {g : Gd} (hK : g.K = KK g.w.params)
include hK
theorem set_aW {Z : Zp} {O : Own} {a : Addr} {ls : List Addr} {t : Addr} {ns : List Int} {j : Nat} {i x : Int} {ti tx : Tok} (v : (aWc ls t ns).P Z (.ref a)) (hj : j < ns.length) (hi : i = j ∨ i = j - (ns.length : Int)) :
    Con g 24 Z O (call (.ref 190) [.ref a, .int i ti, .int x tx]) (fun Z' O' w => O' = O ∧ NewW ls t ns.length (j / 32 : Nat) (ns.set j x) Z' w) := by
  obtain ⟨a', vss, tl, h, root, e, v, hii⟩ := v
  injection e with e
  subst e
  have hfl := v.leaves.flat
  have hvl := v.leaves.length
  have hlen : ns.length = 32 * ls.length + tl.length := by rw [← hii.length, List.length_append, hfl]
  have h32 := v.tlen
  refine (set_fine hK (val := .int x tx) v (j := j) (by omega) (by rw [hlen] at hi; push_cast at hi; exact hi)).mono fun Z' O' w hz ⟨e, b, ls', vss', t', tl', root', e1, v', hcase⟩ => ⟨e, ls', t', ⟨b, vss', tl', h, root', e1, v', ?_⟩, ?_⟩
  · have hs := intsSet hii j x tx
    rcases hcase with ⟨h1, rfl, rfl, rfl⟩ | ⟨h1, ⟨l, rfl⟩, rfl, rfl, rfl⟩
    · rw [List.set_append, if_neg (by omega), hfl] at hs; exact hs
    · rw [List.set_append, if_pos (by omega)] at hs
      rw [flat_set (tl := tl') j v.leaves.all32 (by omega)]; exact hs
  · rcases hcase with ⟨h1, rfl, rfl, rfl⟩ | ⟨h1, ⟨l, rfl⟩, rfl, rfl, rfl⟩
    · have := Kin.tail (ls := ls') (t := t) (t' := t') (more := []) (n := ns.length) (by omega)
      rw [List.append_nil] at this
      rw [show j / 32 = ls'.length from by omega]
      exact this
    · exact Kin.set
theorem append_aW {Z : Zp} {O : Own} {a : Addr} {ls : List Addr} {t : Addr} {ns : List Int} {x : Int} {tx : Tok} (v : (aWc ls t ns).P Z (.ref a)) (hc : ns.length + 1 ≤ capV) :
    Con g 16 Z O (call (.ref 221) [.ref a, .int x tx]) (fun Z' O' w => O' = O ∧ NewW ls t ns.length (ns.length / 32 : Nat) (ns ++ [x]) Z' w) := by
  obtain ⟨a', vss, tl, h, root, e, v, hii⟩ := v
  injection e with e
  subst e
  have hfl := v.leaves.flat
  have hlen : ns.length = 32 * ls.length + tl.length := by rw [← hii.length, List.length_append, hfl]
  have h32 := v.tlen
  refine (append_ok hK (val := .int x tx) v (by omega)).stepEnd fun Z' O' w s' hz ok pk => ?_
  obtain ⟨b, ls', vss', t', tl', h', root', e1, ⟨d, t1, t2, t3, m, e2, hd, hn, hcap, hl, h32', hs, hh⟩, hcase⟩ := pk
  subst e1 e2
  have s1 := Step.freeze ok
  have ok1 := s1.ok ok
  have s2 := Step.freeze ok1
  have hz2 := s1.le.trans s2.le
  refine ⟨_, O, s1.trans s2, rfl, ls', t', ⟨b, vss', tl', h', root', rfl, OVec.vec rfl (s2.le _ _ (Zp.set_self _ _ _)) (Zp.set_self _ _ _) (hz2 _ _ hd) (hn.le hz2) hcap (hl.le hz2) h32' hs hh, ?_⟩, ?_⟩
  · have ha := hii.append (.cons x tx .nil)
    rcases hcase with ⟨rfl, rfl, rfl, _⟩ | ⟨rfl, rfl, rfl, _⟩
    · rw [List.append_assoc] at ha; exact ha
    · rw [List.flatten_append, List.flatten_singleton]; exact ha
  · rcases hcase with ⟨rfl, rfl, rfl, hlt⟩ | ⟨rfl, rfl, rfl, hlt⟩
    · have := Kin.tail (ls := ls') (t := t) (t' := t') (more := []) (n := ns.length) (by omega)
      rw [List.append_nil] at this
      rw [show ns.length / 32 = ls'.length from by omega]
      exact this
    · have := Kin.more (ls := ls) (t := t) (t' := t') (more := []) (n := ns.length) (tch := (ns.length / 32 : Nat)) (by omega)
      rw [List.append_nil] at this
      exact this
/-- set just behind the last: an append -/
theorem setEnd_aW {Z : Zp} {O : Own} {a : Addr} {ls : List Addr} {t : Addr} {ns : List Int} {x : Int} {ti tx : Tok} (v : (aWc ls t ns).P Z (.ref a)) (hc : ns.length + 1 ≤ capV) :
    Con g 24 Z O (call (.ref 190) [.ref a, .int ns.length ti, .int x tx]) (fun Z' O' w => O' = O ∧ NewW ls t ns.length (ns.length / 32 : Nat) (ns ++ [x]) Z' w) := by
  have v0 := v
  obtain ⟨a', vss, tl, h, root, e, v, hii⟩ := v
  injection e with e
  subst e
  have hlen : ns.length = 32 * ls.length + tl.length := by rw [← hii.length, List.length_append, v.leaves.flat]
  obtain ⟨d, t1, t2, t3, hobj, hd⟩ := v.obj
  refine ConC.con (conDef (k := 23) (bs := [("self", .ref a), ("i", .int ns.length ti), ("val", .int x tx)]) [("self", aVal (.ref a)), ("i", aInt ns.length), ("val", aInt x)] ⟨rfl, rfl, rfl, ⟨_, rfl⟩, rfl, ⟨_, rfl⟩, trivial⟩ hK (by k_is) (by k_is) (fun s _ => BindsTo.of_eq rfl) (by rfl) (by simp) (by rfl) rfl rfl rfl ?_)
  intro L A gs os
  refine exIf (b := !true) (Tst.not (Tst.of (opCall (f := .builtin "isinstance") (as := [aInt ns.length, aVal (.type "int")]) (Ev.boot hK (by k_is) bt_isinstance) Kp.builtin (Evs.cons (by walk_at "nm") (Evs.cons (Ev.boot hK (by k_is) bt_int) Evs.nil)) (fun Z₁ ws hz hds => ?_)) TruR.bool)) (fun h => by cases h) (fun _ => ?_)
  · obtain ⟨w1, w2, rfl, ⟨tk, rfl⟩, e2⟩ := hds.two
    obtain rfl : w2 = .type "int" := e2
    exact conIsiII
  refine exIf (Tst.cmp (by walk_at "nm") Ev.int cmpLt) (fun hb => absurd hb (by simp)) (fun _ => ?_)
  refine exIf (Tst.chain2 Ev.int (by walk_at "nm") (evInt (evSlot hK (kCount g.w) (by walk_at "nm") (.inl hobj) (.inl hd) rfl)) cmpLe cmpLt) (fun hb => absurd hb (by simp; omega)) (fun _ => ?_)
  refine exIf (Tst.cmp (by walk_at "nm") (evInt (evSlot hK (kCount g.w) (by walk_at "nm") (.inl hobj) (.inl hd) rfl)) cmpEq) (fun _ => ?_) (fun hb => absurd hb (by simp; omega))
  refine exRet (opMeth (f := .ref 221) (by walk_at "nm") (fun Z₂ ov hz hov => ?_) (Kp.own hK (by k_is)) (Evs.cons (by walk_at "nm") Evs.nil) (fun Z₂ ov ws hz2 hov hds => ?_)) fun Z' O' v' _ p => p
  · obtain rfl : ov = .ref a := hov
    exact conMeth hK (mAppend g.w) (.inl (hz _ _ hobj)) (.inl (hz _ _ hd))
  · obtain rfl : ov = .ref a := hov
    obtain ⟨v1, rfl, tk, rfl⟩ := hds.one
    exact (append_aW hK ((aWc ls t ns).mono hz2 v0) hc).room (Nat.le_of_ble_eq_true rfl)
/-- what extend takes, told by its ints -/
def GivI (Z : Zp) (o : Addr) (ms : List Int) : Prop := GivQ Z o (fun ys => IntsAre ys ms)
theorem extend_aW {Z : Zp} {O : Own} {a o : Addr} {ls : List Addr} {t : Addr} {ns ms : List Int} (v : (aWc ls t ns).P Z (.ref a)) (ho : GivI Z o ms) (hc : ns.length + ms.length ≤ capV) :
    Con g 24 Z O (call (.ref 256) [.ref a, .ref o]) (fun Z' O' w => O' = O ∧ NewW ls t ns.length (if ms ≠ [] then ((ns.length / 32 : Nat) : Int) else -1) (ns ++ ms) Z' w) := by
  have v0 := v
  obtain ⟨a', vss, tl, h, root, e, v, hii⟩ := v
  injection e with e
  subst e
  have hlen : ns.length = 32 * ls.length + tl.length := by rw [← hii.length, List.length_append, v.leaves.flat]
  have h32 := v.tlen
  refine (extend_gen hK v ho fun ys hy => by rw [hy.length]; omega).mono fun Z' O' w hz ⟨e, ys, hy, hcase⟩ => ⟨e, ?_⟩
  rcases hcase with ⟨rfl, e⟩ | ⟨hne, b, ls', vss', t', tl', h', root', e, v', hcon, hmore⟩
  · cases hy
    subst e
    exact ⟨ls, t, by rw [List.append_nil]; exact (aWc ls t ns).mono hz v0, Kin.same⟩
  · refine ⟨ls', t', ⟨b, vss', tl', h', root', e, v', by rw [hcon]; exact hii.append hy⟩, ?_⟩
    have hms : ms ≠ [] := fun e => hne (by rw [e] at hy; cases hy; rfl)
    rw [if_pos hms]
    rcases hmore with ⟨h1, more, rfl⟩ | ⟨h1, more, rfl⟩
    · rw [show ns.length / 32 = ls.length from by omega]
      exact Kin.tail (by omega)
    · exact Kin.more (by omega)
/-- pvector(range(n)) -/
theorem pvecR_ok {Z : Zp} {O : Own} {o : Addr} {n : Nat} {tt u w : Tok} (tz : ∀ a o, g.T.get? a = some o → Z a = some o) (ho : Z o = some (rangeO 0 (n : Int) 1 tt u w)) (hn : n ≤ 5000) :
    Con g 25 Z O (call (.ref 320) [.ref o]) (fun Z' O' w => O' = O ∧ (aVb n ((List.range n).map fun i : Nat => (i : Int))).P Z' w) := by
  have hE := emptyV hK tz
  obtain ⟨ls, vss, t, tl, h, root, vv, exs⟩ := id hE
  obtain ⟨d, t1, t2, t3, hobj, hd⟩ := vv.obj
  refine ConC.con (conDef (k := 24) (bs := [("iterable", .ref o)]) [("iterable", aVal (.ref o))] ⟨rfl, rfl, trivial⟩ hK (by k_is) (by k_is) (fun s ok => ?bind) (by rfl) (by simp) (by rfl) rfl rfl rfl ?_)
  case bind => exact BindsTo.of_defaults rfl (ok.zin _ _ (kInZ hK tz (by k_is))) rfl rfl rfl
  intro L A gs os
  refine exRet (P := fun Z' O' w => O' = O ∧ (aVb n ((List.range n).map fun i : Nat => (i : Int))).P Z' w) (opMeth (f := .ref 256) (Po := aVal (.ref 311)) (Ev.glob hK (by k_is)) (fun Z₂ ov hz hov => ?_) (Kp.own hK (by k_is)) (Evs.cons (by walk_at "nm") Evs.nil) (fun Z₂ ov ws hz2 hov hds => ?_)) (fun Z' O' v' _ p => p)
  · obtain rfl : ov = .ref 311 := hov
    exact conMeth hK (mExtend g.w) (.inl (hz _ _ hobj)) (.inl (hz _ _ hd))
  · obtain rfl : ov = .ref 311 := hov
    obtain ⟨v1, rfl, e1⟩ := hds.one
    obtain rfl : v1 = .ref o := e1
    have hE0 : (aWc ls t []).P Z₂ (.ref 311) := ⟨_, vss, tl, h, root, rfl, vv.le hz2, by rw [← exs]; exact .nil⟩
    have hcap : 5000 ≤ capV := by decide
    exact ((extend_aW hK hE0 (.inr ⟨n, tt, u, w, hz2 _ _ ho, hn, fun ys h => h⟩) (by simp; omega)).room (Nat.le_of_ble_eq_true rfl)).mono fun Z' O' w hz ⟨e, ls', t', h1, _⟩ => ⟨e, aWc.toVb (by simpa using h1) (by simp)⟩
end
theorem fillK32 (w : World) : (KK w.params = KK w.params) ∧ (PySem.Challenge.rw_nc0017_01.name = PySem.Challenge.rw_nc0017_01.name) := by k_fill; exact ⟨rfl, rfl⟩
theorem divSmall {i j : Int} (hj : 0 < j) (h2 : j < 2 ^ 30) : Builtin.divisionGoesByPylong i j = false := by
  unfold Builtin.divisionGoesByPylong
  have : j.natAbs.log2 < 30 := (Nat.log2_lt (by omega)).mpr (by omega)
  have h3 : j.natAbs.log2 / 30 = 0 := Nat.div_eq_of_lt this
  have h4 : ¬ ((if j == 0 then 0 else j.natAbs.log2 / 30 + 1) > 300) := by
    rw [h3]; split <;> omega
  simp only [Bool.and_eq_false_iff, decide_eq_false_iff_not]
  exact .inl h4
theorem range32 (n : Nat) (hn : n ≤ 5000) : Builtin.Range.small 0 (n : Int) 32 = true ∧ (Builtin.Range.rangeSize 0 (n : Int) 32).toNat = (n + 31) / 32 := by
  have h0 : Builtin.Range.rangeSize 0 (n : Int) 32 = (((n + 31) / 32 : Nat) : Int) := by
    unfold Builtin.Range.rangeSize
    rw [if_pos (by decide)]
    split <;> omega
  constructor
  · unfold Builtin.Range.small
    rw [h0]
    unfold Builtin.Range.rangeFitsLong
    simp
    omega
  · rw [h0]; omega
theorem aComp.refs {Z : Zp} {n : Nat} {f : Nat → Addr} {v : Value} (h : (aComp n (fun i => aVal (.ref (f i)))).P Z v) : (aRefs ((List.range n).map f)).P Z v := by
  obtain ⟨a, vs, m, e1, e2, e3, e4⟩ := h
  refine ⟨a, m, e1, ?_⟩
  have : vs = ((List.range n).map f).map .ref := by
    apply List.ext_getElem?
    intro j
    rw [List.getElem?_map, List.getElem?_map]
    by_cases hj : j < n
    · have hx : vs[j]? = some vs[j] := List.getElem?_eq_getElem (by omega)
      have : vs[j] = .ref (f j) := e4 j _ hx
      rw [hx, this, List.getElem?_range hj]; rfl
    · rw [List.getElem?_eq_none (by omega), List.getElem?_eq_none (by simp; omega)]; rfl
  rw [← this]; exact e2
section
variable {g : Gd} (hK : g.K = KK g.w.params)
include hK
/-- PythonPVector._node_for(v, place) -/
theorem evNode {r : Frm} {ρ : Loc} {Z : Zp} {O : Own} {e1 e2 : Expr} {apos pos p : Pos} {pl : Sem Bool} {ls : List Addr} {t : Addr} {ns : List Int} {j : Nat} (h1 : Ev g r ρ Z O e1 (aWc ls t ns)) (h2 : Ev g r ρ Z O e2 (aInt (j : Nat))) (hj : j < ns.length) (hk : 6 ≤ r.k)
    (hl : r.env.kindOf "PythonPVector" = some .globalImplicit := by rfl) (hst : starEach [e1, e2] r.env = (false, eval e1 r.env) :: starEach [e2] r.env := by rfl) (hst2 : starEach [e2] r.env = (false, eval e2 r.env) :: starEach [] r.env := by rfl)
    (hev : eval (.Call (.Attribute (.Name "PythonPVector" p) "_node_for" apos) [e1, e2] [] pos) r.env = (do
      let ov ← eval (.Name "PythonPVector" p) r.env
      standAt apos.atName
      let (f, first) ← holding [ov] (getMethod ov "_node_for" pl)
      callWith pos f first (backTo pos (starEach [e1, e2] r.env)) []) := by rfl) :
    Ev g r ρ Z O (.Call (.Attribute (.Name "PythonPVector" p) "_node_for" apos) [e1, e2] [] pos) (aVal (.ref ((ls ++ [t]).getD (j / 32) 0))) := by
  refine opMethG (f := .ref 204) (Po := aVal (.ref C)) (as := [aWc ls t ns, aInt (j : Nat)]) (first := fun _ => []) (Ev.glob hK (by k_is) hl) (fun Z₂ ov hz hov => ?_) (Kp.own hK (by k_is)) (Evs.cons h1 (Evs.cons h2 Evs.nil hst2) hst) (fun Z₂ ov ws hz2 hov hds => ?_) hev
  · obtain rfl : ov = .ref C := hov
    obtain ⟨rest, hr⟩ := kNodeFor2 g.w
    exact conClsStat hK (kCga g.w) (kCrd g.w) (kNodeFor g.w) hr
  · obtain ⟨v1, v2, rfl, ⟨a, vss, tl, h, root, rfl, x, i⟩, ⟨tk, rfl⟩⟩ := hds.two
    exact (nodefor_ok hK x (by rw [← x.leaves.flat, ← List.length_append, i.length]; exact hj)).room hk
theorem leaves_ok {Z : Zp} {O : Own} {v : Value} {ls : List Addr} {t : Addr} {ns : List Int} {tn : Tok} (hv : (aWc ls t ns).P Z v) (hn : ns.length ≤ 5000) :
    Con g 10 Z O (call (.ref 325) [v, .int ns.length tn]) (fun Z' O' w => O' = O ∧ (aRefs (leavesOf ls t ns.length)).P Z' w) := by
  have hsz : 5000 ≤ sizeLine := Nat.le_of_ble_eq_true rfl
  refine ConC.con (conDefC (k := 9) [(Str.ofString "vector", v), (Str.ofString "many", .int ns.length tn)] [("many", aInt ns.length)] hK (by k_is) (by k_is) rfl (fun n x hx => ?_) (fun x av hx => ?_) (fun n => ?_) rfl rfl rfl ?_)
  · rcases List.mem_cons.mp hx with rfl | hx
    · exact .inr ⟨rfl, rfl⟩
    · obtain rfl := List.mem_singleton.mp hx
      exact .inl rfl
  · obtain e := List.mem_singleton.mp hx
    injection e with e1 e2
    subst e1 e2
    exact ⟨.int ns.length tn, rfl, rfl, tn, rfl⟩
  · show ([Str.ofString "vector"] : List Str).Nodup
    decide
  intro L A gs os ob hob
  have h1 : (ob (L + 1)).data = .cell (some v) := hob (Str.ofString "vector", L + 1) (.head _)
  show Exs g _ _ _ ((L + 1, ob (L + 1)) :: O) _ _
  refine Ex.frz fun Z₁ hz1 hc1 => ?_
  refine Ex.cellIn (x := "vector") (v := v) (av := aWc ls t ns) rfl rfl hc1 h1 ((aWc ls t ns).mono hz1 hv) ?_
  refine exRetEv (P := aComp ((ns.length + 31) / 32) (fun i => aVal (.ref ((ls ++ [t]).getD i 0)))) (evComp (cl := [(Str.ofString "vector", L + 1)]) ((ns.length + 31) / 32) (fun i => aInt (0 + (i : Nat) * 32)) (fun i => aVal (.ref ((ls ++ [t]).getD i 0))) [("vector", aWc ls t ns)]
    (evRange3 hK (by k_is) Ev.int (by walk_at "nm") Ev.int (by decide) (divSmall (by decide) (by decide))) (fun Z₂ v' hz2 hv' => ?_) (by omega) (fun p hp => ?_) (fun i Cc Zs hi hz => ?_) rfl (by decide) rfl (by decide) rfl (fun _ => rfl)) fun Z₂ v' hz2 h => ⟨rfl, aComp.refs h⟩
  · obtain ⟨a, t', u, w', rfl, h⟩ := hv'
    obtain ⟨r1, r2⟩ := range32 ns.length hn
    have := iterRangeS (g := g) (k := 9) (O := O) h r1
    rw [r2] at this
    exact this
  · obtain rfl := List.mem_singleton.mp hp
    exact ⟨.head _, rfl, rfl, rfl⟩
  · have hj : 32 * i < ns.length := by omega
    have hx : (0 + ((i : Nat) : Int) * 32) = ((32 * i : Nat) : Int) := by push_cast; omega
    refine Ev.mono (evNode hK (ls := ls) (t := t) (ns := ns) (j := 32 * i) (by walk_at "nm") (by rw [← hx]; walk_at "nm") hj (Nat.le_of_ble_eq_true rfl)) fun Z' w hz e' => ?_
    rw [show 32 * i / 32 = i from by omega] at e'
    exact e'
end
end Mine
end
section
open PySem PySem.W PyProof.Rows PySem.Calls
set_option Elab.async false
set_option maxRecDepth 100000
set_option maxHeartbeats 2000000
set_option linter.unusedVariables false
namespace Mine
abbrev outX : Str := Str.mk #[73,110,100,101,120,32,111,117,116,32,111,102,32,114,97,110,103,101,58,32,37,115]
end Mine
end
section
open PySem PySem.W PyProof.Rows PySem.Calls
set_option Elab.async false
set_option maxRecDepth 100000
set_option maxHeartbeats 2000000
set_option linter.unusedVariables false
namespace Mine
/-! a def that refuses -/
def ExX (g : Gd) (r : Frm) (ρ : Loc) (Z : Zp) (O : Own) (t : Sem Flow) (cls : String) : Prop :=
  ∀ B Z₁ s (Q : Flow → Shared → Prop) (E : Value → Shared → Prop), Z.Le Z₁ → Sta g r B s ρ Z₁ O →
    (∀ ρ' s₁ Z' O', Z₁.Le Z' → Sta g r B s₁ ρ' Z' O' → ∀ h' e vs, Heap.MadeExc s₁.heap h' e cls vs → E (.ref e) { s₁ with heap := h' }) → wpAny g.M r.A t Q E s
section
variable {g : Gd} {r : Frm} {ρ : Loc} {Z : Zp} {O : Own} {cls : String}
theorem exIfX {test : Expr} {body orelse rest : List Stmt} {pos : Pos} {b : Bool} (ht : Tst g r ρ Z O test b) (h1 : b = true → ExX g r ρ Z O (execs (body ++ rest) r.env) cls) (h2 : b = false → ExX g r ρ Z O (execs (orelse ++ rest) r.env) cls) :
    ExX g r ρ Z O (execs (.If test body orelse pos :: rest) r.env) cls := by
  intro B Z₁ s Q E hz st hq
  rw [execs_If]
  refine wpAny_bind (wpAny_standAt (wpAny_bind (wpAny_mono (ht B Z₁ s _ hz st fun v s' Z' O' hz' st' ⟨e, p⟩ => ?_) (fun _ _ h => h) fun _ _ h => h.elim)))
  subst e p
  cases v with
  | true => exact h1 rfl B Z' s' Q E (hz.trans hz') st' fun ρ' s₁ Z'' O'' hz'' st'' => hq ρ' s₁ Z'' O'' (hz'.trans hz'') st''
  | false => exact h2 rfl B Z' s' Q E (hz.trans hz') st' fun ρ' s₁ Z'' O'' hz'' st'' => hq ρ' s₁ Z'' O'' (hz'.trans hz'') st''
theorem exThenX {a b : List Stmt} {F₁ : Flow → Loc → Zp → Own → Prop} (h : Exs g r ρ Z O a F₁) (hn : ∀ fl ρ' Z' O', F₁ fl ρ' Z' O' → fl = .next) (hr : ∀ ρ' Z' O', Z.Le Z' → F₁ .next ρ' Z' O' → ExX g r ρ' Z' O' (execs b r.env) cls) :
    ExX g r ρ Z O (execs (a ++ b) r.env) cls := by
  intro B Z₁ s Q E hz st hq
  rw [execs_append]
  refine wpAny_bind (wpAny_mono (h B Z₁ s _ hz st fun fl ρ' s' Z' O' hz' st' p => ?_) (fun _ _ h => h) fun _ _ h => h.elim)
  obtain rfl := hn _ _ _ _ p
  exact hr ρ' Z' O' (hz.trans hz') p B Z' s' Q E (.refl _) st' fun ρ'' s₁ Z'' O'' hz'' st'' => hq ρ'' s₁ Z'' O'' (hz'.trans hz'') st''
theorem exRaiseX {x : Str} {np cpos pos : Pos} {e₀ : Expr} {rest : List Stmt} {P : AV} {nid iid : String} (FC : ExcCallFacts cls nid iid) (FR : ExcRaiseFacts cls) (hf : Ev g r ρ Z O (.Name x np) (aVal (.type cls))) (h0 : Ev g r ρ Z O e₀ P)
    (he : starEach [e₀] r.env = (false, eval e₀ r.env) :: starEach [] r.env := by rfl) : ExX g r ρ Z O (execs (.Raise (some (.Call (.Name x np) [e₀] [] cpos)) none pos :: rest) r.env) cls := by
  intro B Z₁ s Q E hz st hq
  refine wpAny_execs_cons (Raise_madeB FC FR st.room.1 (wpAny_mono (hf B Z₁ s _ hz st fun v s' Z' O' hz' st' ⟨e, p⟩ => ?_) (fun _ _ h => h) fun _ _ h => h.elim) he rfl)
  subst e
  refine ⟨p, wpAny_mono ((Evs.cons h0 Evs.nil he).1 B Z' s' _ (hz.trans hz') st' fun vs s'' Z'' O'' hz'' st'' ⟨e, d⟩ => ?_) (fun _ _ h => h) fun _ _ h => h.elim⟩
  subst e
  obtain ⟨v1, rfl, _⟩ := d.one
  exact ⟨(show 1 ≤ sizeLine by decide), fun h' e hx => hq ρ s'' Z'' _ (hz'.trans hz'') st'' h' e _ hx⟩
end
/-- everything but one object -/
structure Hole (hb h : Heap) (L : Addr) : Prop where
  stays : hb.StaysIn h
  none : hb.get? L = none
  rest : ∀ a o, a ≠ L → h.get? a = some o → hb.get? a = some o
theorem freed_at (h : Heap) (L : Addr) (o : Obj) : (h.update L (fun _ => { o with data := .freed })).get? L = none := by
  obtain ⟨objs, l⟩ := h
  unfold Heap.get? Heap.update
  simp only [Array.getElem?_modify]
  cases objs[L]? <;> simp
theorem hole_at (h : Heap) (L : Addr) : ∃ hb, Hole hb h L := by
  refine ⟨h.update L (fun _ => { (default : Obj) with data := .freed }), ?_, freed_at h L _, ?_⟩
  · intro b ob e
    by_cases hb : b = L
    · subst hb
      rw [freed_at] at e; cases e
    · rw [Heap.get?_update_other _ _ (Ne.symm hb)] at e; exact e
  · intro a oa ha e
    rw [Heap.get?_update_other _ _ (Ne.symm ha)]; exact e
section
variable {g : Gd} {r : Frm} {ρ : Loc} {Z : Zp} {O : Own}
/-- a frame's state behind an exception that came from a call and was caught -/
theorem Sta.flown {B : Zp} {s s' : Shared} {hb : Heap} (x : Sta g r B s ρ Z O) (h : Hole hb s.heap r.L) (k : hb.StaysIn s'.heap) (u : s.heap.UpToSlots s'.heap) (hg : s'.gens = s.gens) (ho : s'.os = s.os) : Sta g r B s' ρ Z O :=
  { x with
    loc := let ⟨m, hn, hl⟩ := x.loc; ⟨m, u.ns hn, hl⟩
    zin := fun a o e => k a o (h.rest a o (by rintro rfl; rw [x.zL] at e; cases e) (x.zin a o e))
    bin := fun a o e => k a o (h.rest a o (by rintro rfl; rw [x.bL] at e; cases e) (x.bin a o e))
    own := fun p hp => ⟨k _ _ (h.rest _ _ (x.own p hp).2.2.2 (x.own p hp).1), (x.own p hp).2⟩
    gens := hg.trans x.gens
    os := ho.trans x.os }
/-- a call that refuses, out of a frame that is the only one -/
def RefX (g : Gd) (k : Nat) (Z : Zp) (O : Own) (f : Value) (vs : List Value) (cls : String) : Prop :=
  ∀ (A : Around) (s : Shared) (Q : Value → Shared → Prop) (E : Value → Shared → Prop) (outer : List Env) (hb : Heap), Room A k → Ok g Z O s → A.frames = some outer → s.heap.FunFrames hb outer → hb.StaysIn s.heap →
    (∀ s' e a0, s'.gens = s.gens → s'.os = s.os → Heap.FlyingW hb outer e (.type cls) a0 s'.heap → s.heap.UpToSlots s'.heap → E (.ref e) s') → wpAny g.M A (call f vs) Q E s
theorem refFn {K : Frag} {f : Addr} {name qual : Str} {params : Arguments} {body : List Stmt} {scope : Scope} {cl : List (Str × Addr)} {dV kV doc pm cdv ct oc : Value} {an od : Option Addr} {osl : Array (Option Value)} {vs : List Value} {k : Nat} {cls : String}
    (bs : List (String × Value)) (ρ₀ : Loc) (hst : Start Z bs ρ₀) (hK : g.K = K)
    (ho : K.lookup f = some ⟨oc, od, .func (fnX name qual params body scope cl dV kV doc pm an cdv ct), osl⟩) (hcd : codeIn K cdv qual = true)
    (hbind : ∀ s, Ok g Z [] s → BindsTo s (fnX name qual params body scope cl dV kV doc pm an cdv ct) ⟨vs, []⟩ (bs.map fun p => (Str.ofString p.1, p.2)))
    (hloc : (bs.all fun p => decide (scope.names.lookup (Str.ofString p.1) = some .local)) = true) (hnd : (bs.map (·.1)).Nodup)
    (hcell : (scope.names.all fun x => x.2 != .cell) = true) (hco : scope.isCoroutine = false) (hgen : scope.isGenerator = false) (hk : scope.kind = .function)
    (h : ∀ (L : Addr) (A : Around) (gs : Array GenState) (os : OsState),
      ExX g { name := qual, scope := scope, L := L, f := f, cd := cdv, cells := cl, A := A, k := k, Z₀ := Z, gens := gs, os := os } ρ₀ Z [] (execs body (Frm.env { name := qual, scope := scope, L := L, f := f, cd := cdv, cells := cl, A := A, k := k, Z₀ := Z, gens := gs, os := os })) cls) :
    RefX g (k + 1) Z O (.ref f) vs cls := by
  subst hK
  intro A s Q E outer hb hr ok0 hfr hff hsb hq
  have ok : Ok g Z [] s := (Step.drop ok0 (List.nil_sublist _)).ok ok0
  have hlocs : ∀ x ∈ bs.map (fun p => (Str.ofString p.1, p.2)), scope.names.lookup x.1 = some .local := fun x hx => by
    obtain ⟨p, hp, rfl⟩ := List.mem_map.mp hx
    exact of_decide_eq_true (List.all_eq_true.mp hloc p hp)
  refine wpAny_call (codeAny_call_def (fd := fnX name qual params body scope cl dV kV doc pm an cdv ct) (body := body) (binds := bs.map fun p => (Str.ofString p.1, p.2)) hr.depth (ok.K_in _ _ ho) rfl ok.top.nolimit (codeRec_of ok.K_in hcd) rfl (hbind s ok)
    (fun x hx => by have := List.all_eq_true.mp hcell x hx; simpa using this) hlocs (fun h₀ hns hkeep => ?_) hco hgen hk)
  have hL : s.heap.get? s.heap.objs.size = none := by
    cases hz : s.heap.get? s.heap.objs.size with
    | none => rfl
    | some o' => exact absurd (Heap.lt_size hz) (Nat.lt_irrefl _)
  let rr : Frm := { name := qual, scope := scope, L := s.heap.objs.size, f := f, cd := cdv, cells := cl, A := A.deeper (callEnv (fnX name qual params body scope cl dV kV doc pm an cdv ct) s.heap.objs.size f), k := k, Z₀ := Z, gens := s.gens, os := s.os }
  have hlook : ∀ p ∈ bs, (bs.map fun p => (Str.ofString p.1, p.2)).reverse.lookup (Str.ofString p.1) = some p.2 := by
    intro p hp
    refine lookup_of_mem ?_ (List.mem_reverse.mpr (List.mem_map.mpr ⟨p, hp, rfl⟩))
    rw [List.map_reverse, List.map_map]
    have : (bs.map fun p => Str.ofString p.1).Nodup := by
      have h2 := List.pairwise_map.mp hnd
      exact List.pairwise_map.mpr (h2.imp fun hne e => hne (ofString_inj e))
    exact (List.reverse_perm _).nodup_iff.mpr this
  have st : Sta g rr (fun a => s.heap.get? a) { s with heap := h₀, toks := s.toks + (bs.map fun p => (Str.ofString p.1, p.2)).length } ρ₀ Z [] :=
    { loc := ⟨_, hns, fun y b hy => by
        obtain ⟨v, hv, hp⟩ := hst.mem y b hy
        exact ⟨v, .inl ⟨hlocs _ (List.mem_map.mpr ⟨(y, v), hv, rfl⟩), hlook (y, v) hv⟩, hp⟩⟩
      hk := hk
      room := hr.deeper
      zin := fun a o e => hkeep a o (ok.zin a o e)
      tz := ok.tz
      zL := by
        show Z s.heap.objs.size = none
        cases hz : Z s.heap.objs.size with
        | none => rfl
        | some o' => rw [ok.zin _ _ hz] at hL; cases hL
      bin := fun a o e => hkeep a o e
      bL := hL
      new := fun a o e _ => by show Z a ≠ none; rw [e]; intro h; cases h
      z0 := .refl _
      own := fun p hp => nomatch hp
      nod := List.nodup_nil
      gens := rfl
      os := rfl }
  refine h s.heap.objs.size rr.A s.gens s.os _ Z _ _ _ (.refl _) st fun ρ' s₁ Z' O' hz' st' h' e vs' hx => ?_
  have hbL : hb.get? s.heap.objs.size = none := by
    cases hz : hb.get? s.heap.objs.size with
    | none => rfl
    | some o' => rw [hsb _ _ hz] at hL; cases hL
  obtain ⟨m, hn, _⟩ := st'.loc
  have hff1 : s₁.heap.FunFrames hb outer := hff.of_keeps fun b o hb _ => ⟨o, st'.bin b o hb, rfl⟩
  refine wpAny_leaves_madeW (h := s₁.heap) (L := s.heap.objs.size) (Around.frames_deeper hfr) rfl (fun b o e => st'.bin b o (hsb b o e)) (Heap.FunFrames.cons (L := s.heap.objs.size) (by show scope.kind ≠ .module; rw [hk]; intro h; cases h) rfl hn hbL hff1) hx.of fun h'' t hfl _ _ hu => ?_
  refine hq _ e (.ref t) st'.gens st'.os hfl ?_
  exact (Heap.UpToSlots.of_keeps fun b o e => hx.keeps b o (st'.bin b o e)).trans hu
end
end Mine
end
section
open PySem PySem.W PyProof.Rows PySem.Calls
set_option Elab.async false
set_option maxRecDepth 100000
set_option maxHeartbeats 2000000
set_option linter.unusedVariables false
namespace Mine
def OpX (g : Gd) (r : Frm) (ρ : Loc) (Z : Zp) (O : Own) (t : Sem Value) (cls : String) : Prop :=
  ∀ B Z₁ s (Q : Value → Shared → Prop) (E : Value → Shared → Prop), Z.Le Z₁ → Sta g r B s ρ Z₁ O → r.A.frames = some [r.env] → r.env.frame = some r.L →
    (∀ s1 s' e a0 hb Z', Z₁.Le Z' → Sta g r B s1 ρ Z' O → Hole hb s1.heap r.L → s'.gens = s1.gens → s'.os = s1.os → Heap.FlyingW hb [r.env] e (.type cls) a0 s'.heap → s1.heap.UpToSlots s'.heap → E (.ref e) s') → wpAny g.M r.A t Q E s
section
variable {g : Gd} {r : Frm} {ρ : Loc} {Z : Zp} {O : Own} {cls : String}
theorem opMethX {o : Expr} {nm : Str} {f : Value} {apos pos : Pos} {es : List Expr} {as : List AV} {Po : AV} {pl : Sem Bool} (ho : Ev g r ρ Z O o Po)
    (hm : ∀ Z₁ ov, Z.Le Z₁ → Po.P Z₁ ov → Con g r.k Z₁ O (getMethod ov nm pl) (fun Z' O' fx => O' = O ∧ fx = (f, [ov]))) (hk : Kp g f) (h : Evs g r ρ Z O pos es as)
    (hc : ∀ Z₁ ov vs, Z.Le Z₁ → Po.P Z₁ ov → Dens Z₁ vs as → RefX g r.k Z₁ O f (ov :: vs) cls)
    (he : eval (.Call (.Attribute o nm apos) es [] pos) r.env = (do
      let ov ← eval o r.env
      standAt apos.atName
      let (f, first) ← holding [ov] (getMethod ov nm pl)
      callWith pos f first (backTo pos (starEach es r.env)) []) := by rfl) : OpX g r ρ Z O (eval (.Call (.Attribute o nm apos) es [] pos) r.env) cls := by
  intro B Z₁ s Q E hz st hfr hL hq
  refine MethodCall_ (wpAny_mono (ho B Z₁ s _ hz st fun ov s' Z' O' hz' st' ⟨e, p⟩ => ?_) (fun _ _ h => h) fun _ _ h => h.elim) he
  subst e
  refine wpAny_mono (Op.of_con (ρ := ρ) (fun Z₃ hz3 => hm Z₃ ov (hz.trans (hz'.trans hz3)) (Po.mono hz3 p)) B Z' s' _ (.refl _) st' fun fx s2 Z2 O2 hz2 st2 ⟨e, p2⟩ => ?_) (fun _ _ h => h) fun _ _ h => h.elim
  subst e p2
  refine callWith_of (P := g.K.In) ?_ hk ?_
  · rw [h.any]; rfl
  · refine evalArgs_any ?_ (wpAny_mono ((h.le (hz.trans (hz'.trans hz2))).1 B Z2 s2 _ (.refl _) st2 fun vs s3 Z3 O3 hz3 st3 ⟨e, d⟩ => ⟨st3.ok.K_in, ?_⟩) (fun _ _ h => h) fun _ _ h => h.elim)
    · intro p hp
      have := h.any
      rw [List.any_eq_false] at this
      simpa using this p hp
    · subst e
      obtain ⟨hb, hole⟩ := hole_at s3.heap r.L
      obtain ⟨m, hn, _⟩ := st3.loc
      exact hc Z3 ov vs (hz.trans (hz'.trans (hz2.trans hz3))) (Po.mono (hz2.trans hz3) p) d r.A s3 _ _ [r.env] hb st3.room st3.ok hfr (Heap.FunFrames.cons (L := r.L) (by show r.scope.kind ≠ .module; rw [st3.hk]; intro h; cases h) hL hn hole.none trivial) hole.stays
        fun s' e a0 hg ho' hfl hu => hq s3 s' e a0 hb Z3 (hz'.trans (hz2.trans hz3)) st3 hole hg ho' hfl hu
/-- try: x = e (which goes well) -/
theorem exTryOk {body rest : List Stmt} {h₀ : ExceptHandler} {hs : List ExceptHandler} {pos : Pos} {F₁ F : Flow → Loc → Zp → Own → Prop} (h : Exs g r ρ Z O body F₁) (hn : ∀ fl ρ' Z' O', F₁ fl ρ' Z' O' → fl = .next) (hr : ∀ ρ' Z' O', Z.Le Z' → F₁ .next ρ' Z' O' → Exs g r ρ' Z' O' rest F) :
    Exs g r ρ Z O (.Try body (h₀ :: hs) [] [] pos :: rest) F := by
  refine exs_cons (F₁ := F₁) ?_ hr fun fl ρ' Z' O' hne _ p => absurd (hn _ _ _ _ p) hne
  intro B Z₁ s Q hz st hq
  refine wpAny_Try_except (wpAny_mono (h B Z₁ s _ hz st fun fl ρ' s' Z' O' hz' st' p => ?_) (fun _ _ h => h) fun _ _ h => h.elim)
  obtain rfl := hn _ _ _ _ p
  exact wpAny_execs_nil (hq .next ρ' s' Z' O' hz' st' p)
/-- try: x = e (which is refused) except X: .. continue -/
theorem exTryRef {K : Frag} {x : String} {px apos xp hpos pos : Pos} {e : Expr} {X : Str} {b₀ : Stmt} {suite rest : List Stmt} {F : Flow → Loc → Zp → Own → Prop} (hK : g.K = K) (hX : nsIn K mainGlobals X = some none) (hv : bootBuiltins X = some (.type cls)) (hx : OpX g r ρ Z O (eval e r.env) cls)
    (hfr : r.A.frames = some [r.env]) (hL : r.env.frame = some r.L)
    (hexc : isSubtype (.type cls) (.type "BaseException") = pure true) (hnt : isSubtype (.type ((Manifest.find? cls).elim "type" fun x => x.metatype)) (.type "tuple") = pure false) (hsub : isSubtype (.type cls) (.type cls) = pure true)
    (hsuite : ∀ B Z' s A' E', Sta g r B s ρ Z' O → wpAny g.M A' (execs (b₀ :: suite) r.env) (fun fl s' => fl = .cont ∧ ∃ t, s' = { s with toks := t }) E' s) (hc : ∀ Z', Z.Le Z' → F .cont ρ Z' O)
    (hsw : swapsWith e (some (.Name (Str.ofString x) px)) apos.line r.env = pure false := by rfl) (hn : X ≠ "__name__" := by decide) (hk : r.env.kindOf X = some .globalImplicit := by rfl) (hd : (X == ("__debug__" : Str)) = false := by decide) :
    Exs g r ρ Z O (.Try [.Assign [.Name (Str.ofString x) px] e apos] [.ExceptHandler (some (.Name X xp)) none (b₀ :: suite) hpos] [] [] pos :: rest) F := by
  subst hK
  refine exs_cons (F₁ := fun fl ρ' Z' O' => fl = .cont ∧ ρ' = ρ ∧ O' = O) ?_ (fun ρ' Z' O' hz ⟨e1, _⟩ => by cases e1) fun fl ρ' Z' O' hne hz ⟨e1, e2, e3⟩ => by subst e1 e2 e3; exact hc Z' hz
  intro B Z₁ s Q hz st hq
  refine wpAny_Try_except (wpAny_execs_cons (wpAny_Assign_Name (hx B Z₁ s _ _ hz st hfr hL fun s1 s' e a0 hb Z' hz' st1 hole hg ho hfl hu => ?_) hsw))
  have hstay : ∀ s'', hb.StaysIn s''.heap → s1.heap.UpToSlots s''.heap → s''.gens = s1.gens → s''.os = s1.os → Sta g r B s'' ρ Z' O := fun s'' k u hg ho => st1.flown hole k u hg ho
  refine wpAny_looks_onW hfr hL hfl fun h2 hheld hu2 => ?_
  refine wpAny_landsW hheld fun h3 hfl3 hu3 => ?_
  have st3 := hstay { s' with heap := h3 } hfl3.1 (hu.trans (hu2.trans hu3)) hg ho
  refine wpAny_handleBy_builtin (X := cls) (T := cls) (b := true) hexc hnt hsub ?_
  refine Calls.Name_function_global st3.hk hk (Calls.loadGlobal_builtin (env := r.env) st3.ok.top.g (mg_none_of g.X g.R.g hX) st3.ok.top.b ((g.R.builtins X hn).trans hv) ⟨rfl, ?_, ?_⟩) hd
  · obtain ⟨ob, h1, h2⟩ := hfl3.there
    exact ⟨ob, h1, h2⟩
  · rw [if_pos rfl]
    refine wpAny_setFlight_noneW (fl := .none) hfl3.1 hfl3.2.2.1 hfl3.2.2.2 fun h4 k1 k2 k3 k4 => ?_
    have st4 := hstay { s' with heap := h4 } k1 ((hu.trans (hu2.trans hu3)).trans fun b o eb hn => ⟨o.slots, k4 b o eb hn⟩) hg ho
    refine wpAny_mono (hsuite B Z' _ _ _ st4) (fun fl s5 ⟨e5, t, e6⟩ => ?_) fun _ _ h => h
    subst e5 e6
    exact hq .cont ρ _ Z' O hz' (st4.toks t) ⟨rfl, rfl, rfl⟩
end
theorem ix_base : isSubtype (.type "IndexError") (.type "BaseException") = pure true := by rw [isSubtype_type]; kernel_rfl
theorem ix_meta : isSubtype (.type ((Manifest.find? "IndexError").elim "type" fun x => x.metatype)) (.type "tuple") = pure false := by
  rw [isSubtype_type]; kernel_rfl
theorem ix_self : isSubtype (.type "IndexError") (.type "IndexError") = pure true := by rw [isSubtype_type]; kernel_rfl
theorem bt_IndexError : bootBuiltins "IndexError" = some (.type "IndexError") := by decide +kernel
end Mine
end
section
open PySem PySem.W PyProof.Rows PySem.Calls
set_option Elab.async false
set_option maxRecDepth 100000
set_option maxHeartbeats 400000
set_option linter.unusedVariables false
namespace Mine
/-- f'text{i!s}' -/
theorem evMsg {g : Gd} {r : Frm} {ρ : Loc} {Z : Zp} {O : Own} {x : Str} {k : Nat} {e : Expr} {i : Int} {p1 p2 p3 : Pos} (h : Ev g r ρ Z O e (aInt i)) (hlo : -100000 ≤ i) (hhi : i ≤ 100000) (hx : x.length ≤ 1000 := by decide) :
    Ev g r ρ Z O (.JoinedStr [.Constant (.str x) k p1, .FormattedValue e 115 none p2] p3) aAny := by
  have hl : (PySem.Str.ofString (toString i)).length ≤ 11 := by
    rw [PySem.ofString_length]
    exact int_text_length_le10 (k := 10) (by decide) (by omega)
  have hg : i.natAbs.log2 < 1920 := PySem.Spec.log2_small (Nat.lt_of_lt_of_le (show i.natAbs < 2 ^ 17 by omega) (Nat.pow_le_pow_right (by decide) (by decide)))
  have hsz : (1011 : Nat) ≤ sizeLine := by decide
  intro B Z₁ s Q hz st hq
  refine wpAny_JoinedStr (wpAny_Constant_str ⟨x, _, rfl, ?_, ?_⟩)
  · rw [strLen_append]; show 0 + x.length ≤ sizeLine; omega
  refine wpAny_FormattedValue_s (h B Z₁ _ _ hz (st.toks _) fun v s' Z' O' hz' st' ⟨e1, t, e2⟩ => ?_)
  subst e1 e2
  refine pyStrObj_int hg (wpAny_mono (wpAny_formatField_str ⟨_, _, rfl, ?_, ?_, ?_⟩ ⟨_, _, rfl, ?_, ?_, ?_⟩ (by omega)) (fun _ _ h => h) fun _ _ h => h)
  all_goals first
    | (rw [strLen_append, strLen_append]; show 0 + x.length + _ ≤ sizeLine; omega)
    | skip
  all_goals exact hq _ _ Z' _ (hz') ((st'.toks _).toks _) ⟨rfl, trivial⟩
end Mine
end
section
open PySem PySem.W PyProof.Rows PySem.Calls
set_option Elab.async false
set_option maxRecDepth 100000
set_option maxHeartbeats 1000000
set_option linter.unusedVariables false
namespace Mine
local macro_rules | `(tactic| walk_at "mem") => `(tactic| first | exact List.Mem.head _ | (refine List.Mem.tail _ ?_; walk_at "mem"))
local macro_rules | `(tactic| walk_at "nm") => `(tactic| (refine' Ev.name ?hm ?hd; (case hm => walk_at "mem"); (case hd => decide)))
local macro_rules | `(tactic| walk_at "sub") => `(tactic| first | exact List.forall_mem_nil _ | (refine List.forall_mem_cons.mpr ⟨?_, ?_⟩; (first | walk_at "mem" | simp); walk_at "sub"))
local macro_rules | `(tactic| walk_at "upd") => `(tactic| dsimp only [updL, List.filter, String.reduceBNe])
theorem fillK33 (w : World) : (KK w.params = KK w.params) ∧ (PySem.Challenge.rw_nc0017_01.name = PySem.Challenge.rw_nc0017_01.name) := by k_fill; exact ⟨rfl, rfl⟩
section
variable {g : Gd} {r : Frm} {ρ : Loc} {Z : Zp} {O : Own} {cls : String} {k : Nat}
theorem ExX.le {Z' : Zp} {t : Sem Flow} (h : ExX g r ρ Z O t cls) (hz : Z.Le Z') : ExX g r ρ Z' O t cls :=
  fun B Z₁ s Q E hz' x hq => h B Z₁ s Q E (hz.trans hz') x hq
end
section
variable {g : Gd} (hK : g.K = KK g.w.params)
include hK
/-- set beyond the last: refused -/
theorem set_ref {Z : Zp} {O : Own} {a : Addr} {ls : List Addr} {t : Addr} {ns : List Int} {i x : Int} {ti tx : Tok} (v : (aWc ls t ns).P Z (.ref a)) (hn : ns.length ≤ 50000) (hi : i < -(ns.length : Int) ∨ (ns.length : Int) < i) (hlo : -50000 ≤ i) (hhi : i ≤ 50000) :
    RefX g 24 Z O (.ref 190) [.ref a, .int i ti, .int x tx] "IndexError" := by
  obtain ⟨a', vss, tl, h, root, e, v, hii⟩ := v
  injection e with e
  subst e
  have hlen : ns.length = 32 * ls.length + tl.length := by rw [← hii.length, List.length_append, v.leaves.flat]
  obtain ⟨d, t1, t2, t3, hobj, hd⟩ := v.obj
  refine refFn (k := 23) (bs := [("self", .ref a), ("i", .int i ti), ("val", .int x tx)]) [("self", aVal (.ref a)), ("i", aInt i), ("val", aInt x)] ⟨rfl, rfl, rfl, ⟨_, rfl⟩, rfl, ⟨_, rfl⟩, trivial⟩ hK (by k_is) (by k_is) (fun s _ => BindsTo.of_eq rfl) (by rfl) (by simp) (by rfl) rfl rfl rfl ?_
  intro L A gs os
  refine exIfX (b := !true) (Tst.not (Tst.of (opCall (f := .builtin "isinstance") (as := [aInt i, aVal (.type "int")]) (Ev.boot hK (by k_is) bt_isinstance) Kp.builtin (Evs.cons (by walk_at "nm") (Evs.cons (Ev.boot hK (by k_is) bt_int) Evs.nil)) (fun Z₁ ws hz hds => ?_)) TruR.bool)) (fun h => by cases h) (fun _ => ?_)
  · obtain ⟨w1, w2, rfl, ⟨tk, rfl⟩, e2⟩ := hds.two
    obtain rfl : w2 = .type "int" := e2
    exact conIsiII
  refine exIfX (Tst.cmp (by walk_at "nm") Ev.int cmpLt) (fun hb => ?_) (fun hb => ?_)
  · simp only [decide_eq_true_eq] at hb
    refine exThenX (F₁ := fun fl ρ' Z' O' => fl = .next ∧ ρ' = [("i", aInt (i + (32 * ls.length + tl.length : Int))), ("self", aVal (.ref a)), ("val", aInt x)] ∧ O' = []) (exAug (by walk_at "mem") (evInt (evSlot hK (kCount g.w) (by walk_at "nm") (.inl hobj) (.inl hd) rfl)) augAdd ?_) (fun fl ρ' Z' O' p => p.1) (fun ρ' Z' O' hz ⟨_, e1, e2⟩ => ?_)
    · walk_at "upd"
      exact exs_nil fun Z₁ hz => ⟨rfl, rfl, rfl⟩
    subst e1 e2
    refine ExX.le (Z := Z) ?_ hz
    refine exIfX (Tst.chain2 Ev.int (by walk_at "nm") (evInt (evSlot hK (kCount g.w) (by walk_at "nm") (.inl hobj) (.inl hd) rfl)) cmpLe cmpLt) (fun hb => absurd hb (by simp; omega)) (fun _ => ?_)
    refine exIfX (Tst.cmp (by walk_at "nm") (evInt (evSlot hK (kCount g.w) (by walk_at "nm") (.inl hobj) (.inl hd) rfl)) cmpEq) (fun hb => absurd hb (by simp; omega)) (fun _ => ?_)
    refine exRaiseX F.excCall_IndexError F.excRaise_IndexError (P := aAny) (Ev.boot hK (by k_is) bt_IndexError) ?_
    exact evMsg (by walk_at "nm") (by omega) (by omega)
  · simp only [decide_eq_false_iff_not] at hb
    refine exIfX (Tst.chain2 Ev.int (by walk_at "nm") (evInt (evSlot hK (kCount g.w) (by walk_at "nm") (.inl hobj) (.inl hd) rfl)) cmpLe cmpLt) (fun hb => absurd hb (by simp; omega)) (fun _ => ?_)
    refine exIfX (Tst.cmp (by walk_at "nm") (evInt (evSlot hK (kCount g.w) (by walk_at "nm") (.inl hobj) (.inl hd) rfl)) cmpEq) (fun hb => absurd hb (by simp; omega)) (fun _ => ?_)
    refine exRaiseX F.excCall_IndexError F.excRaise_IndexError (P := aAny) (Ev.boot hK (by k_is) bt_IndexError) ?_
    exact evMsg (by walk_at "nm") (by omega) (by omega)
end
end Mine
end
section
set_option Elab.async false
set_option maxRecDepth 100000
set_option maxHeartbeats 1000000
set_option linter.unusedVariables false
namespace Mine
open PySem
open Sem (wp)
abbrev IsTri (h : Heap) (T : Addr) (a b c : Value) : Prop := h.get? T = some { cls := .type "tuple", data := .seq #[a, b, c] }
theorem typeCall_zip_3 (a b c : Value) : checkTypeCall "zip" ⟨[a, b, c], []⟩ = pure () := by kernel_rfl
theorem newCall_zip_3 (a b c : Value) : checkBuiltinCall "zip.__new__" ⟨[.type "zip", a, b, c], []⟩ = pure () := by kernel_rfl
theorem args_object_init_4 (a b c d : Value) : argsOk "object.__init__" ⟨[a, b, c, d], []⟩ := by
  unfold argsOk; rw [signature?_of (id := "object.__init__") (n := ['_', '_', 't', 'i', 'n', 'i', '_', '_']) (o := ['t', 'c', 'e', 'j', 'b', 'o']) (by kernel_rfl) F.owner_object]; kernel_rfl
section
variable {prog : Program} {w : World} {A : Around} {E : Value → Shared → Prop} {s : Shared}
theorem wpAny_updateSeq_tri {T : Addr} {a b c x : Value} {k : Nat} {Q : Unit → Shared → Prop} (hT : IsTri s.heap T a b c)
    (h : ∀ h', h'.get? T = some { cls := .type "tuple", data := .seq ((#[a, b, c] : Array Value).setIfInBounds k x) } → Heap.SameBut T s.heap h' → Q () { s with heap := h' }) :
    wpAny (model prog w) A (updateSeq T (·.setIfInBounds k x)) Q E s := by
  refine wpAny_updateSeq hT rfl (h _ ?_ (Heap.SameBut.update ..))
  rw [Heap.get?_update_self _ hT rfl]
  simp [Obj.mapSeq]
structure Apart3 (z TI TO i1 i2 i3 l1 l2 l3 : Addr) : Prop where
  n : [z, TO, i1, i2, i3].Nodup
  f : ∀ x ∈ [TI, l1, l2, l3], ∀ y ∈ [z, TO, i1, i2, i3], x ≠ y
theorem zip3_item {z TI TO i1 i2 i3 l1 l2 l3 : Addr} {k : Nat} {xs ys zs : Array Value} {x y u a b c : Value} {Q : Value → Shared → Prop} (D : Apart3 z TI TO i1 i2 i3 l1 l2 l3)
    (hz : IsZip s.heap z TI TO .none) (hTI : IsTri s.heap TI (.ref i1) (.ref i2) (.ref i3)) (hTO : IsTri s.heap TO a b c)
    (h1 : s.heap.IsListIter i1 l1 k) (h2 : s.heap.IsListIter i2 l2 k) (h3 : s.heap.IsListIter i3 l3 k) (hl1 : s.heap.IsList l1 xs) (hl2 : s.heap.IsList l2 ys) (hl3 : s.heap.IsList l3 zs) (hx : xs[k]? = some x) (hy : ys[k]? = some y) (hu : zs[k]? = some u)
    (hQ : ∀ h' (T : Addr), IsZip h' z TI TO (rawInt T) → IsTri h' TO x y u → h'.IsListIter i1 l1 (k + 1) → h'.IsListIter i2 l2 (k + 1) → h'.IsListIter i3 l3 (k + 1) → IsTri h' T x y u → s.heap.objs.size ≤ T →
      (∀ c o, (∀ y ∈ [z, TO, i1, i2, i3], c ≠ y) → s.heap.get? c = some o → h'.get? c = some o) → Q (.ref T) { s with heap := h' }) :
    wpAny (model prog w) A (Builtin.«zip.__next__» ⟨[.ref z], []⟩) (fun fin s' => ∃ v, fin = .done (.ret v) ∧ Q v s') E s := by
  have n := D.n
  simp only [List.nodup_cons, List.mem_cons, List.not_mem_nil, or_false, not_or, not_false_eq_true, List.nodup_nil, and_true] at n
  obtain ⟨⟨n1, n2, n3, n4⟩, ⟨n5, n6, n7⟩, ⟨n8, n9⟩, n10⟩ := n
  have f := D.f
  simp only [List.mem_cons, List.not_mem_nil, or_false, forall_eq_or_imp, forall_eq] at f
  obtain ⟨⟨t1, t2, t3, t4, t5⟩, ⟨p1, p2, p3, p4, p5⟩, ⟨q1, q2, q3, q4, q5⟩, ⟨r1, r2, r3, r4, r5⟩⟩ := f
  show wpAny _ _ (field (.ref z) 2 >>= _) _ _ _
  refine wpAny_bind (wpAny_field hz rfl (x := .bool false) rfl ?_)
  show wpAny _ _ (field (.ref z) 3 >>= _) _ _ _
  refine wpAny_bind (wpAny_field hz rfl (x := .ref TI) rfl ?_)
  refine wpAny_bind (wpAny_seqItems hTI rfl ?_)
  show wpAny _ _ (Builtin.SmallTypes.ownedTupleIsFree (.ref z) >>= _) _ _ _
  refine wpAny_bind ?_
  unfold Builtin.SmallTypes.ownedTupleIsFree
  refine wpAny_bind (wpAny_field hz rfl (x := .none) rfl (wpAny_pure ?_))
  simp only [if_true]
  refine wpAny_bind (wpAny_rule ?_)
  refine wpAny_bind (wpAny_field hz rfl (x := .ref TO) rfl ?_)
  refine wpAny_bind (wpAny_setField_rec hz (by simp) fun h₁ hz₁ hs₁ => ?_)
  replace hz₁ : IsZip h₁ z TI TO .ellipsis := hz₁
  refine wpAny_bind ?_
  simp only [List.zipIdx_cons, List.zipIdx_nil, List.forIn_cons, List.forIn_nil]
  have e1 := hs₁.extBut
  refine wpAny_bind (wpAny_bind (wpAny_onRaise ?_))
  show wpAny _ _ (Builtin.SmallTypes.nextOf (.ref i1) >>= _) _ _ _
  refine wpAny_bind (wpAny_nextOf_list_item (h1.extBut e1 (Ne.symm n2)) (hl1.extBut e1 p1) hx fun h₂ h1₂ hs₂ => wpAny_pure ?_)
  have e2 := hs₂.extBut
  have hTO₂ : IsTri h₂ TO a b c := e2 _ _ n5 (e1 _ _ (Ne.symm n1) hTO)
  refine wpAny_bind (wpAny_seqItems hTO₂ rfl ?_)
  refine wpAny_bind (wpAny_updateSeq_tri hTO₂ fun h₃ hTO₃ hs₃ => ?_)
  replace hTO₃ : IsTri h₃ TO x b c := hTO₃
  have e3 := hs₃.extBut
  refine wpAny_bind (wpAny_letGo (wpAny_pure ?_))
  refine wpAny_bind (wpAny_bind (wpAny_onRaise ?_))
  show wpAny _ _ (Builtin.SmallTypes.nextOf (.ref i2) >>= _) _ _ _
  refine wpAny_bind (wpAny_nextOf_list_item (((h2.extBut e1 (Ne.symm n3)).extBut e2 (Ne.symm n8)).extBut e3 (Ne.symm n6)) (((hl2.extBut e1 q1).extBut e2 q3).extBut e3 q2) hy fun h₄ h2₄ hs₄ => wpAny_pure ?_)
  have e4 := hs₄.extBut
  have hTO₄ : IsTri h₄ TO x b c := e4 _ _ n6 hTO₃
  refine wpAny_bind (wpAny_seqItems hTO₄ rfl ?_)
  refine wpAny_bind (wpAny_updateSeq_tri hTO₄ fun h₅ hTO₅ hs₅ => ?_)
  replace hTO₅ : IsTri h₅ TO x y c := hTO₅
  have e5 := hs₅.extBut
  refine wpAny_bind (wpAny_letGo (wpAny_pure ?_))
  refine wpAny_bind (wpAny_bind (wpAny_onRaise ?_))
  show wpAny _ _ (Builtin.SmallTypes.nextOf (.ref i3) >>= _) _ _ _
  refine wpAny_bind (wpAny_nextOf_list_item (((((h3.extBut e1 (Ne.symm n4)).extBut e2 (Ne.symm n9)).extBut e3 (Ne.symm n7)).extBut e4 (Ne.symm n10)).extBut e5 (Ne.symm n7)) (((((hl3.extBut e1 r1).extBut e2 r3).extBut e3 r2).extBut e4 r4).extBut e5 r2) hu fun h₆ h3₆ hs₆ => wpAny_pure ?_)
  have e6 := hs₆.extBut
  have hTO₆ : IsTri h₆ TO x y c := e6 _ _ n7 hTO₅
  refine wpAny_bind (wpAny_seqItems hTO₆ rfl ?_)
  refine wpAny_bind (wpAny_updateSeq_tri hTO₆ fun h₇ hTO₇ hs₇ => ?_)
  replace hTO₇ : IsTri h₇ TO x y u := hTO₇
  have e7 := hs₇.extBut
  refine wpAny_bind (wpAny_letGo (wpAny_pure (wpAny_pure ?_)))
  refine wpAny_bind (wpAny_seqItems hTO₇ rfl ?_)
  refine wpAny_bind (wpAny_newTuple ?_)
  have hz₇ : IsZip h₇ z TI TO .ellipsis := e7 _ _ n1 (e6 _ _ n4 (e5 _ _ n1 (e4 _ _ n3 (e3 _ _ n1 (e2 _ _ n2 hz₁)))))
  have hk₇ : ∀ c o, (∀ y ∈ [z, TO, i1, i2, i3], c ≠ y) → s.heap.get? c = some o → h₇.get? c = some o := fun c o hc e => by
    simp only [List.mem_cons, List.not_mem_nil, or_false, forall_eq_or_imp, forall_eq] at hc
    obtain ⟨c1, c2, c3, c4, c5⟩ := hc
    exact e7 _ _ c2 (e6 _ _ c5 (e5 _ _ c2 (e4 _ _ c4 (e3 _ _ c2 (e2 _ _ c3 (e1 _ _ c1 e))))))
  have h1₇ : h₇.IsListIter i1 l1 (k + 1) := ((((h1₂.extBut e3 (Ne.symm n5)).extBut e4 n8).extBut e5 (Ne.symm n5)).extBut e6 n9).extBut e7 (Ne.symm n5)
  have h2₇ : h₇.IsListIter i2 l2 (k + 1) := ((h2₄.extBut e5 (Ne.symm n6)).extBut e6 n10).extBut e7 (Ne.symm n6)
  have h3₇ : h₇.IsListIter i3 l3 (k + 1) := h3₆.extBut e7 (Ne.symm n7)
  have hsz : s.heap.objs.size ≤ h₇.objs.size := by rw [hs₇.1, hs₆.1, hs₅.1, hs₄.1, hs₃.1, hs₂.1, hs₁.1]; exact Nat.le_refl _
  have hzlt : z < h₇.objs.size := Heap.lt_size hz₇
  show wpAny _ _ (Builtin.SmallTypes.ownedTupleHandOut (.ref z) (.ref h₇.objs.size) >>= _) _ _ _
  refine wpAny_bind ?_
  unfold Builtin.SmallTypes.ownedTupleHandOut
  have hz₈ : IsZip (h₇.push { cls := .type "tuple", data := .seq #[x, y, u] }) z TI TO .ellipsis := Heap.get?_push_of_some _ hz₇
  refine wpAny_bind (wpAny_setField_rec hz₈ (by simp) fun h₉ hz₉ hs₉ => ?_)
  replace hz₉ : IsZip h₉ z TI TO (rawInt h₇.objs.size) := hz₉
  refine wpAny_setField_rec hz₉ (by simp) fun h₁₀ hz₁₀ hs₁₀ => ?_
  replace hz₁₀ : IsZip h₁₀ z TI TO (rawInt h₇.objs.size) := hz₁₀
  have up : ∀ c o, c ≠ z → h₇.get? c = some o → h₁₀.get? c = some o := fun c o c1 e => hs₁₀.extBut _ _ c1 (hs₉.extBut _ _ c1 (Heap.get?_push_of_some _ e))
  have hT : IsTri h₁₀ h₇.objs.size x y u := hs₁₀.extBut _ _ (Nat.ne_of_gt hzlt) (hs₉.extBut _ _ (Nat.ne_of_gt hzlt) (Heap.get?_push_size _ rfl))
  refine wpAny_pure ⟨_, rfl, ?_⟩
  exact hQ h₁₀ h₇.objs.size hz₁₀ (up _ _ (Ne.symm n1) hTO₇) (h1₇.at fun o e => up _ o (Ne.symm n2) e) (h2₇.at fun o e => up _ o (Ne.symm n3) e) (h3₇.at fun o e => up _ o (Ne.symm n4) e) hT hsz
    fun c o hc e => up c o (hc _ (.head _)) (hk₇ c o hc e)
/-- the first list is at its end -/
theorem zip3_end {z TI TO i1 i2 i3 l1 : Addr} {k : Nat} {xs : Array Value} {Q : Fin → Shared → Prop} (hh : A.handled = none) (hiz : i1 ≠ z) (hlz : l1 ≠ z)
    (hz : IsZip s.heap z TI TO .none) (hTI : IsTri s.heap TI (.ref i1) (.ref i2) (.ref i3)) (h1 : s.heap.IsListIter i1 l1 k) (hl1 : s.heap.IsList l1 xs) (hx : xs[k]? = none)
    (hE : ∀ h' e, (∀ c o, c ≠ z → c ≠ i1 → s.heap.get? c = some o → h'.get? c = some o) → (∃ o, h'.get? e = some o ∧ o.cls = .type "StopIteration") → E (.ref e) { s with heap := h' }) :
    wpAny (model prog w) A (Builtin.«zip.__next__» ⟨[.ref z], []⟩) Q E s := by
  show wpAny _ _ (field (.ref z) 2 >>= _) _ _ _
  refine wpAny_bind (wpAny_field hz rfl (x := .bool false) rfl ?_)
  show wpAny _ _ (field (.ref z) 3 >>= _) _ _ _
  refine wpAny_bind (wpAny_field hz rfl (x := .ref TI) rfl ?_)
  refine wpAny_bind (wpAny_seqItems hTI rfl ?_)
  show wpAny _ _ (Builtin.SmallTypes.ownedTupleIsFree (.ref z) >>= _) _ _ _
  refine wpAny_bind ?_
  unfold Builtin.SmallTypes.ownedTupleIsFree
  refine wpAny_bind (wpAny_field hz rfl (x := .none) rfl (wpAny_pure ?_))
  simp only [if_true]
  refine wpAny_bind (wpAny_rule ?_)
  refine wpAny_bind (wpAny_field hz rfl (x := .ref TO) rfl ?_)
  refine wpAny_bind (wpAny_setField_rec hz (by simp) fun h₁ hz₁ hs₁ => ?_)
  replace hz₁ : IsZip h₁ z TI TO .ellipsis := hz₁
  refine wpAny_bind ?_
  simp only [List.zipIdx_cons, List.zipIdx_nil, List.forIn_cons, List.forIn_nil]
  refine wpAny_bind (wpAny_bind (wpAny_onRaise ?_))
  show wpAny _ _ (Builtin.SmallTypes.nextOf (.ref i1) >>= _) _ _ _
  refine wpAny_bind (wpAny_nextOf_list_end hh (h1.extBut hs₁.extBut hiz) (hl1.extBut hs₁.extBut hlz) hx fun h₂ e hs₂ he => ?_)
  obtain ⟨oe, hoe, hce⟩ := he
  have hz₂ : IsZip h₂ z TI TO .ellipsis := hs₂ _ _ (Ne.symm hiz) hz₁
  have hez : e ≠ z := fun x => by subst x; rw [hz₂] at hoe; cases hoe; simp at hce
  refine wpAny_setField_rec hz₂ (by simp) fun h₃ _ hs₃ => hE h₃ e (fun c o c1 c3 x => hs₃.extBut _ _ c1 (hs₂ _ _ c3 (hs₁.extBut _ _ c1 x))) ⟨oe, hs₃.extBut _ _ hez hoe, hce⟩
theorem zip3_pyItem {z TI TO i1 i2 i3 l1 l2 l3 : Addr} {k : Nat} {xs ys zs : Array Value} {x y u a b c : Value} {Q : Option Value → Shared → Prop} (D : Apart3 z TI TO i1 i2 i3 l1 l2 l3)
    (hz : IsZip s.heap z TI TO .none) (hTI : IsTri s.heap TI (.ref i1) (.ref i2) (.ref i3)) (hTO : IsTri s.heap TO a b c)
    (h1 : s.heap.IsListIter i1 l1 k) (h2 : s.heap.IsListIter i2 l2 k) (h3 : s.heap.IsListIter i3 l3 k) (hl1 : s.heap.IsList l1 xs) (hl2 : s.heap.IsList l2 ys) (hl3 : s.heap.IsList l3 zs) (hx : xs[k]? = some x) (hy : ys[k]? = some y) (hu : zs[k]? = some u)
    (hQ : ∀ h' (T : Addr), IsZip h' z TI TO (rawInt T) → IsTri h' TO x y u → h'.IsListIter i1 l1 (k + 1) → h'.IsListIter i2 l2 (k + 1) → h'.IsListIter i3 l3 (k + 1) → IsTri h' T x y u → s.heap.objs.size ≤ T →
      (∀ c o, (∀ y ∈ [z, TO, i1, i2, i3], c ≠ y) → s.heap.get? c = some o → h'.get? c = some o) → Q (some (.ref T)) { s with heap := h' }) :
    wpAny (model prog w) A (pyNext (.ref z)) Q E s := by
  have hT : s.TypeIs (.ref z) "zip" := ⟨_, hz, rfl⟩
  unfold pyNext
  exact wpAny_bind (wpAny_attempt (wpAny_callSpecial?_slot (name := Str.ofString "__next__") hT F.slot_zip_next
    (wpAny_call_entry F.slot_zip_next hT F.entry_zip_next
      (zip3_item D hz hTI hTO h1 h2 h3 hl1 hl2 hl3 hx hy hu fun h' T a1 a2 a3 a4 a5 a6 a7 a8 => wpAny_pure (hQ h' T a1 a2 a3 a4 a5 a6 a7 a8)) (F.args_zip_next_1 _))))
theorem zip3_pyEnd {z TI TO i1 i2 i3 l1 : Addr} {k : Nat} {xs : Array Value} {Q : Option Value → Shared → Prop} (hh : A.handled = none) (hiz : i1 ≠ z) (hlz : l1 ≠ z)
    (hz : IsZip s.heap z TI TO .none) (hTI : IsTri s.heap TI (.ref i1) (.ref i2) (.ref i3)) (h1 : s.heap.IsListIter i1 l1 k) (hl1 : s.heap.IsList l1 xs) (hx : xs[k]? = none)
    (hQ : ∀ h', (∀ c o, c ≠ z → c ≠ i1 → s.heap.get? c = some o → h'.get? c = some o) → Q none { s with heap := h' }) : wpAny (model prog w) A (pyNext (.ref z)) Q E s := by
  have hT : s.TypeIs (.ref z) "zip" := ⟨_, hz, rfl⟩
  unfold pyNext
  refine wpAny_bind (wpAny_attempt (wpAny_callSpecial?_slot (name := Str.ofString "__next__") hT F.slot_zip_next
    (wpAny_call_entry F.slot_zip_next hT F.entry_zip_next (zip3_end hh hiz hlz hz hTI h1 hl1 hx fun h' e hk he => ?_) (F.args_zip_next_1 _))))
  obtain ⟨o, ho, hc⟩ := he
  refine wpAny_bind (wpAny_isInstance (T := "StopIteration") (b := true) ⟨o, ho, hc⟩ isSubtype_stop ?_)
  exact wpAny_pure (hQ _ hk)
end
abbrev z3a (h : Heap) (l1 : Addr) : Heap := h.push { cls := .type "list_iterator", data := .fields #[.ref l1, .int 0 0] }
abbrev z3b (h : Heap) (l1 l2 : Addr) : Heap := (z3a h l1).push { cls := .type "list_iterator", data := .fields #[.ref l2, .int 0 0] }
abbrev z3c (h : Heap) (l1 l2 l3 : Addr) : Heap := (z3b h l1 l2).push { cls := .type "list_iterator", data := .fields #[.ref l3, .int 0 0] }
abbrev z3d (h : Heap) (l1 l2 l3 : Addr) : Heap := (z3c h l1 l2 l3).push { cls := .type "tuple", data := .seq #[.ref h.objs.size, .ref (z3a h l1).objs.size, .ref (z3b h l1 l2).objs.size] }
abbrev z3e (h : Heap) (l1 l2 l3 : Addr) : Heap := (z3d h l1 l2 l3).push { cls := .type "tuple", data := .seq #[.none, .none, .none] }
abbrev z3f (h : Heap) (l1 l2 l3 : Addr) : Heap := (z3e h l1 l2 l3).push { cls := .type "zip", data := .fields #[.none, .bool false, .bool false, .ref (z3c h l1 l2 l3).objs.size, .ref (z3d h l1 l2 l3).objs.size] }
theorem meets_zip3 (l1 l2 l3 : Addr) (xs ys zs : Array Value) :
    Meets (Builtin.«zip.__new__» ⟨[.type "zip", .ref l1, .ref l2, .ref l3], []⟩) (fun _ R s => s.heap.IsList l1 xs ∧ s.heap.IsList l2 ys ∧ s.heap.IsList l3 zs ∧
      R (.ok (.ret (.ref (z3e s.heap l1 l2 l3).objs.size))) { s with heap := z3f s.heap l1 l2 l3 }) :=
  .of_wp fun prog w A R s h => by
    obtain ⟨hp, g, d, tk, os⟩ := s; obtain ⟨hl1, hl2, hl3, h⟩ := h
    have hsub := sub_zip
    have hL1 : Heap.IsList (Shared.heap ⟨hp, g, d, tk, os⟩) l1 xs := hl1
    have hL2 : Heap.IsList (Shared.heap ⟨hp.push { cls := .type "list_iterator", data := .fields #[.ref l1, .int 0 0] }, g, d, tk, os⟩) l2 ys := Heap.IsList.push hl2 _
    have hL3 : Heap.IsList (Shared.heap ⟨(hp.push { cls := .type "list_iterator", data := .fields #[.ref l1, .int 0 0] }).push { cls := .type "list_iterator", data := .fields #[.ref l2, .int 0 0] }, g, d, tk, os⟩) l3 zs := Heap.IsList.push (Heap.IsList.push hl3 _) _
    wp_walk using wpAny_pyIter_list hL1, wpAny_pyIter_list hL2, wpAny_pyIter_list hL3
    exact ⟨_, rfl, h⟩
section
variable {prog : Program} {w : World} {A : Around} {E : Value → Shared → Prop} {s : Shared}
abbrev liO (l : Addr) (k : Nat) : Obj := { cls := .type "list_iterator", dict := none, data := .fields #[.ref l, .int k 0], slots := #[] }
theorem call_zip_3 {l1 l2 l3 : Addr} {xs ys zs : Array Value} {Q : Value → Shared → Prop} (hl1 : s.heap.IsList l1 xs) (hl2 : s.heap.IsList l2 ys) (hl3 : s.heap.IsList l3 zs)
    (h : ∀ h', IsZip h' (s.heap.objs.size + 5) (s.heap.objs.size + 3) (s.heap.objs.size + 4) .none → IsTri h' (s.heap.objs.size + 3) (.ref s.heap.objs.size) (.ref (s.heap.objs.size + 1)) (.ref (s.heap.objs.size + 2)) →
      IsTri h' (s.heap.objs.size + 4) .none .none .none → h'.get? s.heap.objs.size = some (liO l1 0) → h'.get? (s.heap.objs.size + 1) = some (liO l2 0) → h'.get? (s.heap.objs.size + 2) = some (liO l3 0) →
      (∀ c o, s.heap.get? c = some o → h'.get? c = some o) → Q (.ref (s.heap.objs.size + 5)) { s with heap := h' }) :
    wpAny (model prog w) A (call (.type "zip") [.ref l1, .ref l2, .ref l3]) Q E s := by
  refine callType_new F.called_zip (by decide) (typeCall_zip_3 _ _ _) (newCall_zip_3 _ _ _) (fun obj => args_object_init_4 obj _ _ _) F.entry_zip_new
    (meets_zip3 l1 l2 l3 xs ys zs) ⟨hl1, hl2, hl3, ?_⟩
  have z1 : (z3a s.heap l1).objs.size = s.heap.objs.size + 1 := Heap.size_push ..
  have z2 : (z3b s.heap l1 l2).objs.size = s.heap.objs.size + 2 := by rw [Heap.size_push, z1]
  have z3 : (z3c s.heap l1 l2 l3).objs.size = s.heap.objs.size + 3 := by rw [Heap.size_push, z2]
  have z4 : (z3d s.heap l1 l2 l3).objs.size = s.heap.objs.size + 4 := by rw [Heap.size_push, z3]
  have z5 : (z3e s.heap l1 l2 l3).objs.size = s.heap.objs.size + 5 := by rw [Heap.size_push, z4]
  have g6 : (z3f s.heap l1 l2 l3).get? (z3e s.heap l1 l2 l3).objs.size = some _ := Heap.get?_push_size _ rfl
  have g5 : (z3f s.heap l1 l2 l3).get? (z3d s.heap l1 l2 l3).objs.size = some _ := Heap.get?_push_of_some _ (Heap.get?_push_size _ rfl)
  have g4 : (z3f s.heap l1 l2 l3).get? (z3c s.heap l1 l2 l3).objs.size = some _ := Heap.get?_push_of_some _ (Heap.get?_push_of_some _ (Heap.get?_push_size _ rfl))
  have g3 : (z3f s.heap l1 l2 l3).get? (z3b s.heap l1 l2).objs.size = some _ := Heap.get?_push_of_some _ (Heap.get?_push_of_some _ (Heap.get?_push_of_some _ (Heap.get?_push_size _ rfl)))
  have g2 : (z3f s.heap l1 l2 l3).get? (z3a s.heap l1).objs.size = some _ := Heap.get?_push_of_some _ (Heap.get?_push_of_some _ (Heap.get?_push_of_some _ (Heap.get?_push_of_some _ (Heap.get?_push_size _ rfl))))
  have g1 : (z3f s.heap l1 l2 l3).get? s.heap.objs.size = some _ := Heap.get?_push_of_some _ (Heap.get?_push_of_some _ (Heap.get?_push_of_some _ (Heap.get?_push_of_some _ (Heap.get?_push_of_some _ (Heap.get?_push_size _ rfl)))))
  show _ ∧ _
  rw [z5, z3, z4] at g6
  rw [z4] at g5
  rw [z3, z1, z2] at g4
  rw [z2] at g3
  rw [z1] at g2
  rw [z5]
  exact ⟨⟨_, g6, rfl⟩, h _ g6 g4 g5 g1 g2 g3 fun c o x =>
    Heap.get?_push_of_some _ (Heap.get?_push_of_some _ (Heap.get?_push_of_some _ (Heap.get?_push_of_some _ (Heap.get?_push_of_some _ (Heap.get?_push_of_some _ x)))))⟩
end
end Mine
end
section
open PySem PySem.W PyProof.Rows PySem.Calls
set_option Elab.async false
set_option maxRecDepth 100000
set_option maxHeartbeats 1000000
set_option linter.unusedVariables false
namespace Mine
theorem Step.remake {g : Gd} {Z : Zp} {O O' : Own} {s : Shared} (ok : Ok g Z O s) {h' : Heap} (t : Nat) (hg : ∀ p ∈ O', h'.get? p.1 = some p.2) (hn : (O'.map Prod.fst).Nodup)
    (hk : ∀ c o, (∀ p ∈ O, p.1 ≠ c) → s.heap.get? c = some o → h'.get? c = some o) (hs : ∀ p ∈ O', s.heap.get? p.1 = none ∨ ∃ q ∈ O, q.1 = p.1) : Step Z O s { s with heap := h', toks := t } Z O' where
  le := .refl _
  zin := fun b ob e => hk b ob (fun p hp e' => by subst e'; have := (ok.own p hp).2; rw [e] at this; cases this) (ok.zin b ob e)
  keep := fun b ob e hb => hk b ob hb e
  new := fun b ob e e0 => by rw [e] at e0; cases e0
  own := fun p hp => ⟨hg p hp, by
    rcases hs p hp with h | ⟨q, hq, e⟩
    · cases hz : Z p.1 with
      | none => rfl
      | some o => rw [ok.zin _ _ hz] at h; cases h
    · rw [← e]; exact (ok.own q hq).2, hs p hp⟩
  nod := hn
  gens := rfl
  os := rfl
abbrev zipO (f : Value) (TI TO : Addr) : Obj := { cls := .type "zip", dict := none, data := .fields #[f, .bool false, .bool false, .ref TI, .ref TO], slots := #[] }
abbrev triO (a b c : Value) : Obj := { cls := .type "tuple", data := .seq #[a, b, c] }
def IsLi (l : Addr) (k : Nat) (o : Obj) : Prop := o.cls = .type "list_iterator" ∧ o.data = .fields #[.ref l, .int k 0]
/-- what a zip of three lists owns -/
def ZipOwn (Z : Zp) (l1 l2 l3 z : Addr) (f : Value) (k : Nat) (O : Own) : Prop := ∃ TI TO i1 i2 i3 a b c o1 o2 o3, Z TI = some (triO (.ref i1) (.ref i2) (.ref i3)) ∧ O = [(z, zipO f TI TO), (TO, triO a b c), (i1, o1), (i2, o2), (i3, o3)] ∧ IsLi l1 k o1 ∧ IsLi l2 k o2 ∧ IsLi l3 k o3
section
variable {g : Gd} {k : Nat} {Z : Zp} {O : Own} {l1 l2 l3 z : Addr} {vs ws us : List Value} {n1 n2 n3 i : Nat}
theorem ownNe {s : Shared} {O : Own} (ok : Ok g Z O s) {x : Addr} {ox : Obj} (hx : Z x = some ox) {p : Addr × Obj} (hp : p ∈ O) : x ≠ p.1 := fun e => by
  have := (ok.own p hp).2
  rw [← e, hx] at this; cases this
theorem zipNext (hl1 : Z l1 = some (listO vs n1)) (hl2 : Z l2 = some (listO ws n2)) (hl3 : Z l3 = some (listO us n3)) (hO : ZipOwn Z l1 l2 l3 z .none i O) {x y u : Value} (hx : vs[i]? = some x) (hy : ws[i]? = some y) (hu : us[i]? = some u) :
    Con g k Z O (pyNext (.ref z)) (fun Z' O' v => Z' = Z ∧ ∃ T O₁, v = some (.ref T) ∧ O' = (T, triO x y u) :: O₁ ∧ ZipOwn Z l1 l2 l3 z (rawInt T) (i + 1) O₁) := by
  obtain ⟨TI, TO, i1, i2, i3, a, b, c, o1, o2, o3, hTI, rfl, h1, h2, h3⟩ := hO
  intro A s Q hr ok hq
  have D : Apart3 z TI TO i1 i2 i3 l1 l2 l3 := ⟨ok.nod, fun x hx y hy => by
    have hy' : ∃ p ∈ ([(z, zipO .none TI TO), (TO, triO a b c), (i1, o1), (i2, o2), (i3, o3)] : Own), p.1 = y := List.mem_map.mp hy
    obtain ⟨p, hp, rfl⟩ := hy'
    simp only [List.mem_cons, List.not_mem_nil, or_false] at hx
    rcases hx with rfl | rfl | rfl | rfl
    · exact ownNe ok hTI hp
    · exact ownNe ok hl1 hp
    · exact ownNe ok hl2 hp
    · exact ownNe ok hl3 hp⟩
  have gz := (ok.own (z, zipO .none TI TO) (.head _)).1
  have gTO := (ok.own (TO, triO a b c) (.tail _ (.head _))).1
  have g1 := (ok.own (i1, o1) (.tail _ (.tail _ (.head _)))).1
  have g2 := (ok.own (i2, o2) (.tail _ (.tail _ (.tail _ (.head _))))).1
  have g3 := (ok.own (i3, o3) (.tail _ (.tail _ (.tail _ (.tail _ (.head _)))))).1
  refine zip3_pyItem D gz (ok.zin _ _ hTI) gTO ⟨o1, g1, h1.1, h1.2⟩ ⟨o2, g2, h2.1, h2.2⟩ ⟨o3, g3, h3.1, h3.2⟩ ⟨_, ok.zin _ _ hl1, rfl, n1, rfl⟩ ⟨_, ok.zin _ _ hl2, rfl, n2, rfl⟩ ⟨_, ok.zin _ _ hl3, rfl, n3, rfl⟩ (x := x) (y := y) (u := u) (by simpa using hx) (by simpa using hy) (by simpa using hu) fun h' T az aTO a1 a2 a3 aT hsz hk => ?_
  obtain ⟨p1, q1, r1, s1⟩ := a1
  obtain ⟨p2, q2, r2, s2⟩ := a2
  obtain ⟨p3, q3, r3, s3⟩ := a3
  have hTn : s.heap.get? T = none := by
    cases hz : s.heap.get? T with
    | none => rfl
    | some o' => exact absurd (Heap.lt_size hz) (Nat.not_lt.mpr hsz)
  refine hq _ _ Z _ (Step.remake ok (O' := (T, triO x y u) :: [(z, zipO (rawInt T) TI TO), (TO, triO x y u), (i1, p1), (i2, p2), (i3, p3)]) s.toks (fun p hp => ?_) ?_ (fun c' oc hc e => hk c' oc (fun y hy e' => ?_) e) (fun p hp => ?_)) ⟨rfl, T, _, rfl, rfl, TI, TO, i1, i2, i3, x, y, u, p1, p2, p3, hTI, rfl, ⟨r1, s1⟩, ⟨r2, s2⟩, ⟨r3, s3⟩⟩
  · simp only [List.mem_cons, List.not_mem_nil, or_false] at hp
    rcases hp with rfl | rfl | rfl | rfl | rfl | rfl
    · exact aT
    · exact az
    · exact aTO
    · exact q1
    · exact q2
    · exact q3
  · show (T :: [z, TO, i1, i2, i3]).Nodup
    refine List.nodup_cons.mpr ⟨fun hm => ?_, D.n⟩
    simp only [List.mem_cons, List.not_mem_nil, or_false] at hm
    rcases hm with rfl | rfl | rfl | rfl | rfl
    · rw [gz] at hTn; cases hTn
    · rw [gTO] at hTn; cases hTn
    · rw [g1] at hTn; cases hTn
    · rw [g2] at hTn; cases hTn
    · rw [g3] at hTn; cases hTn
  · subst e'
    have hy' : ∃ p ∈ ([(z, zipO .none TI TO), (TO, triO a b c), (i1, o1), (i2, o2), (i3, o3)] : Own), p.1 = c' := List.mem_map.mp hy
    obtain ⟨p, hp, rfl⟩ := hy'
    exact hc p hp rfl
  · simp only [List.mem_cons, List.not_mem_nil, or_false] at hp
    rcases hp with rfl | rfl | rfl | rfl | rfl | rfl
    · exact .inl hTn
    · exact .inr ⟨_, .head _, rfl⟩
    · exact .inr ⟨_, .tail _ (.head _), rfl⟩
    · exact .inr ⟨_, .tail _ (.tail _ (.head _)), rfl⟩
    · exact .inr ⟨_, .tail _ (.tail _ (.tail _ (.head _))), rfl⟩
    · exact .inr ⟨_, .tail _ (.tail _ (.tail _ (.tail _ (.head _)))), rfl⟩
theorem zipDone (hl1 : Z l1 = some (listO vs n1)) (hO : ZipOwn Z l1 l2 l3 z .none i O) (hx : vs[i]? = none) : Con g k Z O (pyNext (.ref z)) (fun Z' O' v => Z' = Z ∧ v = none ∧ O' = []) := by
  obtain ⟨TI, TO, i1, i2, i3, a, b, c, o1, o2, o3, hTI, rfl, h1, h2, h3⟩ := hO
  intro A s Q hr ok hq
  have gz := (ok.own (z, zipO .none TI TO) (.head _)).1
  have g1 := (ok.own (i1, o1) (.tail _ (.tail _ (.head _)))).1
  have hn : [z, TO, i1, i2, i3].Nodup := ok.nod
  simp only [List.nodup_cons, List.mem_cons, List.not_mem_nil, or_false, not_or] at hn
  refine zip3_pyEnd hr.1 (Ne.symm hn.1.2.1) (ownNe ok hl1 (p := (z, zipO .none TI TO)) (.head _)) gz (ok.zin _ _ hTI) ⟨o1, g1, h1.1, h1.2⟩ ⟨_, ok.zin _ _ hl1, rfl, n1, rfl⟩ (by simpa using hx) fun h' hk => ?_
  exact hq _ _ Z [] (Step.remake ok s.toks (fun p hp => nomatch hp) List.nodup_nil (fun c' oc hc e => hk c' oc (fun e' => hc _ (.head _) e'.symm) (fun e' => hc (i1, o1) (.tail _ (.tail _ (.head _))) e'.symm) e) (fun p hp => nomatch hp)) ⟨rfl, rfl, rfl⟩
theorem zipGo {T : Addr} {oT : Obj} {elts : List Expr} {x1} {pos : Pos} (hO : ZipOwn Z l1 l2 l3 z (rawInt T) i O) :
    Con g k Z ((T, oT) :: O) (letOwnedTupleGo (.Tuple elts x1 pos) (.ref z) (.ref T)) (fun Z' O' _ => Z' = Z ∧ ∃ O₁, O' = (T, oT) :: O₁ ∧ ZipOwn Z l1 l2 l3 z .none i O₁) := by
  obtain ⟨TI, TO, i1, i2, i3, a, b, c, o1, o2, o3, hTI, rfl, h1, h2, h3⟩ := hO
  intro A s Q hr ok hq
  have ok1 : Ok g Z ((z, zipO (rawInt T) TI TO) :: (T, oT) :: [(TO, triO a b c), (i1, o1), (i2, o2), (i3, o3)]) s := (Step.perm ok (List.Perm.swap _ _ _)).ok ok
  have gz := (ok1.own (z, zipO (rawInt T) TI TO) (.head _)).1
  refine wpAny_letOwnedTupleGo_zip gz fun h' hz' hs' => ?_
  have st := Step.write ok1 (o' := zipO .none TI TO) s.toks hs' hz'
  exact hq _ _ Z _ ((Step.perm ok (List.Perm.swap _ _ _)).trans (st.trans (Step.perm (st.ok ok1) (List.Perm.swap _ _ _)))) ⟨rfl, _, rfl, TI, TO, i1, i2, i3, a, b, c, o1, o2, o3, hTI, rfl, h1, h2, h3⟩
/-- zip(a, b, c) over three frozen lists -/
theorem conZip3 (hl1 : Z l1 = some (listO vs n1)) (hl2 : Z l2 = some (listO ws n2)) (hl3 : Z l3 = some (listO us n3)) :
    Con g k Z O (call (.type "zip") [.ref l1, .ref l2, .ref l3]) (fun Z' O' v => ∃ z O₁, v = .ref z ∧ O' = O₁ ++ O ∧ ZipOwn Z' l1 l2 l3 z .none 0 O₁) := by
  intro A s Q hr ok hq
  refine call_zip_3 (xs := vs.toArray) (ys := ws.toArray) (zs := us.toArray) ⟨_, ok.zin _ _ hl1, rfl, n1, rfl⟩ ⟨_, ok.zin _ _ hl2, rfl, n2, rfl⟩ ⟨_, ok.zin _ _ hl3, rfl, n3, rfl⟩ fun h' gz gTI gTO g1 g2 g3 hk => ?_
  have hno : ∀ j, s.heap.get? (s.heap.objs.size + j) = none := fun j => by
    cases hz : s.heap.get? (s.heap.objs.size + j) with
    | none => rfl
    | some o' => exact absurd (Heap.lt_size hz) (by show ¬ s.heap.objs.size + j < s.heap.objs.size; omega)
  have hnz : ∀ j, Z (s.heap.objs.size + j) = none := fun j => by
    cases hz : Z (s.heap.objs.size + j) with
    | none => rfl
    | some o' => have := ok.zin _ _ hz; rw [hno] at this; cases this
  have hlt : ∀ p ∈ O, p.1 < s.heap.objs.size := fun p hp => Heap.lt_size (ok.own p hp).1
  let O5 : Own := [(s.heap.objs.size + 5, zipO .none (s.heap.objs.size + 3) (s.heap.objs.size + 4)), (s.heap.objs.size + 4, triO .none .none .none), (s.heap.objs.size + 0, liO l1 0), (s.heap.objs.size + 1, liO l2 0), (s.heap.objs.size + 2, liO l3 0)]
  have h5 : ∀ p ∈ O5, ∃ j, p.1 = s.heap.objs.size + j ∧ j ≠ 3 ∧ h'.get? p.1 = some p.2 := fun p hp => by
    simp only [O5, List.mem_cons, List.not_mem_nil, or_false] at hp
    rcases hp with rfl | rfl | rfl | rfl | rfl
    · exact ⟨5, rfl, by decide, gz⟩
    · exact ⟨4, rfl, by decide, gTO⟩
    · exact ⟨0, rfl, by decide, g1⟩
    · exact ⟨1, rfl, by decide, g2⟩
    · exact ⟨2, rfl, by decide, g3⟩
  refine hq _ _ (Z.set (s.heap.objs.size + 3) (triO (.ref (s.heap.objs.size + 0)) (.ref (s.heap.objs.size + 1)) (.ref (s.heap.objs.size + 2)))) (O5 ++ O) ?_ ⟨_, O5, rfl, rfl, s.heap.objs.size + 3, s.heap.objs.size + 4, s.heap.objs.size + 0, s.heap.objs.size + 1, s.heap.objs.size + 2, _, _, _, _, _, _, Zp.set_self _ _ _, rfl, ⟨rfl, rfl⟩, ⟨rfl, rfl⟩, ⟨rfl, rfl⟩⟩
  exact {
    le := Zp.le_set _ (hnz 3)
    zin := fun a o e => by
      by_cases ha : a = s.heap.objs.size + 3
      · subst ha; rw [Zp.set_self] at e; injection e with e; subst e; exact gTI
      · rw [Zp.set_ne _ _ ha] at e; exact hk _ _ (ok.zin _ _ e)
    keep := fun a o e _ => hk a o e
    new := fun a o e e0 => by
      by_cases ha : a = s.heap.objs.size + 3
      · subst ha; exact .inl (hno 3)
      · rw [Zp.set_ne _ _ ha, e0] at e; cases e
    own := fun p hp => by
      rcases List.mem_append.mp hp with hp | hp
      · obtain ⟨j, e, hj, h⟩ := h5 p hp
        exact ⟨h, by rw [e, Zp.set_ne _ _ (fun e => hj (Nat.add_left_cancel e))]; exact hnz j, .inl (by rw [e]; exact hno j)⟩
      · have hl := hlt p hp
        exact ⟨hk _ _ (ok.own p hp).1, by rw [Zp.set_ne _ _ (Nat.ne_of_lt (Nat.lt_of_lt_of_le hl (Nat.le_add_right _ _)))]; exact (ok.own p hp).2, .inr ⟨p, hp, rfl⟩⟩
    nod := by
      rw [List.map_append, List.nodup_append]
      refine ⟨by simp [O5], ok.nod, fun a ha b hb e => ?_⟩
      obtain ⟨p, hp, rfl⟩ := List.mem_map.mp ha
      obtain ⟨q, hq, rfl⟩ := List.mem_map.mp hb
      obtain ⟨j, e1, _⟩ := h5 p hp
      have := hlt q hq
      rw [← e, e1] at this
      exact absurd this (Nat.not_lt.mpr (Nat.le_add_right _ _))
    gens := rfl
    os := rfl }
end
end Mine
end
section
open PySem PySem.W PyProof.Rows PySem.Calls
set_option Elab.async false
set_option maxRecDepth 100000
set_option maxHeartbeats 1000000
set_option linter.unusedVariables false
namespace Mine
theorem bt_zip : bootBuiltins "zip" = some (.type "zip") := by decide +kernel
section
variable {g : Gd} {r : Frm} {ρ : Loc} {Z : Zp} {O : Own} {l1 l2 l3 : Addr} {vs ws us : List Value} {n1 n2 n3 : Nat}
theorem ZipOwn.le {Z Z' : Zp} {z : Addr} {f : Value} {k : Nat} {O : Own} (hz : Z.Le Z') : ZipOwn Z l1 l2 l3 z f k O → ZipOwn Z' l1 l2 l3 z f k O :=
  fun ⟨TI, TO, i1, i2, i3, a, b, c, o1, o2, o3, h, r⟩ => ⟨TI, TO, i1, i2, i3, a, b, c, o1, o2, o3, hz _ _ h, r⟩
/-- for x, y, u in zip(a, b, c): -/
theorem exForZip3 {x y u : String} {px py pu tp pos : Pos} {tn : Nat} {iter : Expr} {body rest : List Stmt} {F : Flow → Loc → Zp → Own → Prop} (N : Nat)
    (hl1 : Z l1 = some (listO vs n1)) (hl2 : Z l2 = some (listO ws n2)) (hl3 : Z l3 = some (listO us n3)) (hN1 : vs.length = N) (hN2 : ws.length = N) (hN3 : us.length = N)
    (hi : Op g r ρ Z O (eval iter r.env) (fun Z' O' v => ∃ z O₁, v = .ref z ∧ O' = O₁ ++ O ∧ ZipOwn Z' l1 l2 l3 z .none 0 O₁))
    (step : ∀ i Z' (a b c : Value), Z.Le Z' → i < N → vs[i]? = some a → ws[i]? = some b → us[i]? = some c →
      Exs g r (updL u (aVal c) (updL y (aVal b) (updL x (aVal a) ρ))) Z' O body (fun fl ρ'' Z'' O'' => match fl with | .next | .cont => O'' = O ∧ ∀ p ∈ ρ, p ∈ ρ'' | .ret w => F (.ret w) ρ'' Z'' O'' | .brk => False))
    (done : ∀ Z', Z.Le Z' → Exs g r ρ Z' O rest F)
    (hx : r.env.kindOf (Str.ofString x) = some .local := by rfl) (hy : r.env.kindOf (Str.ofString y) = some .local := by rfl) (hu : r.env.kindOf (Str.ofString u) = some .local := by rfl) (hs : ∀ x, foldedSetIterable iter r.env x = pure x := by intro _; rfl) :
    Exs g r ρ Z O (.For (.Tuple [.Name (Str.ofString x) px, .Name (Str.ofString y) py, .Name (Str.ofString u) pu] tn tp) iter body [] pos :: rest) F := by
  refine exs_cons (F₁ := fun fl ρ' Z' O' => (fl = .next ∧ ρ' = ρ ∧ O' = O) ∨ (∃ u, fl = .ret u ∧ F (.ret u) ρ' Z' O')) ?_
    (fun ρ' Z' O' hz p => by
      rcases p with ⟨_, h1, h2⟩ | ⟨u, e, _⟩
      · subst h1 h2; exact done Z' hz
      · cases e)
    (fun fl ρ' Z' O' hne hz p => by
      rcases p with ⟨e, _⟩ | ⟨u, e, p⟩
      · exact absurd e hne
      · subst e; exact p)
  intro B Z₁ s Q hz st hq
  refine wpAny_For (hi B Z₁ s _ hz st fun xv s1 Z1 O1 hz1 st1 pk => ?_) hs
  obtain ⟨z, O₁, e1, e2, hO⟩ := pk
  subst e1 e2
  have gz : ∃ f TI TO, s1.heap.get? z = some (zipO f TI TO) := by
    obtain ⟨TI, TO, i1, i2, i3, a, b, c, o1, o2, o3, hTI, rfl, h1, h2, h3⟩ := hO
    exact ⟨.none, TI, TO, (st1.own (z, zipO .none TI TO) (.head _)).1⟩
  obtain ⟨f, TI, TO, gz⟩ := gz
  refine wpAny_pyIter_zip gz ?_
  have hzz : Z.Le Z1 := hz.trans hz1
  refine codeAny_forLoop_any (fun m s' => ∃ i Z' O₁, m = N - i ∧ i ≤ N ∧ Z1.Le Z' ∧ ZipOwn Z' l1 l2 l3 z .none i O₁ ∧ Sta g r B s' ρ Z' (O₁ ++ O)) ?_ N ⟨0, Z1, O₁, rfl, Nat.zero_le _, .refl _, hO, st1⟩
  rintro m s' ⟨i, Z', O₁, rfl, hin, hz', hO, st'⟩
  have hzZ : Z.Le Z' := hzz.trans hz'
  rcases Nat.lt_or_ge i N with hlt | hge
  · have e1 : vs[i]? = some (vs[i]'(hN1.symm ▸ hlt)) := List.getElem?_eq_getElem _
    have e2 : ws[i]? = some (ws[i]'(hN2.symm ▸ hlt)) := List.getElem?_eq_getElem _
    have e3 : us[i]? = some (us[i]'(hN3.symm ▸ hlt)) := List.getElem?_eq_getElem _
    generalize vs[i]'(hN1.symm ▸ hlt) = va at e1
    generalize ws[i]'(hN2.symm ▸ hlt) = vb at e2
    generalize us[i]'(hN3.symm ▸ hlt) = vc at e3
    refine wpAny_mono (Con.beside (R := O) (zipNext (g := g) (k := r.k) (hzZ _ _ hl1) (hzZ _ _ hl2) (hzZ _ _ hl3) hO e1 e2 e3) r.A s' _ st'.room st'.ok fun v s3 Z3 O3 stp3 p3 => ?_) (fun _ _ h => h) fun _ _ h => h.elim
    obtain ⟨O₂, f1, f2, T, O₃, f3, f4, hO3⟩ := p3
    subst f1 f2 f3 f4
    have st3 := st'.step stp3
    refine wpAny_mono (Con.beside (R := O) (zipGo (g := g) (k := r.k) hO3) r.A s3 _ st3.room st3.ok fun v s4 Z4 O4 stp4 p4 => ?_) (fun _ _ h => h) fun _ _ h => h.elim
    obtain ⟨O₄, f5, f6, O₅, f7, hO5⟩ := p4
    subst f5 f6 f7
    have st4 := st3.step stp4
    have gT := (st4.own (T, triO va vb vc) (.head _)).1
    refine wpAny_mono (assign_Tuple_tuple (E := No) (items := #[va, vb, vc]) st4.room.1 ⟨_, gT, rfl, _, rfl⟩ rfl rfl fun h' he' => ?_) (fun _ _ h => h) fun _ _ h => h.elim
    have st5 := st4.step (Step.ext st4.ok s4.toks fun b o e => he' b o (Nat.ne_of_lt (Heap.lt_size e)) e)
    refine wpAny_bind (wpAny_holding (wpAny_assign_Name (sta_store (av := aVal va) st5 hx rfl fun s6 st6 => ?_)))
    refine wpAny_bind (wpAny_holding (wpAny_assign_Name (sta_store (av := aVal vb) st6 hy rfl fun s7 st7 => ?_)))
    refine wpAny_bind (wpAny_holding (wpAny_assign_Name (sta_store (av := aVal vc) st7 hu rfl fun s8 st8 => ?_)))
    refine wpAny_pure ?_
    have st9 := st8.step (Step.drop st8.ok (List.sublist_cons_self _ _))
    have st10 := st9.step (Step.perm st9.ok (List.perm_append_comm (l₁ := O₅) (l₂ := O)))
    refine wpAny_mono ((Ex.beside (R := O₅) (step i Z4 _ _ _ hzZ hlt e1 e2 e3)) B Z4 s8 _ (.refl _) st10 fun fl ρ'' s11 Z6 O6 hz6 st11 p6 => ?_) (fun _ _ h => h) fun _ _ h => h.elim
    obtain ⟨O₇, f8, p6⟩ := p6
    subst f8
    have again : (O₇ = O ∧ ∀ p ∈ ρ, p ∈ ρ'') → ∃ m, m < N - i ∧ ∃ i' Z' O₁, m = N - i' ∧ i' ≤ N ∧ Z1.Le Z' ∧ ZipOwn Z' l1 l2 l3 z .none i' O₁ ∧ Sta g r B s11 ρ Z' (O₁ ++ O) := fun ⟨e, hl⟩ => by
      subst e
      exact ⟨N - (i + 1), Nat.sub_lt_sub_left hlt (Nat.lt_succ_self i), i + 1, Z6, O₅, rfl, hlt, hz'.trans hz6, hO5.le hz6, (st11.step (Step.perm st11.ok List.perm_append_comm)).less hl⟩
    cases fl with
    | next => exact again p6
    | cont => exact again p6
    | brk => exact p6.elim
    | ret u => exact hq _ ρ'' s11 Z6 O₇ (hz1.trans (hz'.trans hz6)) (st11.step (Step.drop st11.ok (List.sublist_append_left _ _))) (.inr ⟨u, rfl, p6⟩)
  · have hi : i = N := Nat.le_antisymm hin hge
    subst hi
    refine wpAny_mono (Con.beside (R := O) (zipDone (g := g) (k := r.k) (hzZ _ _ hl1) hO (by rw [← hN1]; exact List.getElem?_eq_none (Nat.le_refl _))) r.A s' _ st'.room st'.ok fun v s3 Z3 O3 stp3 p3 => ?_) (fun _ _ h => h) fun _ _ h => h.elim
    obtain ⟨O₂, f1, f2, f3, f4⟩ := p3
    subst f1 f2 f3 f4
    have st3 := st'.step stp3
    exact wpAny_execs_nil (hq .next ρ s3 Z3 O (hz1.trans hz') st3 (.inl ⟨rfl, rfl, rfl⟩))
end
end Mine
end
section
open PySem PySem.W PyProof.Rows PySem.Calls
set_option Elab.async false
set_option maxRecDepth 100000
set_option linter.unusedVariables false
set_option maxHeartbeats 1000000
namespace Mine
section
variable {g : Gd} {Z : Zp} {O : Own}
/-- the contract of a def whose names are read by a comprehension: its cells are owned at the start -/
theorem conDefA {K : Frag} {f : Addr} {name qual : Str} {params : Arguments} {body : List Stmt} {scope : Scope} {dV kV doc pm cdv ct oc : Value} {an od : Option Addr} {osl : Array (Option Value)} {args : List Value} {k : Nat}
    {P : Zp → Own → Value → Prop} (bs : List (Str × Value)) (ρ₀ : Loc) (hK : g.K = K)
    (ho : K.lookup f = some ⟨oc, od, .func (fnX name qual params body scope [] dV kV doc pm an cdv ct), osl⟩) (hcd : codeIn K cdv qual = true)
    (hbind : bindArgs (fnX name qual params body scope [] dV kV doc pm an cdv ct) ⟨args, []⟩ = pure bs)
    (hkind : ∀ n, ∀ x ∈ bs, scope.names.lookup x.1 = some .local ∨ (scope.names.lookup x.1 = some .cell ∧ ((cellsFrom n scope.names []).lookup x.1).isSome = true))
    (hρ : ∀ x av, (x, av) ∈ ρ₀ → ∃ v, scope.names.lookup (Str.ofString x) = some .local ∧ bindL (fun n => scope.names.lookup n) bs (fun _ => none) (Str.ofString x) = some v ∧ av.P Z v)
    (hnd : ∀ n, ((cellsFrom n scope.names []).map (·.1)).Nodup)
    (hco : scope.isCoroutine = false) (hgen : scope.isGenerator = false) (hk : scope.kind = .function)
    (h : ∀ (L : Addr) (A : Around) (gs : Array GenState) (os : OsState) (ob : Addr → Obj), A.frames = some [Frm.env { name := qual, scope := scope, L := L, f := f, cd := cdv, cells := cellsFrom (L + 1) scope.names [], A := A, k := k, Z₀ := Z, gens := gs, os := os }] → (∀ p ∈ cellsFrom (L + 1) scope.names [], (ob p.2).data = .cell (bindC (fun n => scope.names.lookup n) bs (fun _ => none) p.1)) →
      Exs g { name := qual, scope := scope, L := L, f := f, cd := cdv, cells := cellsFrom (L + 1) scope.names [], A := A, k := k, Z₀ := Z, gens := gs, os := os } ρ₀ Z ((cellsFrom (L + 1) scope.names []).map (fun p => (p.2, ob p.2)) ++ O) body (fun fl _ Z' O' => P Z' O' (retOf fl))) :
    ∀ (A : Around) (s : Shared) (R : Result → Shared → Prop), A.frames = some [] → Room A (k + 1) → Ok g Z O s → (∀ v s' Z' O', Step Z O s s' Z' O' → P Z' O' v → R (.ok (.ret v)) s') → codeAny g.M A (.call (.ref f) ⟨args, []⟩) R s := by
  subst hK
  intro A s R hA hr ok hq
  refine codeAny_call_cells (fd := fnX name qual params body scope [] dV kV doc pm an cdv ct) hr.depth (ok.K_in _ _ ho) rfl ok.top.nolimit (codeRec_of ok.K_in hcd) rfl hbind rfl (hkind _) (fun s₁ X => ?_) hco hgen hk
  obtain ⟨h₁, tk, rfl, _⟩ := X.done
  have hL : ∀ a, s.heap.objs.size ≤ a → s.heap.get? a = none := fun a ha => by
    cases hz : s.heap.get? a with
    | none => rfl
    | some o' => exact absurd (Heap.lt_size hz) (Nat.not_lt.mpr ha)
  let B : Zp := fun a => if a ∈ O.map Prod.fst then none else s.heap.get? a
  have hB : ∀ a o, B a = some o → s.heap.get? a = some o := fun a o e => by
    by_cases hm : a ∈ O.map Prod.fst
    · rw [show B a = none from if_pos hm] at e; cases e
    · rw [show B a = s.heap.get? a from if_neg hm] at e; exact e
  have hBn : ∀ a, s.heap.get? a = none → B a = none := fun a e => by
    cases hb : B a with
    | none => rfl
    | some o => rw [hB a o hb] at e; cases e
  have hZn : ∀ a, s.heap.get? a = none → Z a = none := fun a e => by
    cases hb : Z a with
    | none => rfl
    | some o => rw [ok.zin a o hb] at e; cases e
  have hcells : ∀ p ∈ cellsFrom (s.heap.objs.size + 1) scope.names [], ∃ o, h₁.get? p.2 = some o ∧ o.data = .cell (bindC (fun n => scope.names.lookup n) bs (fun _ => none) p.1) := fun p hp =>
    X.cell p.1 p.2 (mem_lookup_cells (hnd _) hp)
  let ob : Addr → Obj := fun a => (h₁.get? a).getD default
  have hob : ∀ p ∈ cellsFrom (s.heap.objs.size + 1) scope.names [], h₁.get? p.2 = some (ob p.2) := fun p hp => by
    obtain ⟨o, ho, _⟩ := hcells p hp
    show h₁.get? p.2 = some ((h₁.get? p.2).getD default)
    rw [ho]; rfl
  let rr : Frm := { name := qual, scope := scope, L := s.heap.objs.size, f := f, cd := cdv, cells := cellsFrom (s.heap.objs.size + 1) scope.names [], A := A.deeper (callEnvC (fnX name qual params body scope [] dV kV doc pm an cdv ct) s.heap.objs.size f), k := k, Z₀ := Z, gens := s.gens, os := s.os }
  have habove : ∀ p ∈ cellsFrom (s.heap.objs.size + 1) scope.names [], s.heap.objs.size < p.2 := fun p hp => X.above p.1 p.2 hp
  have st : Sta g rr B { s with heap := h₁, toks := tk } ρ₀ Z ((cellsFrom (s.heap.objs.size + 1) scope.names []).map (fun p => (p.2, ob p.2)) ++ O) :=
    { loc := ⟨_, X.toInCall.ns, fun y b hy => by
        obtain ⟨v, h1, h2, h3⟩ := hρ y b hy
        exact ⟨v, .inl ⟨h1, h2⟩, h3⟩⟩
      hk := hk
      room := hr.deeper
      zin := fun a o e => X.toInCall.keep a o (ok.zin a o e)
      tz := ok.tz
      zL := hZn _ (hL _ (Nat.le_refl _))
      bin := fun a o e => X.toInCall.keep a o (hB a o e)
      bL := hBn _ (hL _ (Nat.le_refl _))
      new := fun a o e _ => by show Z a ≠ none; rw [e]; intro h; cases h
      z0 := .refl _
      own := fun p hp => by
        rcases List.mem_append.mp hp with hp | hp
        · obtain ⟨q, hq, rfl⟩ := List.mem_map.mp hp
          have hlt := habove q hq
          exact ⟨hob q hq, hZn _ (hL _ (Nat.le_of_lt hlt)), hBn _ (hL _ (Nat.le_of_lt hlt)), Nat.ne_of_gt hlt⟩
        · exact ⟨X.toInCall.keep _ _ (ok.own p hp).1, (ok.own p hp).2, if_pos (List.mem_map_of_mem hp), Nat.ne_of_lt (Heap.lt_size (ok.own p hp).1)⟩
      nod := by
        rw [List.map_append, List.nodup_append]
        refine ⟨?_, ok.nod, fun a ha b hb e => ?_⟩
        · rw [List.map_map]
          exact List.pairwise_map.mpr (X.apart.imp fun h => h)
        · obtain ⟨p, hp, rfl⟩ := List.mem_map.mp ha
          obtain ⟨q, hq, rfl⟩ := List.mem_map.mp hp
          obtain ⟨p', hp', rfl⟩ := List.mem_map.mp hb
          have h1 := habove q hq
          have h2 := Heap.lt_size (ok.own p' hp').1
          have e' : q.2 = p'.1 := e
          rw [← e'] at h2
          exact absurd h1 (Nat.not_lt.mpr (Nat.le_of_lt h2))
      gens := rfl
      os := rfl }
  have hnone : ∀ a, B a = none → s.heap.get? a = none ∨ ∃ p ∈ O, p.1 = a := fun a e => by
    by_cases hm : a ∈ O.map Prod.fst
    · obtain ⟨p, hp, e⟩ := List.mem_map.mp hm; exact .inr ⟨p, hp, e⟩
    · rw [show B a = s.heap.get? a from if_neg hm] at e; exact .inl e
  refine wpAny_mono (h s.heap.objs.size rr.A s.gens s.os ob (Around.frames_deeper hA) (fun p hp => by
    obtain ⟨o, h1, h2⟩ := hcells p hp
    rw [hob p hp] at h1
    injection h1 with h1
    rw [h1]; exact h2) B Z _ (fun fl s' => R (.ok (.ret (retOf fl))) s') (.refl _) st fun fl ρ' s' Z' O' hz' st' p => hq _ s' Z' O' ?_ p) (fun fl s' x => by cases fl <;> exact x) fun _ _ x => x.elim
  exact {
    le := hz'
    zin := st'.zin
    keep := fun a o e hp => st'.bin a o (by
      show B a = some o
      rw [show B a = s.heap.get? a from if_neg fun hm => by obtain ⟨p, hp', e'⟩ := List.mem_map.mp hm; exact hp p hp' e']; exact e)
    new := fun a o e e0 => hnone a (by
      cases hb : B a with
      | none => rfl
      | some ob => exact absurd e0 (st'.new a o e (by show B a ≠ none; rw [hb]; intro h; cases h)))
    own := fun p hp => ⟨(st'.own p hp).1, (st'.own p hp).2.1, hnone _ (st'.own p hp).2.2.1⟩
    nod := st'.nod
    gens := st'.gens
    os := st'.os }
end
end Mine
end
section
open PySem PySem.W PyProof.Rows PySem.Calls
set_option Elab.async false
set_option maxRecDepth 100000
set_option maxHeartbeats 1000000
set_option linter.unusedVariables false
namespace Mine
theorem wpAny_of_execs_one {M : Model} {A : Around} {env : Env} {st : Stmt} {Q : Flow → Shared → Prop} {E : Value → Shared → Prop} {s : Shared} (h : wpAny M A (execs [st] env) Q E s) : wpAny M A (exec st env) Q E s := fun Γ p hΓ => by
  have h2 := h Γ p hΓ
  rw [execs_cons, Sem.wp_bind'] at h2
  exact Sem.wp_mono M Γ _ (fun f p' s' h' => by cases f <;> exact h') (fun _ _ _ h' => h') _ _ h2
theorem Dens.snoc {Z : Zp} : ∀ {vs : List Value} {as : List AV} {v : Value} {a : AV}, Dens Z vs as → a.P Z v → Dens Z (vs ++ [v]) (as ++ [a])
  | [], [], _, _, _, h => ⟨h, trivial⟩
  | _ :: _, _ :: _, _, _, d, h => ⟨d.1, Dens.snoc d.2 h⟩
theorem Dens.len {Z : Zp} : ∀ {vs : List Value} {as : List AV}, Dens Z vs as → vs.length = as.length
  | [], [], _ => rfl
  | _ :: _, _ :: _, d => by simp [Dens.len d.2]
theorem Dens.at {Z : Zp} : ∀ {vs : List Value} {as : List AV}, Dens Z vs as → ∀ (i : Nat) (a : AV), as[i]? = some a → ∃ v, vs[i]? = some v ∧ a.P Z v
  | [], [], _, _, _, h => by simp at h
  | v :: _, _ :: _, d, 0, a, h => ⟨v, rfl, by simp at h; subst h; exact d.1⟩
  | _ :: _, _ :: _, d, i + 1, a, h => by simpa using Dens.at d.2 i a (by simpa using h)
section
variable {g : Gd} {r : Frm} {ρ : Loc} {Z : Zp} {O : Own} {k : Nat} {ns ms : List Int} {b : Nat}
/-- the script and a row behind it -/
theorem binAddS {c : Nat} (hn : ns.length ≤ c) (hs : c + b ≤ sizeLine) : BinR g k .Add (aS ns) (aLb b ms) (aLb (c + b) (ns ++ ms)) := by
  rintro Z x y ⟨a, o, vs, n, rfl, h1, h2, h3, i1, hl⟩ ⟨⟨d, ws, rfl, ⟨m, h4⟩, i2⟩, hb⟩
  have hsz : vs.toArray.size + ws.toArray.size ≤ sizeLine := by simp [i1.length, i2.length]; omega
  refine (Con.frzV (vs := vs ++ ws) ?_).mono fun Z' O' v _ ⟨e1, c', e2, e3⟩ => ⟨e1, ⟨c', _, e2, e3, i1.append i2⟩, by rw [List.length_append]; omega⟩
  intro A s Q hr ok hq
  obtain ⟨cls, dd, data, sl⟩ := o
  simp only at h2 h3
  subst h2 h3
  have e : vs.toArray ++ ws.toArray = (vs ++ ws).toArray := by simp
  refine concat_meets ⟨_, ok.zin _ _ h1, rfl⟩ ⟨_, ok.zin _ _ h4, rfl⟩ noFill_list_add seq_list_add PySem.F.slot_list_add PySem.F.entry_list_add (PySem.F.args_list_add_2 _ _) (list_addW a d vs.toArray ws.toArray n m dd none sl #[] hsz) ⟨ok.zin _ _ h1, ok.zin _ _ h4, ?_⟩
  rw [e]
  exact hq _ _ Z _ (Step.pushO ok (listO (vs ++ ws) 0) s.toks) ⟨_, _, rfl, rfl⟩
theorem conItemT {value slice : Expr} {a : Addr} {vs : List Value} {n : Nat} {i : Int} {u : Tok} {x : Value} (h : At Z O a (listO vs n)) (h0 : 0 ≤ i) (hf : i < 2 ^ 63) (hx : vs[i.toNat]? = some x)
    (hs : ∃ ops, subscripted slice false (.ref a) (.int i u) = operate ops (getItem (.ref a) (.int i u))) : Con g k Z O (subscriptTail value slice (.ref a) (.int i u)) (fun Z' O' v => O' = O ∧ v = x) :=
  conSubTail (T := "list") (fun s ok => ⟨_, h.get ok, rfl⟩) slot_list_getitem.lookup hs fun A s Q hr ok hq =>
    wpAny_getItem_list (items := vs.toArray) ⟨_, h.get ok, rfl, n, rfl⟩ h0 hf (by simpa using hx) (hq _ s Z O (Step.refl ok (t := s.toks)) ⟨rfl, rfl⟩)
/-- an item of a row that may be gone behind it -/
theorem subItemT {value slice : Expr} {i : Int} (h0 : 0 ≤ i) (h1 : i < ns.length) (hb : b ≤ sizeLine)
    (hs : ∀ o i, ∃ ops, subscripted slice false o i = operate ops (getItem o i) := by intro o i; exact ⟨_, by with_unfolding_all rfl⟩) : SubR g k value slice (aLb b ns) (aInt i) (aInt (ns.getD i.toNat 0)) :=
  fun Z₁ o iv ⟨⟨a, vs, e1, ⟨n, h⟩, i1⟩, hl⟩ ⟨u, e2⟩ => by
    subst e1 e2
    have hz' : sizeLine < 2 ^ 62 := by decide
    obtain ⟨t, hx'⟩ := i1.get i.toNat (ns.getD i.toNat 0) (by rw [List.getD_eq_getElem?_getD, List.getElem?_eq_getElem (by omega)]; rfl)
    exact (conItemT (.inl h) h0 (by omega) hx' (hs _ _)).mono fun Z' O' v _ ⟨e2, e3⟩ => ⟨e2, t, e3⟩
/-- an item of a list of lists -/
theorem subItemR {value slice : Expr} {as : List Addr} {i : Nat} (h1 : i < as.length) (hi : i ≤ 100000)
    (hs : ∀ o i, ∃ ops, subscripted slice false o i = operate ops (getItem o i) := by intro o i; exact ⟨_, by with_unfolding_all rfl⟩) : SubR g k value slice (aRefs as) (aInt (i : Nat)) (aVal (.ref (as.getD i 0))) :=
  fun Z₁ o iv ⟨a, m, e1, h⟩ ⟨u, e2⟩ => by
    subst e1 e2
    exact conItemT (x := .ref (as.getD i 0)) (.inl h) (by omega) (by omega) (by rw [Int.toNat_natCast, List.getElem?_map, List.getElem?_eq_getElem h1, List.getD_eq_getElem?_getD, List.getElem?_eq_getElem h1]; rfl) (hs _ _)
/-- an item of an owned list -/
theorem evItemO {value slice : Expr} {pos : Pos} {l : Addr} {vs : List Value} {n i : Nat} {x : Value} (hv : Ev g r ρ Z O value (aVal (.ref l))) (hi : Ev g r ρ Z O slice (aInt (i : Nat))) (h : (l, listO vs n) ∈ O) (hx : vs[i]? = some x) (hb : i ≤ 100000)
    (hs : ∀ o i, ∃ ops, subscripted slice false o i = operate ops (getItem o i) := by intro o i; exact ⟨_, by with_unfolding_all rfl⟩) : Ev g r ρ Z O (.Subscript value slice pos) (aVal x) :=
  opSub hv hi fun Z₁ o iv hz e1 ⟨u, e2⟩ => by
    obtain rfl : o = .ref l := e1
    subst e2
    exact conItemT (.inr h) (by omega) (by omega) (by simpa using hx) (hs _ _)
theorem evLenR {K : Frag} {e : Expr} {pos p : Pos} {as : List Addr} (hK : g.K = K) (hb : nsIn K mainGlobals "len" = some none) (he : Ev g r ρ Z O e (aRefs as)) (hs : as.length ≤ sizeLine)
    (hl : r.env.kindOf "len" = some .globalImplicit := by rfl) (hst : starEach [e] r.env = [(false, eval e r.env)] := by rfl) : Ev g r ρ Z O (.Call (.Name "len" p) [e] [] pos) (aInt as.length) :=
  opCall (f := .builtin "len") (Ev.boot hK hb boot_len (by decide) hl) Kp.builtin (Evs.cons he Evs.nil hst) (fun Z₁ vs hz hd => by
    obtain ⟨v, rfl, a, m, rfl, h⟩ := hd.one
    exact (conLen (.inl h) (by rw [List.length_map]; exact hs)).mono fun Z' O' v _ ⟨_, e1, t, e2⟩ => ⟨e1, t, by rw [e2, List.length_map]⟩) (by with_unfolding_all rfl)
/-- range(a, b) -/
theorem evRange2 {K : Frag} {e1 e2 : Expr} {pos p : Pos} {x c : Int} (hK : g.K = K) (hb : nsIn K mainGlobals "range" = some none) (h1 : Ev g r ρ Z O e1 (aInt x)) (h2 : Ev g r ρ Z O e2 (aInt c))
    (hl : r.env.kindOf "range" = some .globalImplicit := by rfl) (hst : starEach [e1, e2] r.env = (false, eval e1 r.env) :: starEach [e2] r.env := by rfl) (hst2 : starEach [e2] r.env = (false, eval e2 r.env) :: starEach [] r.env := by rfl) :
    Ev g r ρ Z O (.Call (.Name "range" p) [e1, e2] [] pos) (aRange3 x c 1) :=
  opCall (f := .type "range") (as := [aInt x, aInt c]) (Ev.boot hK hb bt_range (by decide) hl) Kp.type (Evs.cons h1 (Evs.cons h2 Evs.nil hst2) hst) (fun Z₁ vs hz hd => by
    obtain ⟨v1, v2, rfl, ⟨t, rfl⟩, ⟨u, rfl⟩⟩ := hd.two
    intro A s Q hr ok hq
    exact call_range_2 (hq _ _ _ O (Step.push ok (rangeO x c 1 t u s.toks) (s.toks + 1)) ⟨rfl, _, _, _, _, rfl, Zp.set_self ..⟩)) (by with_unfolding_all rfl)
theorem rangeTo {a c : Nat} (hac : a ≤ c) (hc : c ≤ 5000) : Builtin.Range.small (a : Int) (c : Int) 1 = true ∧ (Builtin.Range.rangeSize (a : Int) (c : Int) 1).toNat = c - a := by
  have h0 : Builtin.Range.rangeSize (a : Int) (c : Int) 1 = ((c - a : Nat) : Int) := by
    unfold Builtin.Range.rangeSize
    rw [if_pos (by decide), Int.ediv_one]
    split <;> omega
  constructor
  · unfold Builtin.Range.small
    rw [h0]
    unfold Builtin.Range.rangeFitsLong
    simp
    omega
  · rw [h0]; omega
theorem hitRange2 {a c : Nat} (hac : a ≤ c) (hc : c ≤ 5000) {Z₁ : Zp} {v : Value} (h : (aRange3 (a : Int) (c : Int) 1).P Z₁ v) : Con g k Z₁ O (pyIter v) (Iters g (c - a) (fun i => aInt ((a + i : Nat) : Int)) O) := by
  obtain ⟨d, t, u, w, rfl, h⟩ := h
  obtain ⟨h1, h2⟩ := rangeTo hac hc
  have := iterRange (g := g) (k := k) (O := O) h h1
  rw [h2] at this
  refine this.mono fun Z' O' w hz ⟨it, o, oi, e1, e2, e3, hI⟩ => ⟨it, o, oi, e1, e2, e3, ⟨fun Z₁ hz i o hi ho k => (hI.next Z₁ hz i o hi ho k).mono fun Z' O' v _ ⟨e1, x, o', e2, ⟨t, e3⟩, e4⟩ => ⟨e1, x, o', e2, ⟨t, e3.trans (by rw [Int.mul_one]; push_cast; rfl)⟩, e4⟩, hI.done⟩⟩
/-- list(range(n)) -/
theorem evListRange {K : Frag} {e : Expr} {pos p : Pos} {n : Nat} (hK : g.K = K) (hb : nsIn K mainGlobals "list" = some none) (h1 : Ev g r ρ Z O e (aRange (n : Int))) (hn : n ≤ 5000)
    (hl : r.env.kindOf "list" = some .globalImplicit := by rfl) (hst : starEach [e] r.env = (false, eval e r.env) :: starEach [] r.env := by rfl) : Ev g r ρ Z O (.Call (.Name "list" p) [e] [] pos) (aLb n ((List.range n).map fun i : Nat => (i : Int))) :=
  opCall (f := .type "list") (as := [aRange (n : Int)]) (Ev.boot hK hb bt_list (by decide) hl) Kp.type (Evs.cons h1 Evs.nil hst) (fun Z₁ vs hz hd => by
    obtain ⟨v, rfl, a, t, u, w, rfl, h⟩ := hd.one
    exact (Con.frzEnd (φ := fun _ o => ∃ vs m, o = listO vs m ∧ IntsAre vs ((List.range n).map fun i : Nat => (i : Int))) (fun _ _ _ _ h => h) ((conListRange (.inl h) hn).mono fun Z' O' v _ ⟨d, vs, m, e1, e2, e3⟩ => ⟨d, _, e1, e2, vs, m, rfl, e3⟩)).mono
      fun Z' O' v _ ⟨e, a, o, e1, e2, vs, m, e3, e4⟩ => ⟨e, ⟨a, vs, e1, ⟨m, e3 ▸ e2⟩, e4⟩, by rw [List.length_map, List.length_range]; exact Nat.le_refl _⟩) (by with_unfolding_all rfl)
/-- for x in a row of ints -/
theorem hitLb {Z₁ : Zp} {v : Value} (h : (aLb b ns).P Z₁ v) : Con g k Z₁ O (pyIter v) (Iters g ns.length (fun i => aInt (ns.getD i 0)) O) := by
  obtain ⟨⟨a, vs, rfl, ⟨n, h⟩, hi⟩, hl⟩ := h
  have := iterList (g := g) (k := k) (O := O) h
  rw [hi.length] at this
  refine this.mono fun Z' O' w hz ⟨it, o, oi, e1, e2, e3, hI⟩ => ⟨it, o, oi, e1, e2, e3, ⟨fun Z₁ hz i o hlt ho k => (hI.next Z₁ hz i o hlt ho k).mono fun Z' O' v _ ⟨e1, x, o', e2, e3, e4⟩ => ⟨e1, x, o', e2, ?_, e4⟩, hI.done⟩⟩
  obtain rfl : x = vs.getD i .none := e3
  obtain ⟨t, ht⟩ := hi.get i (ns.getD i 0) (by rw [List.getD_eq_getElem?_getD, List.getElem?_eq_getElem hlt]; rfl)
  exact ⟨t, by rw [List.getD_eq_getElem?_getD, ht]; rfl⟩
/-- the same list is not another -/
theorem cmpSame {a : Addr} : CmpR g k .IsNot (aVal (.ref a)) (aVal (.ref a)) (aBool false) := by
  rintro Z x y rfl rfl
  intro A s Q hr ok hq
  exact wpAny_isNot_ref_self (hq _ s Z [] (Step.refl ok (t := s.toks)) ⟨rfl, rfl⟩)
/-- a number in an owned cell -/
theorem evCellI {x : String} {pos : Pos} {c : Addr} {o : Obj} {i : Int} {t : Tok} (hd : o.data = .cell (some (.int i t))) (hk : r.env.kindOf (Str.ofString x) = some .cell) (hc : r.cells.lookup (Str.ofString x) = some c) (ho : (c, o) ∈ O)
    (hdb : (Str.ofString x == ("__debug__" : Str)) = false := by decide) : Ev g r ρ Z O (.Name (Str.ofString x) pos) (aInt i) :=
  Ev.mono (evCellO hk hc ho hd hdb) fun Z' v _ e => ⟨t, e⟩
/-- a statement that stores one name, while something owned is lent as frozen -/
theorem exLend {y : String} {av : AV} {st : Stmt} {rest : List Stmt} {F : Flow → Loc → Zp → Own → Prop} {c : Addr} {oc : Obj} (hloc : ∀ p ∈ ρ, r.env.kindOf (Str.ofString p.1) = some .local) (hP : ∀ Z' v, Z' c = some oc → av.P Z' v → av.P (Z'.unset c) v)
    (hy : r.env.kindOf (Str.ofString y) = some .local)
    (h : ∀ ρ2 Z₁, (∀ p ∈ ρ, p ∈ ρ2) → Z.Le Z₁ → Z₁ c = some oc → Exs g r ρ2 Z₁ O [st] (fun fl ρ' Z' O' => fl = .next ∧ O' = O ∧ ∀ p ∈ updL y av ρ2, p ∈ ρ'))
    (hr : Exs g r (updL y av ρ) Z ((c, oc) :: O) rest F) : Exs g r ρ Z ((c, oc) :: O) (st :: rest) F := by
  refine exs_cons (F₁ := fun fl ρ' Z' O' => fl = .next ∧ ρ' = updL y av ρ ∧ O' = (c, oc) :: O) ?_ (fun ρ' Z' O' hz ⟨_, e1, e2⟩ => by subst e1 e2; exact hr.le hz) fun fl ρ' Z' O' hne _ q => absurd q.1 hne
  intro B Z₁ s Q hz st' hq
  obtain ⟨m, hn, hl⟩ := st'.loc
  have fz := Step.freeze st'.ok
  have st1 := st'.step fz
  have hcO := st'.own (c, oc) (.head _)
  let val : (p : String × AV) → p ∈ ρ → Value := fun p hp => Classical.choose (hl p.1 p.2 hp)
  have hval : ∀ p (hp : p ∈ ρ), Rd r m Z₁ (Str.ofString p.1) (val p hp) ∧ p.2.P Z₁ (val p hp) := fun p hp => Classical.choose_spec (hl p.1 p.2 hp)
  let ρx : Loc := ρ.attach.map fun p => (p.1.1, aVal (val p.1 p.2))
  have hsing := h (ρ ++ ρx) (Z₁.set c oc) (fun p hp => List.mem_append_left _ hp) (hz.trans fz.le) (Zp.set_self _ _ _)
  refine wpAny_of_execs_one (hsing B _ s (fun fl s' => Q fl s') (.refl _) { st1 with loc := ⟨m, hn, fun y av hy => ?_⟩ } fun fl ρ' s' Z' O' hz' st2 ⟨e0, e, hρ'⟩ => ?_)
  · rcases List.mem_append.mp hy with hy | hy
    · obtain ⟨h1, h2⟩ := hval (y, av) hy
      exact ⟨_, h1.mono fz.le, av.mono fz.le h2⟩
    · obtain ⟨q, _, e⟩ := List.mem_map.mp hy
      injection e with e1 e2
      subst e1 e2
      exact ⟨_, (hval q.1 q.2).1.mono fz.le, rfl⟩
  subst e e0
  have hle : Z₁.Le (Z'.unset c) := fun b ob e => by
    have hb : b ≠ c := by rintro rfl; rw [hcO.2.1] at e; cases e
    rw [Zp.unset_ne _ hb]
    exact hz' b ob (by rw [Zp.set_ne _ _ hb]; exact e)
  have hZc : Z' c = some oc := hz' _ _ (Zp.set_self _ _ _)
  have hne : ∀ p ∈ O', p.1 ≠ c := fun p hp e => by
    have := st'.nod
    rw [List.map_cons, List.nodup_cons] at this
    exact this.1 (List.mem_map.mpr ⟨p, hp, e⟩)
  refine hq .next (updL y av ρ) s' (Z'.unset c) ((c, oc) :: O') hle ?_ ⟨rfl, rfl, rfl⟩
  exact { st2 with
    loc := by
      obtain ⟨m', hn', hl'⟩ := st2.loc
      refine ⟨m', hn', fun z bv hz2 => ?_⟩
      have loc1 : ∀ w, r.env.kindOf (Str.ofString z) = some .local → Rd r m' Z' (Str.ofString z) w → Rd r m' (Z'.unset c) (Str.ofString z) w := fun w hk hw => by
        rcases hw with h | ⟨h | ⟨h, _⟩, _⟩
        · exact .inl h
        · rw [hk] at h; cases h
        · rw [hk] at h; cases h
      rcases updL_mem hz2 with ⟨rfl, rfl⟩ | ⟨hz2, hzy⟩
      · obtain ⟨w, hw, e⟩ := hl' z bv (hρ' _ (.head _))
        exact ⟨w, loc1 w hy hw, hP _ _ hZc e⟩
      · obtain ⟨w, hw, e⟩ := hl' z (aVal (val (z, bv) hz2)) (hρ' _ (.tail _ (List.mem_filter.mpr ⟨List.mem_append_right _ (List.mem_map.mpr ⟨⟨(z, bv), hz2⟩, List.mem_attach _ _, rfl⟩), by simpa using hzy⟩)))
        obtain rfl : w = val (z, bv) hz2 := e
        exact ⟨_, loc1 _ (hloc _ hz2) hw, bv.mono hle (hval (z, bv) hz2).2⟩
    zin := fun b ob e => st2.zin b ob (Zp.unset_some e).2
    tz := fun b ob e => hle b ob (st'.tz b ob e)
    zL := by
      by_cases e : r.L = c
      · rw [e]; exact Zp.unset_self _ _
      · rw [Zp.unset_ne _ e]; exact st2.zL
    new := fun b ob e hb => st2.new b ob (Zp.unset_some e).2 hb
    z0 := st'.z0.trans hle
    own := fun p hp => by
      rcases List.mem_cons.mp hp with rfl | hp
      · exact ⟨st2.zin _ _ hZc, Zp.unset_self _ _, hcO.2.2.1, hcO.2.2.2⟩
      · obtain ⟨h1, h2, h3, h4⟩ := st2.own p hp
        exact ⟨h1, by rw [Zp.unset_ne _ (hne p hp)]; exact h2, h3, h4⟩
    nod := st'.nod }
end
end Mine
end
section
open PySem PySem.W PyProof.Rows PySem.Calls
set_option Elab.async false
set_option maxRecDepth 100000
set_option maxHeartbeats 1000000
set_option linter.unusedVariables false
namespace Mine
local macro_rules | `(tactic| walk_at "mem") => `(tactic| first | exact List.Mem.head _ | (refine List.Mem.tail _ ?_; walk_at "mem"))
local macro_rules | `(tactic| walk_at "nm") => `(tactic| (refine' Ev.name ?hm ?hd; (case hm => walk_at "mem"); (case hd => decide)))
local macro_rules | `(tactic| walk_at "sub") => `(tactic| first | exact List.forall_mem_nil _ | (refine List.forall_mem_cons.mpr ⟨?_, ?_⟩; (first | walk_at "mem" | simp); walk_at "sub"))
local macro_rules | `(tactic| walk_at "upd") => `(tactic| dsimp only [updL, List.filter, String.reduceBNe])
theorem fillK34 (w : World) : (KK w.params = KK w.params) ∧ (PySem.Challenge.rw_nc0017_01.name = PySem.Challenge.rw_nc0017_01.name) := by k_fill; exact ⟨rfl, rfl⟩
/-- a new version of the one with these leaves and this tail -/
def aNew (ls : List Addr) (t : Addr) (n : Nat) (tch : Int) (ns : List Int) : AV := ⟨NewW ls t n tch ns, fun hz ⟨ls', t', h, k⟩ => ⟨ls', t', (aWc ls' t' ns).mono hz h, k⟩⟩
theorem GivI.le {Z Z' : Zp} {o : Addr} {ms : List Int} (hz : Z.Le Z') : GivI Z o ms → GivI Z' o ms
  | .inl ⟨ys, h, i⟩ => .inl ⟨ys, h.le hz, i⟩
  | .inr ⟨n, t, u, w, h, r⟩ => .inr ⟨n, t, u, w, hz _ _ h, r⟩
/-- what extend takes -/
def aGI (b : Nat) (ms : List Int) : AV := ⟨fun Z v => ∃ o, v = .ref o ∧ GivI Z o ms ∧ ms.length ≤ b, fun hz ⟨o, e, h, l⟩ => ⟨o, e, h.le hz, l⟩⟩
section
variable {g : Gd} (hK : g.K = KK g.w.params) {k a b : Nat} {ns ms : List Int} {r : Frm} {ρ : Loc} {Z : Zp} {O : Own} {x i j : Int} {ls : List Addr} {t : Addr}
theorem giLI {e : Expr} (h : Ev g r ρ Z O e (aLb b ms)) : Ev g r ρ Z O e (aGI b ms) := Ev.mono h fun Z' v _ ⟨⟨a, vs, e1, ⟨n, h⟩, i1⟩, hl⟩ => ⟨a, e1, .inl ⟨vs, .inr (.inl ⟨n, h⟩), i1⟩, hl⟩
theorem giTI {e : Expr} (h : Ev g r ρ Z O e (aTb b ms)) : Ev g r ρ Z O e (aGI b ms) := Ev.mono h fun Z' v _ ⟨⟨a, vs, n, e1, h, i1⟩, hl⟩ => ⟨a, e1, .inl ⟨vs, .inr (.inr ⟨n, h⟩), i1⟩, hl⟩
theorem giVI {e : Expr} (h : Ev g r ρ Z O e (aVb b ms)) : Ev g r ρ Z O e (aGI b ms) := Ev.mono h fun Z' v _ ⟨⟨a, vs, e1, h, i1⟩, hl⟩ => ⟨a, e1, .inl ⟨vs, .inl h, i1⟩, hl⟩
theorem evW {e : Expr} {v : Value} (he : Ev g r ρ Z O e (aVal v)) (h : (aWc ls t ns).P Z v) : Ev g r ρ Z O e (aWc ls t ns) := fun B Z₁ s Q hz st hq => he B Z₁ s Q hz st fun v' s' Z' O' hz' st' ⟨e1, e2⟩ => by
  obtain rfl : v' = v := e2
  exact hq v' s' Z' O' hz' st' ⟨e1, (aWc ls t ns).mono (hz.trans hz') h⟩
theorem evIs {e : Expr} {v : Value} {av : AV} (he : Ev g r ρ Z O e (aVal v)) (h : av.P Z v) : Ev g r ρ Z O e av := fun B Z₁ s Q hz st hq => he B Z₁ s Q hz st fun v' s' Z' O' hz' st' ⟨e1, e2⟩ => by
  obtain rfl : v' = v := e2
  exact hq v' s' Z' O' hz' st' ⟨e1, av.mono (hz.trans hz') h⟩
include hK
theorem evMethW1 {o e : Expr} {apos pos : Pos} {pl : Sem Bool} {nm : Str} {f : Addr} {A1 R1 : AV} (hm : MethK (KK g.w.params) C nm f) (hkp : keepIn (KK g.w.params) (.ref f) = true) (ho : Ev g r ρ Z O o (aWc ls t ns)) (he : Ev g r ρ Z O e A1)
    (hc : ∀ Z₁ va w, Z.Le Z₁ → (aWc ls t ns).P Z₁ (.ref va) → A1.P Z₁ w → Con g r.k Z₁ O (call (.ref f) [.ref va, w]) (fun Z' O' u => O' = O ∧ R1.P Z' u)) (hst : starEach [e] r.env = (false, eval e r.env) :: starEach [] r.env := by rfl)
    (hev : eval (.Call (.Attribute o nm apos) [e] [] pos) r.env = (do
      let ov ← eval o r.env
      standAt apos.atName
      let (f, first) ← holding [ov] (getMethod ov nm pl)
      callWith pos f first (backTo pos (starEach [e] r.env)) []) := by rfl) : Ev g r ρ Z O (.Call (.Attribute o nm apos) [e] [] pos) R1 :=
  opMeth (f := .ref f) (Po := aWc ls t ns) (as := [A1]) ho (fun Z₂ ov hz ⟨va, vss, tl, h, root, e1, v, i1⟩ => by
      subst e1
      obtain ⟨d, t1, t2, t3, h3, h4⟩ := v.obj
      exact conMeth hK hm (.inl h3) (.inl h4)) (Kp.own hK hkp) (Evs.cons he Evs.nil hst)
    (fun Z₂ ov ws hz hov hds => by
      obtain ⟨w, rfl, hw⟩ := hds.one
      obtain ⟨va, vss, tl, h, root, e1, v, i1⟩ := id hov
      subst e1
      exact hc Z₂ va w hz hov hw) hev
theorem evMethW2 {o e e2 : Expr} {apos pos : Pos} {pl : Sem Bool} {nm : Str} {f : Addr} {A1 A2 R1 : AV} (hm : MethK (KK g.w.params) C nm f) (hkp : keepIn (KK g.w.params) (.ref f) = true) (ho : Ev g r ρ Z O o (aWc ls t ns)) (he : Ev g r ρ Z O e A1) (he2 : Ev g r ρ Z O e2 A2)
    (hc : ∀ Z₁ va w w2, Z.Le Z₁ → (aWc ls t ns).P Z₁ (.ref va) → A1.P Z₁ w → A2.P Z₁ w2 → Con g r.k Z₁ O (call (.ref f) [.ref va, w, w2]) (fun Z' O' u => O' = O ∧ R1.P Z' u)) (hst : starEach [e, e2] r.env = (false, eval e r.env) :: starEach [e2] r.env := by rfl) (hst2 : starEach [e2] r.env = (false, eval e2 r.env) :: starEach [] r.env := by rfl)
    (hev : eval (.Call (.Attribute o nm apos) [e, e2] [] pos) r.env = (do
      let ov ← eval o r.env
      standAt apos.atName
      let (f, first) ← holding [ov] (getMethod ov nm pl)
      callWith pos f first (backTo pos (starEach [e, e2] r.env)) []) := by rfl) : Ev g r ρ Z O (.Call (.Attribute o nm apos) [e, e2] [] pos) R1 :=
  opMeth (f := .ref f) (Po := aWc ls t ns) (as := [A1, A2]) ho (fun Z₂ ov hz ⟨va, vss, tl, h, root, e1, v, i1⟩ => by
      subst e1
      obtain ⟨d, t1, t2, t3, h3, h4⟩ := v.obj
      exact conMeth hK hm (.inl h3) (.inl h4)) (Kp.own hK hkp) (Evs.cons he (Evs.cons he2 Evs.nil hst2) hst)
    (fun Z₂ ov ws hz hov hds => by
      obtain ⟨w, w2, rfl, hw, hw2⟩ := hds.two
      obtain ⟨va, vss, tl, h, root, e1, v, i1⟩ := id hov
      subst e1
      exact hc Z₂ va w w2 hz hov hw hw2) hev
theorem evAppendW {o e : Expr} {apos pos : Pos} {pl : Sem Bool} (ho : Ev g r ρ Z O o (aWc ls t ns)) (he : Ev g r ρ Z O e (aInt x)) (hc : ns.length + 1 ≤ capV) (hk : 16 ≤ r.k) (hst : starEach [e] r.env = (false, eval e r.env) :: starEach [] r.env := by rfl)
    (hev : eval (.Call (.Attribute o "append" apos) [e] [] pos) r.env = (do
      let ov ← eval o r.env
      standAt apos.atName
      let (f, first) ← holding [ov] (getMethod ov "append" pl)
      callWith pos f first (backTo pos (starEach [e] r.env)) []) := by rfl) : Ev g r ρ Z O (.Call (.Attribute o "append" apos) [e] [] pos) (aNew ls t ns.length (ns.length / 32 : Nat) (ns ++ [x])) :=
  evMethW1 hK (mAppend g.w) (by k_is) ho he (fun Z₁ va w hz hv ⟨tk, e⟩ => by
    subst e
    exact (append_aW hK hv hc).room hk) hst hev
theorem evExtendW {o e : Expr} {apos pos : Pos} {pl : Sem Bool} (ho : Ev g r ρ Z O o (aWc ls t ns)) (he : Ev g r ρ Z O e (aGI b ms)) (hc : ns.length + ms.length ≤ capV) (hk : 24 ≤ r.k) (hst : starEach [e] r.env = (false, eval e r.env) :: starEach [] r.env := by rfl)
    (hev : eval (.Call (.Attribute o "extend" apos) [e] [] pos) r.env = (do
      let ov ← eval o r.env
      standAt apos.atName
      let (f, first) ← holding [ov] (getMethod ov "extend" pl)
      callWith pos f first (backTo pos (starEach [e] r.env)) []) := by rfl) : Ev g r ρ Z O (.Call (.Attribute o "extend" apos) [e] [] pos) (aNew ls t ns.length (if ms ≠ [] then ((ns.length / 32 : Nat) : Int) else -1) (ns ++ ms)) :=
  evMethW1 hK (mExtend g.w) (by k_is) ho he (fun Z₁ va w hz hv ⟨o, e, h, _⟩ => by
    subst e
    exact (extend_aW hK hv h hc).room hk) hst hev
theorem evSetW {o e e2 : Expr} {apos pos : Pos} {pl : Sem Bool} {j : Nat} (ho : Ev g r ρ Z O o (aWc ls t ns)) (he : Ev g r ρ Z O e (aInt i)) (he2 : Ev g r ρ Z O e2 (aInt x)) (hj : j < ns.length) (hi : i = j ∨ i = j - (ns.length : Int)) (hk : 24 ≤ r.k)
    (hst : starEach [e, e2] r.env = (false, eval e r.env) :: starEach [e2] r.env := by rfl) (hst2 : starEach [e2] r.env = (false, eval e2 r.env) :: starEach [] r.env := by rfl)
    (hev : eval (.Call (.Attribute o "set" apos) [e, e2] [] pos) r.env = (do
      let ov ← eval o r.env
      standAt apos.atName
      let (f, first) ← holding [ov] (getMethod ov "set" pl)
      callWith pos f first (backTo pos (starEach [e, e2] r.env)) []) := by rfl) : Ev g r ρ Z O (.Call (.Attribute o "set" apos) [e, e2] [] pos) (aNew ls t ns.length (j / 32 : Nat) (ns.set j x)) :=
  evMethW2 hK (mSet g.w) (by k_is) ho he he2 (fun Z₁ va w w2 hz hv ⟨t1, e1⟩ ⟨t2, e2⟩ => by
    subst e1 e2
    exact (set_aW hK hv hj hi).room hk) hst hst2 hev
theorem evSetEndW {o e e2 : Expr} {apos pos : Pos} {pl : Sem Bool} (ho : Ev g r ρ Z O o (aWc ls t ns)) (he : Ev g r ρ Z O e (aInt ns.length)) (he2 : Ev g r ρ Z O e2 (aInt x)) (hc : ns.length + 1 ≤ capV) (hk : 24 ≤ r.k)
    (hst : starEach [e, e2] r.env = (false, eval e r.env) :: starEach [e2] r.env := by rfl) (hst2 : starEach [e2] r.env = (false, eval e2 r.env) :: starEach [] r.env := by rfl)
    (hev : eval (.Call (.Attribute o "set" apos) [e, e2] [] pos) r.env = (do
      let ov ← eval o r.env
      standAt apos.atName
      let (f, first) ← holding [ov] (getMethod ov "set" pl)
      callWith pos f first (backTo pos (starEach [e, e2] r.env)) []) := by rfl) : Ev g r ρ Z O (.Call (.Attribute o "set" apos) [e, e2] [] pos) (aNew ls t ns.length (ns.length / 32 : Nat) (ns ++ [x])) :=
  evMethW2 hK (mSet g.w) (by k_is) ho he he2 (fun Z₁ va w w2 hz hv ⟨t1, e1⟩ ⟨t2, e2⟩ => by
    subst e1 e2
    exact (setEnd_aW hK hv hc).room hk) hst hst2 hev
/-- set refused -/
theorem opSetX {o e e2 : Expr} {apos pos : Pos} {pl : Sem Bool} (ho : Ev g r ρ Z O o (aWc ls t ns)) (he : Ev g r ρ Z O e (aInt i)) (he2 : Ev g r ρ Z O e2 (aInt x)) (hn : ns.length ≤ 50000) (hi : i < -(ns.length : Int) ∨ (ns.length : Int) < i) (hlo : -50000 ≤ i) (hhi : i ≤ 50000) (hk : r.k = 32)
    (hst : starEach [e, e2] r.env = (false, eval e r.env) :: starEach [e2] r.env := by rfl) (hst2 : starEach [e2] r.env = (false, eval e2 r.env) :: starEach [] r.env := by rfl)
    (hev : eval (.Call (.Attribute o "set" apos) [e, e2] [] pos) r.env = (do
      let ov ← eval o r.env
      standAt apos.atName
      let (f, first) ← holding [ov] (getMethod ov "set" pl)
      callWith pos f first (backTo pos (starEach [e, e2] r.env)) []) := by rfl) : OpX g r ρ Z O (eval (.Call (.Attribute o "set" apos) [e, e2] [] pos) r.env) "IndexError" :=
  opMethX (f := .ref 190) (Po := aWc ls t ns) (as := [aInt i, aInt x]) ho (fun Z₂ ov hz ⟨va, vss, tl, h, root, e1, v, i1⟩ => by
      subst e1
      obtain ⟨d, t1, t2, t3, h3, h4⟩ := v.obj
      exact conMeth hK (mSet g.w) (.inl h3) (.inl h4)) (Kp.own hK (by k_is)) (Evs.cons he (Evs.cons he2 Evs.nil hst2) hst)
    (fun Z₂ ov ws hz hov hds => by
      obtain ⟨w, w2, rfl, ⟨t1, rfl⟩, ⟨t2, rfl⟩⟩ := hds.two
      obtain ⟨va, vss, tl, h, root, e1, v, i1⟩ := id hov
      subst e1
      intro A s Q E outer hb hr ok hfr hff hsb hq
      exact set_ref hK hov hn hi hlo hhi A s Q E outer hb (hr.le (by rw [hk]; exact Nat.le_of_ble_eq_true rfl)) ok hfr hff hsb hq) hev
/-- vector.append(e) -/
theorem evAppendV {o e : Expr} {apos pos : Pos} {pl : Sem Bool} (ho : Ev g r ρ Z O o (aVb b ns)) (he : Ev g r ρ Z O e (aInt x)) (hn : ns.length + 1 ≤ b) (hc : b ≤ capV) (hk : 16 ≤ r.k) (hst : starEach [e] r.env = (false, eval e r.env) :: starEach [] r.env := by rfl)
    (hev : eval (.Call (.Attribute o "append" apos) [e] [] pos) r.env = (do
      let ov ← eval o r.env
      standAt apos.atName
      let (f, first) ← holding [ov] (getMethod ov "append" pl)
      callWith pos f first (backTo pos (starEach [e] r.env)) []) := by rfl) : Ev g r ρ Z O (.Call (.Attribute o "append" apos) [e] [] pos) (aVb b (ns ++ [x])) :=
  evMeth1 hK (mAppend g.w) (by k_is) ho he (fun Z₁ va xs w v i1 hl ⟨tk, e⟩ => by
    subst e
    obtain ⟨p, hp⟩ := aVb.toW (b := b) ⟨⟨va, xs, rfl, v, i1⟩, hl⟩
    exact ((append_aW hK hp (by omega)).room hk).mono fun Z' O' u hz ⟨e, ls', t', h, _⟩ => ⟨e, aWc.toVb h (by simpa using hn)⟩) hst hev
/-- pvector(range(n)) -/
theorem evPvecR {e : Expr} {pos p : Pos} {n : Nat} (he : Ev g r ρ Z O e (aRange (n : Int))) (hn : n ≤ 5000) (hk : 25 ≤ r.k)
    (hl : r.env.kindOf "pvector" = some .globalImplicit := by rfl) (hst : starEach [e] r.env = (false, eval e r.env) :: starEach [] r.env := by rfl) : Ev g r ρ Z O (.Call (.Name "pvector" p) [e] [] pos) (aVb n ((List.range n).map fun i : Nat => (i : Int))) :=
  opCall (f := .ref 320) (as := [aRange (n : Int)]) (Ev.glob hK (by k_is) hl) (Kp.own hK (by k_is)) (Evs.cons he Evs.nil hst) (fun Z₁ vs hz hd => by
    obtain ⟨v, rfl, o, t, u, w, rfl, h⟩ := hd.one
    exact (Con.withTz fun tz => (pvecR_ok hK tz h hn).room hk)) (by with_unfolding_all rfl)
/-- _law_leaves(v, n) -/
theorem evLeaves {e e2 : Expr} {pos p : Pos} (he : Ev g r ρ Z O e (aWc ls t ns)) (he2 : Ev g r ρ Z O e2 (aInt ns.length)) (hn : ns.length ≤ 5000) (hk : 10 ≤ r.k)
    (hl : r.env.kindOf "_law_leaves" = some .globalImplicit := by rfl) (hst : starEach [e, e2] r.env = (false, eval e r.env) :: starEach [e2] r.env := by rfl) (hst2 : starEach [e2] r.env = (false, eval e2 r.env) :: starEach [] r.env := by rfl) : Ev g r ρ Z O (.Call (.Name "_law_leaves" p) [e, e2] [] pos) (aRefs (leavesOf ls t ns.length)) :=
  opCall (f := .ref 325) (as := [aWc ls t ns, aInt ns.length]) (Ev.glob hK (by k_is) hl) (Kp.own hK (by k_is)) (Evs.cons he (Evs.cons he2 Evs.nil hst2) hst) (fun Z₁ vs hz hd => by
    obtain ⟨v, w, rfl, hv, ⟨tk, rfl⟩⟩ := hd.two
    exact (leaves_ok hK hv hn).room hk) (by with_unfolding_all rfl)
end
end Mine
end
section
open PySem PySem.W PyProof.Rows PySem.Calls
set_option Elab.async false
set_option maxRecDepth 100000
set_option maxHeartbeats 1000000
set_option linter.unusedVariables false
namespace Mine
theorem flat_run : ∀ {vss : List (List Value)} (j : Nat), (∀ vs ∈ vss, vs.length = 32) → j < vss.length → ∀ tl, ((vss.flatten ++ tl).drop (32 * j)).take 32 = vss.getD j []
  | [], j, _, h, _ => absurd h (Nat.not_lt_zero _)
  | vs :: vss, 0, h, _, tl => by
    have := h vs (.head _)
    simp [List.flatten_cons, List.append_assoc]
    rw [← this, List.take_left]
  | vs :: vss, j + 1, h, hj, tl => by
    have h1 := h vs (.head _)
    have ih := flat_run (vss := vss) j (fun v hv => h v (.tail _ hv)) (by simpa using hj) tl
    rw [List.flatten_cons, List.append_assoc, show 32 * (j + 1) = vs.length + 32 * j by omega, ← List.drop_drop, List.drop_left]
    simpa using ih
/-- a leaf holds its stretch -/
theorem leafRun {C : Addr} {Z : Zp} {ls : List Addr} {t : Addr} {ns : List Int} {v : Value} (h : (aW C ls t ns).P Z v) {j : Nat} (hj : 32 * j < ns.length) : (aLb 32 ((ns.drop (32 * j)).take 32)).P Z (.ref ((ls ++ [t]).getD j 0)) := by
  obtain ⟨a, vss, tl, hh, root, e, x, i⟩ := h
  have h32 := x.tlen
  have hfl := x.leaves.flat
  have hvl := x.leaves.length
  have hlen : ns.length = 32 * ls.length + tl.length := by rw [← i.length, List.length_append, hfl]
  have hb : ((ns.drop (32 * j)).take 32).length ≤ 32 := by rw [List.length_take]; omega
  have hi := intsTake (intsDrop i (32 * j)) 32
  by_cases hlt : j < ls.length
  · obtain ⟨l, vs, e1, e2, e3, e4⟩ := x.leaves.get j hlt
    have hr := flat_run (vss := vss) j x.leaves.all32 (by omega) tl
    rw [hr, List.getD_eq_getElem?_getD, e2] at hi
    refine ⟨⟨l, vs, ?_, e3, hi⟩, hb⟩
    rw [List.getD_eq_getElem?_getD, List.getElem?_append_left hlt, e1]; rfl
  · have hje : j = ls.length := by omega
    subst hje
    have e1 : ((vss.flatten ++ tl).drop (32 * ls.length)).take 32 = tl := by rw [← hfl, List.drop_left, List.take_of_length_le h32]
    rw [e1] at hi
    refine ⟨⟨t, tl, ?_, x.tail, hi⟩, hb⟩
    rw [List.getD_eq_getElem?_getD, List.getElem?_append_right (Nat.le_refl _)]; simp
theorem leavesOf_len (ls : List Addr) (t : Addr) (n : Nat) : (leavesOf ls t n).length = (n + 31) / 32 := by simp [leavesOf]
theorem leavesOf_get (ls : List Addr) (t : Addr) {n j : Nat} (h : 32 * j < n) : (leavesOf ls t n).getD j 0 = (ls ++ [t]).getD j 0 := by
  unfold leavesOf
  rw [List.getD_eq_getElem?_getD, List.getElem?_map, List.getElem?_range (by omega)]; rfl
/-- a version: its leaves, its tail, its numbers -/
structure Ver where
  ls : List Addr
  t : Addr
  ns : List Int
/-- all versions, as the three lists hold them -/
structure Hist (C : Addr) (Z : Zp) (W : List Ver) (ms ps hs : List Value) : Prop where
  m : Dens Z ms (W.map fun w => aW C w.ls w.t w.ns)
  p : Dens Z ps (W.map fun w => aLb 5000 w.ns)
  h : Dens Z hs (W.map fun w => aRefs (leavesOf w.ls w.t w.ns.length))
theorem Hist.le {C : Addr} {Z Z' : Zp} {W : List Ver} {ms ps hs : List Value} (hz : Z.Le Z') (x : Hist C Z W ms ps hs) : Hist C Z' W ms ps hs := ⟨x.m.mono hz, x.p.mono hz, x.h.mono hz⟩
theorem Hist.lm {C : Addr} {Z : Zp} {W : List Ver} {ms ps hs : List Value} (x : Hist C Z W ms ps hs) : ms.length = W.length := by rw [x.m.len, List.length_map]
theorem Hist.lp {C : Addr} {Z : Zp} {W : List Ver} {ms ps hs : List Value} (x : Hist C Z W ms ps hs) : ps.length = W.length := by rw [x.p.len, List.length_map]
theorem Hist.lh {C : Addr} {Z : Zp} {W : List Ver} {ms ps hs : List Value} (x : Hist C Z W ms ps hs) : hs.length = W.length := by rw [x.h.len, List.length_map]
theorem Hist.at {C : Addr} {Z : Zp} {W : List Ver} {ms ps hs : List Value} (x : Hist C Z W ms ps hs) {i : Nat} {w : Ver} (h : W[i]? = some w) :
    ∃ a b c, ms[i]? = some a ∧ ps[i]? = some b ∧ hs[i]? = some c ∧ (aW C w.ls w.t w.ns).P Z a ∧ (aLb 5000 w.ns).P Z b ∧ (aRefs (leavesOf w.ls w.t w.ns.length)).P Z c := by
  obtain ⟨a, h1, h2⟩ := x.m.at i _ (by rw [List.getElem?_map, h]; rfl)
  obtain ⟨b, h3, h4⟩ := x.p.at i _ (by rw [List.getElem?_map, h]; rfl)
  obtain ⟨c, h5, h6⟩ := x.h.at i _ (by rw [List.getElem?_map, h]; rfl)
  exact ⟨a, b, c, h1, h3, h5, h2, h4, h6⟩
theorem Hist.snoc {C : Addr} {Z : Zp} {W : List Ver} {ms ps hs : List Value} (x : Hist C Z W ms ps hs) {w : Ver} {a b c : Value} (h1 : (aW C w.ls w.t w.ns).P Z a) (h2 : (aLb 5000 w.ns).P Z b) (h3 : (aRefs (leavesOf w.ls w.t w.ns.length)).P Z c) :
    Hist C Z (W ++ [w]) (ms ++ [a]) (ps ++ [b]) (hs ++ [c]) := by
  refine ⟨?_, ?_, ?_⟩
  · rw [List.map_append]; exact x.m.snoc h1
  · rw [List.map_append]; exact x.p.snoc h2
  · rw [List.map_append]; exact x.h.snoc h3
theorem cmpL_ne_nil (ns : List Int) : cmpL .NotEq ns [] = decide (ns ≠ []) := by
  cases ns with
  | nil => rfl
  | cons a l => simp [cmpL_nil_right, cmpNat]
theorem cut40 (ns : List Int) : (pickNums ns (some (-40)) none none).length ≤ 40 := by
  rw [pn_from, List.length_drop]
  unfold clipI
  omega
/-- where a number is set: in place, or just behind the last -/
theorem setCut {ns : List Int} {q : Nat} {x : Int} (hq : q ≤ ns.length) : (q < ns.length ∧ ns.take q ++ [x] ++ ns.drop (q + 1) = ns.set q x) ∨ (q = ns.length ∧ ns.take q ++ [x] ++ ns.drop (q + 1) = ns ++ [x]) := by
  rcases Nat.lt_or_ge q ns.length with h | h
  · exact .inl ⟨h, set_cuts ns q x h⟩
  · have e : q = ns.length := by omega
    subst e
    exact .inr ⟨rfl, by simp⟩
end Mine
end
section
open PySem PySem.W PyProof.Rows PySem.Calls
set_option Elab.async false
set_option maxRecDepth 100000
set_option maxHeartbeats 1000000
set_option linter.unusedVariables false
namespace Mine
section
variable {g : Gd} {r : Frm} {ρ : Loc} {Z : Zp} {O : Own}
theorem readI {B : Zp} {s : Shared} {x : String} {pos : Pos} {i : Int} {A' : Around} {E' : Value → Shared → Prop} {Q : Value → Shared → Prop} {tk : Nat} (st : Sta g r B s ρ Z O) (h : (x, aInt i) ∈ ρ) (hk : r.env.kindOf (Str.ofString x) = some .local)
    (hq : ∀ t, Q (.int i t) { s with toks := tk }) (hd : (Str.ofString x == ("__debug__" : Str)) = false := by decide) : wpAny g.M A' (eval (.Name (Str.ofString x) pos) r.env) Q E' { s with toks := tk } := by
  obtain ⟨m, hn, hl⟩ := st.loc
  obtain ⟨v, hv, t, rfl⟩ := hl x _ h
  rcases hv with ⟨_, hm⟩ | ⟨h | ⟨h, _⟩, _⟩
  · exact wpAny_Name (wpAny_loadName_local st.hk hk (s := { s with toks := tk }) hn hm (hq t)) hd
  · rw [hk] at h; cases h
  · rw [hk] at h; cases h
/-- if -many <= place <= many: return False, continue -/
theorem suiteCont {many place : String} {p1 p2 p3 p4 p5 p6 p7 : Pos} {body : List Stmt} {n p : Int} (hm : (many, aInt n) ∈ ρ) (hp : (place, aInt p) ∈ ρ) (h : ¬(-n ≤ p ∧ p ≤ n)) (k1 : r.env.kindOf (Str.ofString many) = some .local) (k2 : r.env.kindOf (Str.ofString place) = some .local)
    (d1 : (Str.ofString many == ("__debug__" : Str)) = false := by decide) (d2 : (Str.ofString place == ("__debug__" : Str)) = false := by decide) :
    ∀ B Z' s A' E', Sta g r B s ρ Z' O → wpAny g.M A' (execs [.If (.Compare (.UnaryOp .USub (.Name (Str.ofString many) p1) p2) [.LtE, .LtE] [.Name (Str.ofString place) p3, .Name (Str.ofString many) p4] p5) body [] p6, .Continue p7] r.env) (fun fl s' => fl = .cont ∧ ∃ t, s' = { s with toks := t }) E' s := by
  intro B Z' s A' E' st
  have fin : ∀ tk, wpAny g.M A' (execs [.Continue p7] r.env) (fun fl s' => fl = .cont ∧ ∃ t, s' = { s with toks := t }) E' { s with toks := tk } := fun tk =>
    wpAny_execs_cons (wpAny_Continue ⟨rfl, tk, rfl⟩)
  rw [execs_If]
  refine wpAny_bind (wpAny_standAt (wpAny_bind ?_))
  refine isTrue_chain (wpAny_UnaryOp ?_) (by with_unfolding_all rfl)
  refine readI (tk := s.toks) st hm k1 (fun t => neg_int ?_) d1
  refine test_link (readI (tk := s.toks + 1) st hp k2 (fun t2 => le_int ?_) d2)
  refine wpAny_truthy_bool ?_
  by_cases h1 : -n ≤ p
  · rw [decide_eq_true h1]
    refine test_last (readI (tk := s.toks + 1) st hm k1 (fun t3 => le_int ?_) d1)
    refine wpAny_truthy_bool ?_
    rw [decide_eq_false (fun h2 => h ⟨h1, h2⟩)]
    exact fin (s.toks + 1)
  · rw [decide_eq_false h1]
    exact fin (s.toks + 1)
end
end Mine
end
section
open PySem PySem.W PyProof.Rows PySem.Calls
set_option Elab.async false
set_option maxRecDepth 100000
set_option maxHeartbeats 4000000
set_option linter.unusedVariables false
namespace Mine
local macro_rules | `(tactic| walk_at "mem") => `(tactic| first | with_reducible_and_instances exact List.Mem.head _ | (refine List.Mem.tail _ ?_; walk_at "mem"))
local macro_rules | `(tactic| walk_at "nm") => `(tactic| ((with_reducible apply Ev.name); walk_at "mem"; decide))
local macro_rules | `(tactic| walk_at "submem") => `(tactic| first | exact List.forall_mem_nil _ | (refine List.forall_mem_cons.mpr ⟨?_, ?_⟩; (first | walk_at "mem" | simp); walk_at "submem"))
local macro_rules | `(tactic| walk_at "upd") => `(tactic| dsimp only [updL, List.filter, String.reduceBNe])
local macro_rules | `(tactic| walk_at "rm") => `(tactic| exact Nat.le_of_ble_eq_true rfl)
local macro_rules | `(tactic| walk_at "num") => `(tactic| first | decide | omega | assumption)
local macro_rules | `(tactic| walk_at "bin") => `(tactic| first
  | with_reducible exact binAdd | with_reducible exact binSub
  | ((with_reducible refine binMod ?h); (case h => walk_at "num"))
  | ((with_reducible refine binDivS ?h ?h2); (case h => walk_at "num"); (case h2 => walk_at "num"))
  | ((with_reducible refine binMul (mulOk_left ?h)); (case h => walk_at "num"))
  | ((with_reducible refine binAddLb ?h); (case h => decide))
  | ((with_reducible refine binAddVV ?hK ?h ?hk); (case hK => assumption); (case h => decide); (case hk => walk_at "rm"))
  | ((with_reducible refine binAddVL ?hK ?h ?hk); (case hK => assumption); (case h => decide); (case hk => walk_at "rm"))
  | ((with_reducible refine binAddVT ?hK ?h ?hk); (case hK => assumption); (case h => decide); (case hk => walk_at "rm"))
  | walk_at "bin2")
local macro_rules | `(tactic| walk_at "bin2") => `(tactic| fail "no rule")
local macro_rules | `(tactic| walk_at "cmp") => `(tactic| first
  | with_reducible exact cmpLt | with_reducible exact cmpLe | with_reducible exact cmpGt | with_reducible exact cmpGe | with_reducible exact cmpEq | with_reducible exact cmpNe
  | with_reducible exact cmpBB | with_reducible exact cmpInb
  | ((with_reducible refine cmpLLb ?h); (case h => rfl))
  | ((with_reducible refine cmpVV_Lt ?hK ?hk); (case hK => assumption); (case hk => walk_at "rm"))
  | ((with_reducible refine cmpVV_LtE ?hK ?hk); (case hK => assumption); (case hk => walk_at "rm"))
  | ((with_reducible refine cmpVV_Gt ?hK ?hk); (case hK => assumption); (case hk => walk_at "rm"))
  | ((with_reducible refine cmpVV_GtE ?hK ?hk); (case hK => assumption); (case hk => walk_at "rm"))
  | ((with_reducible refine cmpVV_Eq ?hK ?hk); (case hK => assumption); (case hk => walk_at "rm"))
  | ((with_reducible refine cmpVL_GtE ?hK ?hb ?hk); (case hK => assumption); (case hb => decide); (case hk => walk_at "rm"))
  | ((with_reducible refine cmpVL_Eq ?hK ?hb ?hk); (case hK => assumption); (case hb => decide); (case hk => walk_at "rm"))
  | ((with_reducible refine cmpLV_Lt ?hK ?hb ?hk); (case hK => assumption); (case hb => decide); (case hk => walk_at "rm"))
  | ((with_reducible refine cmpLV_Eq ?hK ?hb ?hk); (case hK => assumption); (case hb => decide); (case hk => walk_at "rm"))
  | walk_at "cmp2")
local macro_rules | `(tactic| walk_at "cmp2") => `(tactic| fail "no rule")
local macro_rules | `(tactic| walk_at "nz") => `(tactic| first | (intro h; cases h; done) | (simp; done) | (simp; omega))
local macro_rules | `(tactic| walk_at "sub") => `(tactic| first
  | ((with_reducible refine subCutL0 ?h0 ?hb); (case h0 => walk_at "nz"); (case hb => decide))
  | ((with_reducible refine subCutV0 ?hK ?h0 ?hk); (case hK => assumption); (case h0 => walk_at "nz"); (case hk => walk_at "rm"))
  | ((with_reducible refine subCutL1 ?h0 ?hb); (case h0 => walk_at "nz"); (case hb => decide))
  | ((with_reducible refine subCutV1 ?hK ?h0 ?hk); (case hK => assumption); (case h0 => walk_at "nz"); (case hk => walk_at "rm"))
  | ((with_reducible refine subItemLb ?h0 ?h1 ?hb ?hs ?hg); (case h0 => walk_at "num"); (case h1 => walk_at "num"); (case hb => decide); (case hs => intros; with_unfolding_all rfl); (case hg => intros; with_unfolding_all rfl))
  | walk_at "sub2")
local macro_rules | `(tactic| walk_at "sub2") => `(tactic| fail "no rule")
local macro_rules | `(tactic| walk_at "part") => `(tactic| first | with_reducible exact PartE.none | ((with_reducible apply PartE.some); walk_at "ev"))
local macro_rules | `(tactic| walk_at "giv") => `(tactic| first | ((with_reducible apply givL); walk_at "ev") | ((with_reducible apply givV); walk_at "ev") | ((with_reducible apply givT); walk_at "ev"))
local macro_rules | `(tactic| walk_at "ev") => `(tactic| first
  | walk_at "nm"
  | with_reducible exact Ev.int
  | with_reducible exact Ev.bool
  | with_reducible exact evNilI
  | ((with_reducible apply evNeg); walk_at "ev")
  | ((with_reducible apply Ev.bin); walk_at "ev"; walk_at "ev"; walk_at "bin")
  | ((with_reducible apply Ev.cmp); walk_at "ev"; walk_at "ev"; walk_at "cmp"; (with_unfolding_all rfl))
  | ((with_reducible apply evSlice); walk_at "part"; walk_at "part"; walk_at "part")
  | ((with_reducible apply evSub); walk_at "ev"; walk_at "ev"; walk_at "sub")
  | ((with_reducible apply evOneI); walk_at "ev"; rfl)
  | walk_at "call")
local macro_rules | `(tactic| walk_at "call") => `(tactic| first
  | ((with_reducible apply evLenLb); assumption; k_is; walk_at "ev"; decide; rfl; rfl)
  | ((with_reducible apply evLenVb); assumption; walk_at "ev"; walk_at "rm"; rfl; rfl)
  | ((with_reducible apply evMax); assumption; k_is; walk_at "ev"; walk_at "ev"; rfl; rfl; rfl)
  | ((with_reducible apply evMin); assumption; k_is; walk_at "ev"; walk_at "ev"; rfl; rfl; rfl)
  | ((with_reducible apply evTupleLb); assumption; k_is; walk_at "ev"; decide; rfl; rfl)
  | ((with_reducible apply evTolist); assumption; walk_at "ev"; walk_at "rm"; rfl)
  | ((with_reducible apply evExtend); assumption; walk_at "ev"; walk_at "giv"; decide; walk_at "rm"; rfl; rfl)
  | ((with_reducible apply evCountV); assumption; walk_at "ev"; walk_at "ev"; walk_at "rm"; rfl; rfl)
  | ((with_reducible apply evCountL); walk_at "ev"; walk_at "ev"; rfl; rfl)
  | ((with_reducible apply evPvec); assumption; walk_at "giv"; decide; walk_at "rm"; rfl; rfl)
  | walk_at "call2")
local macro_rules | `(tactic| walk_at "call2") => `(tactic| fail "no rule")
local macro_rules | `(tactic| walk_at "all") => `(tactic| first
  | with_reducible exact TstAll.and_nil
  | with_reducible exact TstAll.or_nil
  | ((with_reducible apply TstAll.and_cons); walk_at "tst"; intro _; walk_at "all")
  | ((with_reducible apply TstAll.or_cons); walk_at "tst"; intro _; walk_at "all"))
local macro_rules | `(tactic| walk_at "tst") => `(tactic| first
  | ((with_reducible apply Tst.not); walk_at "tst")
  | ((with_reducible apply Tst.all); walk_at "all")
  | ((with_reducible apply Tst.cmp); walk_at "ev"; walk_at "ev"; walk_at "cmp"; (with_unfolding_all rfl))
  | ((with_reducible apply Tst.of); walk_at "ev"; (first | with_reducible exact TruR.bool | with_reducible exact truInt); rfl))
local macro_rules | `(tactic| walk_at "sub2") => `(tactic| ((with_reducible refine subItemT ?h0 ?h1 ?hb ?hs); (case h0 => walk_at "num"); (case h1 => walk_at "num"); (case hb => decide); (case hs => exact fun o i => ⟨_, by with_unfolding_all rfl⟩)))
local macro_rules | `(tactic| walk_at "nm") => `(tactic| first | ((with_reducible apply Ev.name); walk_at "mem"; decide) | ((with_reducible apply evCellI); assumption; rfl; rfl; walk_at "mem"; decide))
local macro_rules | `(tactic| walk_at "call2") => `(tactic| ((with_reducible apply castI); (with_reducible apply evLen); assumption; k_is; walk_at "nm"; (refine .inr ?_; walk_at "mem"); assumption; rfl; rfl; rfl; assumption))
theorem fillK39 (w : World) : (KK w.params = KK w.params) ∧ (PySem.Challenge.rw_nc0017_01.name = PySem.Challenge.rw_nc0017_01.name) := by k_fill; exact ⟨rfl, rfl⟩
theorem size5 (x : Int) : 0 ≤ [0, 990, 1024, 32, 2030].getD ((x.fmod 5).toNat) (0 : Int) ∧ [0, 990, 1024, 32, 2030].getD ((x.fmod 5).toNat) (0 : Int) ≤ 2030 := by
  have h1 := Int.fmod_nonneg_of_pos x (show (0 : Int) < 5 by decide)
  have h2 := Int.fmod_lt_of_pos x (show (0 : Int) < 5 by decide)
  have h3 : (x.fmod 5).toNat < 5 := by omega
  generalize (x.fmod 5).toNat = m at h3
  have : ∀ m, m < 5 → 0 ≤ [0, 990, 1024, 32, 2030].getD m (0 : Int) ∧ [0, 990, 1024, 32, 2030].getD m (0 : Int) ≤ 2030 := by decide
  exact this m h3
abbrev upTo (n : Nat) : List Int := (List.range n).map fun i : Nat => (i : Int)
theorem upTo_succ (n : Nat) : upTo n ++ [(n : Int)] = upTo (n + 1) := by simp [upTo, List.range_succ]
theorem castA {g : Gd} {r : Frm} {ρ : Loc} {Z : Zp} {O : Own} {e : Expr} {a b : Addr} (h : Ev g r ρ Z O e (aVal (.ref a))) (e' : a = b) : Ev g r ρ Z O e (aVal (.ref b)) := e' ▸ h
/-- what is known of a name's value is told -/
theorem Ex.tell {g : Gd} {r : Frm} {ρ : Loc} {Z : Zp} {O : Own} {t : Sem Flow} {F : Flow → Loc → Zp → Own → Prop} {x : String} {v : Value} {av : AV} (hv : av.P Z v) (hm : (x, aVal v) ∈ ρ) (h : Ex g r ((x, av) :: ρ) Z O t F) : Ex g r ρ Z O t F :=
  Ex.weak (fun y b hy => by
    rcases List.mem_cons.mp hy with e | hy
    · injection e with e1 e2
      subst e1 e2
      exact ⟨_, hm, fun Z₁ w hz e => by obtain rfl : w = v := e; exact b.mono hz hv⟩
    · exact ⟨b, hy, fun _ _ _ h => h⟩) h
theorem Ex.also {g : Gd} {r : Frm} {ρ : Loc} {Z : Zp} {O : Own} {t : Sem Flow} {F : Flow → Loc → Zp → Own → Prop} {x : String} {av av' : AV} (hm : (x, av) ∈ ρ) (hv : ∀ Z₁ v, av.P Z₁ v → av'.P Z₁ v) (h : Ex g r ((x, av') :: ρ) Z O t F) : Ex g r ρ Z O t F :=
  Ex.weak (fun y b hy => by
    rcases List.mem_cons.mp hy with e | hy
    · injection e with e1 e2
      subst e1 e2
      exact ⟨_, hm, fun Z₁ w hz e => hv Z₁ w e⟩
    · exact ⟨b, hy, fun _ _ _ h => h⟩) h
theorem updL_more {y : String} {av : AV} {ρ : Loc} (q : String × AV) : ∀ p ∈ updL y av ρ, p ∈ updL y av (q :: ρ) := fun p hp => by
  rcases List.mem_cons.mp hp with e | hp
  · subst e; exact .head _
  · exact .tail _ (List.mem_filter.mpr ⟨.tail _ (List.mem_filter.mp hp).1, (List.mem_filter.mp hp).2⟩)
theorem exs_one {g : Gd} {r : Frm} {ρ : Loc} {Z : Zp} {O : Own} {st : Stmt} {rest : List Stmt} {F₁ F : Flow → Loc → Zp → Own → Prop} (h : Exs g r ρ Z O [st] F₁) (hn : ∀ ρ' Z' O', Z.Le Z' → F₁ .next ρ' Z' O' → Exs g r ρ' Z' O' rest F)
    (ho : ∀ fl ρ' Z' O', fl ≠ .next → Z.Le Z' → F₁ fl ρ' Z' O' → F fl ρ' Z' O') : Exs g r ρ Z O (st :: rest) F :=
  exs_cons (fun B Z₁ s Q hz st hq => wpAny_of_execs_one (h B Z₁ s Q hz st hq)) hn ho
theorem cutLen (ns : List Int) (a b : Nat) : (pickNums ns (some (a : Int)) (some (b : Int)) none).length ≤ b - a := by
  rw [pn_run, clip_nat, clip_nat, List.length_take]; omega
theorem pn32 (ns : List Int) (i : Nat) (h : 32 * i < ns.length) : pickNums ns (some (32 * (i : Int))) (some (32 * (i : Int) + 32)) none = (ns.drop (32 * i)).take 32 := by
  rw [pn_run, show (32 * (i : Int)) = ((32 * i : Nat) : Int) from by push_cast; rfl, show (((32 * i : Nat) : Int) + 32) = ((32 * i + 32 : Nat) : Int) from by push_cast; rfl, clip_nat, clip_nat, Nat.min_eq_left (Nat.le_of_lt h), List.take_eq_take_iff, List.length_drop, ← Nat.sub_min_sub_right, Nat.min_assoc, Nat.min_self, Nat.add_sub_cancel_left]
theorem upTo_len (n : Nat) : (upTo n).length = n := by simp [upTo]
section
variable {g : Gd} (hK : g.K = KK g.w.params)
include hK
theorem law_ok {Z : Zp} {v : Value} {ns : List Int} (hs : (aS ns).P Z v) (h63 : ns.length ≤ 63) (A : Around) (s : Shared) (Q : Value → Shared → Prop) (hA : A.frames = some []) (hr : Room A 33) (ok : Ok g Z [] s)
    (hq : ∀ v s' Z' O', Step Z [] s s' Z' O' → v = .bool true → Q v s') : wpAny g.M A (call (.ref 330) [v]) Q No s := by
  refine wpAny_call (conDefA (P := fun _ _ w => w = .bool true) (k := 32) [(Str.ofString "script", v)] [("script", aS ns)] hK (by k_is) (by k_is) rfl (fun n x hx => ?_) (fun x av hx => ?_) (fun n => ?_) rfl rfl rfl ?_ A s _ hA hr ok hq)
  · obtain rfl := List.mem_singleton.mp hx
    exact .inl rfl
  · obtain e := List.mem_singleton.mp hx
    injection e with e1 e2
    subst e1 e2
    exact ⟨v, rfl, rfl, hs⟩
  · show ([Str.ofString "number"] : List Str).Nodup
    decide
  clear hA hr ok hq
  intro L A gs os ob hfr hob
  have hoc : (ob (L + 1)).data = .cell none := hob (Str.ofString "number", L + 1) (.head _)
  show Exs g _ _ _ [(L + 1, ob (L + 1))] _ _
  -- head
  refine exAssign (evSub (Ev.bin (by walk_at "ev") (by walk_at "ev") (binAddS h63 (by decide))) (by walk_at "ev") (subItemT (by decide) (by simp) (by decide))) ?_
  walk_at "upd"
  generalize (ns ++ [28]).getD (Int.toNat 0) 0 = hd
  -- size
  obtain ⟨sz, hsz⟩ := Int.eq_ofNat_of_zero_le (show 0 ≤ hd.fmod 36 + [0, 990, 1024, 32, 2030].getD (((hd.fdiv 36).fmod 5).toNat) (0 : Int) from by
    have := (size5 (hd.fdiv 36)).1
    have := Int.fmod_nonneg_of_pos hd (show (0 : Int) < 36 by decide)
    omega)
  have hsz1 : sz ≤ 2065 := by
    have := (size5 (hd.fdiv 36)).2
    have := Int.fmod_lt_of_pos hd (show (0 : Int) < 36 by decide)
    omega
  have hm1 := Int.fmod_nonneg_of_pos (hd.fdiv 36) (show (0 : Int) < 5 by decide)
  have hm2 := Int.fmod_lt_of_pos (hd.fdiv 36) (show (0 : Int) < 5 by decide)
  refine exAssign (castI (Ev.bin (by walk_at "ev") (evSub (evListI [0, 990, 1024, 32, 2030] (Evs.cons (by walk_at "ev") (Evs.cons (by walk_at "ev") (Evs.cons (by walk_at "ev") (Evs.cons (by walk_at "ev") (Evs.cons (by walk_at "ev") Evs.nil))))) (by decide)) (by walk_at "ev") (subItemT hm1 (by simpa using hm2) (by decide))) binAdd) hsz) ?_
  walk_at "upd"
  clear hm1 hm2
  -- early
  obtain ⟨ea, hea⟩ := Int.eq_ofNat_of_zero_le (show 0 ≤ max (0 : Int) ((sz : Int) - (hd.fdiv 180).fmod 40) from by omega)
  have hea1 : ea ≤ sz := by
    have := Int.fmod_nonneg_of_pos (hd.fdiv 180) (show (0 : Int) < 40 by decide)
    omega
  refine exAssign (castI (by walk_at "ev") hea) ?_
  walk_at "upd"
  clear hsz hea
  -- vector
  refine exAssign (P := aVb 2065 (upTo ea)) (Ev.mono (evPvecR hK (evRange hK (by k_is) (by walk_at "nm")) (by omega) (by walk_at "rm")) fun Z' v _ p => ⟨p.1, by rw [upTo_len]; omega⟩) ?_
  walk_at "upd"
  refine exForB (sz - ea) (fun i => aInt ((ea + i : Nat) : Int)) (fun i => [("vector", aVb 2065 (upTo (ea + i))), ("size", aInt (sz : Nat)), ("script", aS ns)]) (fun _ _ O' => O' = [(L + 1, ob (L + 1))])
    (evRange2 hK (by k_is) (by walk_at "nm") (by walk_at "nm")) (fun Z₁ v hz hv => hitRange2 hea1 (by omega) hv) (by walk_at "submem") (fun _ => by walk_at "submem") (fun Z₁ hz1 => rfl) (fun i Z' O' hz1 hi e => ?_) (fun Z' O' hz1 e => ?_)
  · subst e
    refine exAssign (P := aVb 2065 (upTo (ea + (i + 1)))) (Ev.mono (evAppendV hK (b := 2065) (by walk_at "nm") (by walk_at "nm") (by rw [upTo_len]; omega) (by decide) (by walk_at "rm")) fun Z' v _ p => by rw [upTo_succ] at p; exact p) ?_
    walk_at "upd"
    exact exs_nil fun Z₁ hz2 => ⟨by walk_at "submem", rfl⟩
  subst e
  rw [show ea + (sz - ea) = sz from by omega]
  refine Ex.elim (f := fun p : List Addr × Addr => aWc p.1 p.2 (upTo sz)) (fun Z₁ v hz h => aVb.toW h) fun pk => ?_
  obtain ⟨ls, t⟩ := pk
  -- made, plain, held
  refine exAssignO (opList (as := [aWc ls t (upTo sz)]) (Evs.cons (by walk_at "nm") Evs.nil) (show 1 ≤ sizeLine by decide)) (fun Z₁ O₁ w hz1 pk => ?_)
  obtain ⟨M, ms, e1, e2, dm⟩ := pk
  subst e1 e2
  walk_at "upd"
  refine exAssignO (opList (as := [aLb 5000 (upTo sz)]) (Evs.cons (Ev.mono (evListRange hK (by k_is) (evRange hK (by k_is) (by walk_at "nm")) (by omega)) fun Z' v _ p => ⟨p.1, by rw [upTo_len]; omega⟩) Evs.nil) (show 1 ≤ sizeLine by decide)) (fun Z₂ O₂ w hz2 pk => ?_)
  obtain ⟨P, ps, e1, e2, dp⟩ := pk
  subst e1 e2
  walk_at "upd"
  have hlv : ((sz : Nat) : Int) = (((upTo sz).length : Nat) : Int) := by rw [upTo_len]
  refine exAssignO (opList (as := [aRefs (leavesOf ls t (upTo sz).length)]) (Evs.cons (evLeaves hK (by walk_at "nm") (castI (by walk_at "nm") hlv) (by rw [upTo_len]; omega) (by walk_at "rm")) Evs.nil) (show 1 ≤ sizeLine by decide)) (fun Z₃ O₃ w hz3 pk => ?_)
  obtain ⟨H, hs', e1, e2, dh⟩ := pk
  subst e1 e2
  walk_at "upd"
  have hist : Hist C Z₃ [⟨ls, t, upTo sz⟩] ms ps hs' := ⟨(dm.mono hz2).mono hz3, dp.mono hz3, dh⟩
  refine Ex.perm (List.reverse_perm _).symm ?_
  show Exs g _ _ _ [(L + 1, ob (L + 1)), (M, listO ms 0), (P, listO ps 0), (H, listO hs' 0)] _ _
  refine Ex.less (ρ' := [("held", aVal (.ref H)), ("plain", aVal (.ref P)), ("made", aVal (.ref M)), ("size", aInt (sz : Nat)), ("script", aS ns)]) ?_ (by walk_at "submem")
  have hlo : ((upTo sz).length) ≤ 2065 := by rw [upTo_len]; exact hsz1
  generalize upTo sz = R0 at *
  -- deeds
  have hd1 : (pickNums ns (some 1) (some 16) none).length ≤ 15 := cutLen ns 1 16
  have hd2 : (pickNums ns (some 1) (some 4) none).length ≤ 3 := cutLen ns 1 4
  have hd3 : (pickNums ns (some 1) (some 2) none).length ≤ 1 := cutLen ns 1 2
  refine exAssign (P := aLb 18 (pickNums ns (some 1) (some 16) none ++ [13, 11, 26])) (Ev.mono (Ev.bin (evSub (by walk_at "nm") (by walk_at "ev") (subCutS 15 hd1)) (evListI [13, 11, 26] (Evs.cons (by walk_at "ev") (Evs.cons (by walk_at "ev") (Evs.cons (by walk_at "ev") Evs.nil))) (by decide)) (binAddLb (by decide))) fun Z' v _ p => ⟨p.1, p.2⟩) ?_
  walk_at "upd"
  refine exIfJ (b := decide ((500 : Int) < (sz : Nat))) [("deeds", aLb 18 (if (500 : Int) < (sz : Nat) then pickNums ns (some 1) (some 4) none ++ [13, 11, 26] else pickNums ns (some 1) (some 16) none ++ [13, 11, 26])), ("held", aVal (.ref H)), ("plain", aVal (.ref P)), ("made", aVal (.ref M)), ("size", aInt (sz : Nat)), ("script", aS ns)] (by walk_at "tst") ?_ (fun hb F' hr => ?_) (fun hb => ?_)
  rotate_left
  · rw [if_pos (of_decide_eq_true hb)] at hr
    refine exAssign (P := aLb 18 (pickNums ns (some 1) (some 4) none ++ [13, 11, 26])) (Ev.mono (Ev.bin (evSub (by walk_at "nm") (by walk_at "ev") (subCutS 3 hd2)) (evListI [13, 11, 26] (Evs.cons (by walk_at "ev") (Evs.cons (by walk_at "ev") (Evs.cons (by walk_at "ev") Evs.nil))) (by decide)) (binAddLb (by decide))) fun Z' v _ p => ⟨p.1, Nat.le_trans p.2 (by decide)⟩) ?_
    walk_at "upd"
    exact hr
  · rw [if_neg (of_decide_eq_false hb)]
    walk_at "submem"
  have hds : (if (500 : Int) < (sz : Nat) then pickNums ns (some 1) (some 4) none ++ [13, 11, 26] else pickNums ns (some 1) (some 16) none ++ [13, 11, 26]).length ≤ 18 := by
    split <;> rw [List.length_append] <;> simp <;> omega
  generalize (if (500 : Int) < (sz : Nat) then pickNums ns (some 1) (some 4) none ++ [13, 11, 26] else pickNums ns (some 1) (some 16) none ++ [13, 11, 26]) = d0 at *
  refine exIfJ (b := decide ((2000 : Int) < (sz : Nat))) [("deeds", aLb 18 (if (2000 : Int) < (sz : Nat) then pickNums ns (some 1) (some 2) none ++ [26] else d0)), ("held", aVal (.ref H)), ("plain", aVal (.ref P)), ("made", aVal (.ref M))] (by walk_at "tst") ?_ (fun hb F' hr => ?_) (fun hb => ?_)
  rotate_left
  · rw [if_pos (of_decide_eq_true hb)] at hr
    refine exAssign (P := aLb 18 (pickNums ns (some 1) (some 2) none ++ [26])) (Ev.mono (Ev.bin (evSub (by walk_at "nm") (by walk_at "ev") (subCutS 1 hd3)) (evListI [26] (Evs.cons (by walk_at "ev") Evs.nil) (by decide)) (binAddLb (by decide))) fun Z' v _ p => ⟨p.1, Nat.le_trans p.2 (by decide)⟩) ?_
    walk_at "upd"
    exact Ex.less hr (by walk_at "submem")
  · rw [if_neg (of_decide_eq_false hb)]
    walk_at "submem"
  have hds2 : (if (2000 : Int) < (sz : Nat) then pickNums ns (some 1) (some 2) none ++ [26] else d0).length ≤ 18 := by
    split
    · rw [List.length_append]; simp; omega
    · exact hds
  generalize (if (2000 : Int) < (sz : Nat) then pickNums ns (some 1) (some 2) none ++ [26] else d0) = ds at *
  clear hd1 hd2 hd3 hds hlv
  -- the deeds
  refine exForC (c := L + 1) (x := "number") ds.length (fun i => aInt (ds.getD i 0)) (fun i ρ' Z' O' => ∃ (W : List Ver) (ms ps hs : List Value) (n1 n2 n3 : Nat), (∀ p ∈ [("held", aVal (.ref H)), ("plain", aVal (.ref P)), ("made", aVal (.ref M))], p ∈ ρ') ∧ O' = [(M, listO ms n1), (P, listO ps n2), (H, listO hs n3)] ∧ Hist C Z' W ms ps hs ∧ 1 ≤ W.length ∧ W.length ≤ i + 1 ∧ ∀ w ∈ W, w.ns.length ≤ 2065 + 40 * i)
    (by walk_at "nm") (fun Z₁ v hz hv => hitLb hv) rfl hoc (fun Z₁ hz => ?h0) (fun i ρ' Z' O' o' v hz hi pk ho' hv => ?step) (fun ρ' Z' O' o' v' hz pk ho' => ?done)
  case h0 => exact ⟨[⟨ls, t, R0⟩], ms, ps, hs', 0, 0, 0, by walk_at "submem", rfl, hist.le hz, Nat.le_refl _, Nat.le_refl _, fun w hw => by
    obtain rfl := List.mem_singleton.mp hw
    exact hlo⟩
  case step =>
    clear hist hlo hsz1 hea1
    obtain ⟨W, ms, ps, hs, n1, n2, n3, hb, e, hist, h1, h2, h3⟩ := pk
    subst e
    obtain ⟨tk, rfl⟩ := hv
    refine Ex.less ?_ hb
    have hi18 : i < 18 := by omega
    generalize ds.getD i 0 = x at *
    have lM := hist.lm
    have hmW : ((ms.length : Nat) : Int) = ((W.length : Nat) : Int) := by rw [lM]
    have hms : ms.length ≤ sizeLine := by
      have : 19 ≤ sizeLine := by decide
      omega
    have hWpos : (0 : Int) < ((W.length : Nat) : Int) := by omega
    have hW30 : ((W.length : Nat) : Int) < 2 ^ 30 := by omega
    refine exAssign (P := aInt (x.fmod 6)) (by walk_at "ev") ?_
    walk_at "upd"
    obtain ⟨wh, hwh⟩ := Int.eq_ofNat_of_zero_le (show 0 ≤ (x.fdiv 6).fmod (W.length : Nat) from Int.fmod_nonneg_of_pos _ hWpos)
    have hwl : wh < W.length := by have := Int.fmod_lt_of_pos (x.fdiv 6) hWpos; omega
    refine exAssign (castI (by walk_at "ev") hwh) ?_
    walk_at "upd"
    refine exAssign (P := aInt ((x.fdiv 6).fdiv (W.length : Nat))) (by walk_at "ev") ?_
    walk_at "upd"
    generalize (x.fdiv 6).fdiv ((W.length : Nat) : Int) = mo at *
    obtain ⟨va, vp, vh, e1, e2, e3, f1, f2, f3⟩ := hist.at (i := wh) (w := W[wh]) (List.getElem?_eq_getElem hwl)
    have hwn := h3 W[wh] (List.getElem_mem hwl)
    generalize W[wh] = w at *
    have hwb : wh ≤ 100000 := by omega
    refine exAssign (P := aLb 5000 w.ns) (evIs (evItemO (i := wh) (by walk_at "nm") (by walk_at "nm") (by walk_at "mem") e2 hwb) f2) ?_
    walk_at "upd"
    refine exAssign (P := aInt w.ns.length) (by walk_at "ev") ?_
    walk_at "upd"
    refine exs_one (F₁ := fun fl ρ' Z' O' => O' = [(L + 1, o'), (M, listO ms n1), (P, listO ps n2), (H, listO hs n3)] ∧ (∀ p ∈ [("held", aVal (.ref H)), ("plain", aVal (.ref P)), ("made", aVal (.ref M))], p ∈ ρ') ∧ (fl = .cont ∨ (fl = .next ∧ ∃ ls' t' ys tch, Kin w.ls w.t ls' t' w.ns.length tch ∧ w.ns.length ≤ ys.length ∧ ys.length ≤ w.ns.length + 40 ∧
      ∀ p ∈ [("new", aWc ls' t' ys), ("young", aLb 5000 ys), ("touched", aInt tch), ("which", aInt (wh : Nat))], p ∈ ρ'))) ?kinds (fun ρ₁ Z₁ O₁ hz1 p => ?behind) (fun fl ρ₁ Z₁ O₁ hne hz1 p => ?left)
    case left =>
      obtain ⟨rfl, hb, rfl | ⟨h, _⟩⟩ := p
      · exact ⟨o', _, _, rfl, ho', W, ms, ps, hs, n1, n2, n3, hb, rfl, hist.le hz1, h1, by omega, fun w hw => by have := h3 w hw; omega⟩
      · exact absurd h hne
    case behind =>
      obtain ⟨rfl, hb, h | ⟨_, ls', t', ys, tch, hk, hy1, hy2, hρ⟩⟩ := p
      · cases h
      have hist := hist.le hz1
      have f1 := (aW C w.ls w.t w.ns).mono hz1 f1
      have f3 := (aRefs (leavesOf w.ls w.t w.ns.length)).mono hz1 f3
      have hys : ys.length ≤ 5000 := by omega
      refine Ex.less (ρ' := [("new", aWc ls' t' ys), ("young", aLb 5000 ys), ("touched", aInt tch), ("which", aInt (wh : Nat)), ("held", aVal (.ref H)), ("plain", aVal (.ref P)), ("made", aVal (.ref M))]) ?_ (fun p hp => ?_)
      rotate_left
      · rcases List.mem_append.mp (show p ∈ [("new", aWc ls' t' ys), ("young", aLb 5000 ys), ("touched", aInt tch), ("which", aInt (wh : Nat))] ++ [("held", aVal (.ref H)), ("plain", aVal (.ref P)), ("made", aVal (.ref M))] from hp) with h | h
        · exact hρ p h
        · exact hb p h
      refine Ex.also (x := "new") (av := aWc ls' t' ys) (av' := aVb 5000 ys) (by walk_at "mem") (fun Z₁ v h => aWc.toVb h hys) ?_
      refine exIf (b := (((ys.length : Nat) : Int) != ((ys.length : Nat) : Int))) (by walk_at "tst") (fun h => ?_) (fun _ => ?_)
      · simp at h
      refine exAssign (P := aRefs (leavesOf ls' t' ys.length)) (evLeaves hK (by walk_at "nm") (by walk_at "ev") hys (by walk_at "rm")) ?_
      walk_at "upd"
      refine exForR ((w.ns.length + 31) / 32) (fun _ => [("fresh", aRefs (leavesOf ls' t' ys.length)), ("new", aWc ls' t' ys), ("young", aLb 5000 ys), ("touched", aInt tch), ("which", aInt (wh : Nat)), ("held", aVal (.ref H)), ("plain", aVal (.ref P)), ("made", aVal (.ref M))]) (fun _ _ O' => O' = [(L + 1, o'), (M, listO ms n1), (P, listO ps n2), (H, listO hs n3)]) (by omega)
        (evRange hK (by k_is) (castI (evLenR hK (by k_is) (evIs (evItemO (i := wh) (by walk_at "nm") (by walk_at "nm") (by walk_at "mem") e3 hwb) f3) (by rw [leavesOf_len]; exact Nat.le_trans (show (w.ns.length + 31) / 32 ≤ 5000 by omega) (by decide))) (by rw [leavesOf_len]))) (by walk_at "submem") (fun _ => by walk_at "submem") (fun Z₁ hz1 => rfl) (fun j Z₉ O' hz1 hj e => ?_) (fun Z₉ O' hz9 e => ?_)
      · subst e
        have hj2 : 32 * j < w.ns.length := by omega
        refine exIf (b := (((j : Nat) : Int) != tch) && (false && true)) (Tst.all (TstAll.and_cons (Tst.cmp (by walk_at "nm") (by walk_at "nm") cmpNe) fun hne => TstAll.and_cons
          (Tst.cmp (castA (evSub (by walk_at "nm") (by walk_at "nm") (subItemR (by rw [leavesOf_len]; omega) (by omega))) ((leavesOf_get ls' t' (by omega)).trans (hk j hj2 (by simpa using hne))))
            (castA (evSub (evIs (evItemO (i := wh) (by walk_at "nm") (by walk_at "nm") (by walk_at "mem") e3 hwb) ((aRefs (leavesOf w.ls w.t w.ns.length)).mono hz1 f3)) (by walk_at "nm") (subItemR (by rw [leavesOf_len]; exact hj) (by omega))) (leavesOf_get w.ls w.t hj2)) cmpSame) fun _ => TstAll.and_nil)) (fun h => ?_) (fun _ => ?_)
        · simp at h
        exact exs_nil fun Z₁ hz2 => ⟨by walk_at "submem", rfl⟩
      subst e
      have hist := hist.le hz9
      clear hz9 f1 f3
      have hsl : ∀ n : Nat, n ≤ 20 → n ≤ sizeLine := fun n h => Nat.le_trans h (by decide)
      have lP := hist.lp
      have lH := hist.lh
      refine Ex.perm (O' := [(M, listO ms n1), (L + 1, o'), (P, listO ps n2), (H, listO hs n3)]) (List.Perm.swap _ _ _) ?_
      refine exAppend (P := aWc ls' t' ys) (by walk_at "nm") (by walk_at "nm") (hsl _ (by omega)) (fun Za v1 k1 hza p1 => ?_)
      refine Ex.perm (O' := [(P, listO ps n2), (M, listO (ms ++ [v1]) k1), (L + 1, o'), (H, listO hs n3)]) (List.perm_middle (l₁ := [_, _])) ?_
      refine exAppend (P := aLb 5000 ys) (by walk_at "nm") (by walk_at "nm") (hsl _ (by omega)) (fun Zb v2 k2 hzb p2 => ?_)
      refine Ex.perm (O' := [(H, listO hs n3), (P, listO (ps ++ [v2]) k2), (M, listO (ms ++ [v1]) k1), (L + 1, o')]) (List.perm_middle (l₁ := [_, _, _])) ?_
      refine exAppend (P := aRefs (leavesOf ls' t' ys.length)) (by walk_at "nm") (by walk_at "nm") (hsl _ (by omega)) (fun Zc v3 k3 hzc p3 => ?_)
      refine Ex.perm (List.reverse_perm _).symm ?_
      refine exs_nil fun Zd hzd => ⟨o', _, _, rfl, ho', W ++ [⟨ls', t', ys⟩], ms ++ [v1], ps ++ [v2], hs ++ [v3], k1, k2, k3, by walk_at "submem", rfl, ?_, ?_, ?_, ?_⟩
      · exact Hist.snoc (w := ⟨ls', t', ys⟩) (hist.le (hza.trans (hzb.trans (hzc.trans hzd)))) ((aWc ls' t' ys).mono (hzb.trans (hzc.trans hzd)) p1) ((aLb 5000 ys).mono (hzc.trans hzd) p2) ((aRefs _).mono hzd p3)
      · rw [List.length_append]; omega
      · rw [List.length_append, List.length_singleton]; omega
      · intro w' hw'
        rcases List.mem_append.mp hw' with h | h
        · have := h3 w' h; omega
        · obtain rfl := List.mem_singleton.mp h
          show ys.length ≤ _
          omega
    case kinds =>
      have hn28 : w.ns.length ≤ 2800 := by omega
      have hcap : 5000 ≤ capV := by decide
      have hd32 : ((w.ns.length : Nat) : Int).fdiv 32 = ((w.ns.length / 32 : Nat) : Int) := by rw [Int.fdiv_eq_ediv_of_nonneg _ (by decide)]; rfl
      refine exIf (by walk_at "tst") (fun hk2 => ?setting) (fun hk2 => ?more)
      case setting =>
        have hpa := Int.fmod_nonneg_of_pos mo (show (0 : Int) < 2 * (w.ns.length : Nat) + 3 by omega)
        have hpb := Int.fmod_lt_of_pos mo (show (0 : Int) < 2 * (w.ns.length : Nat) + 3 by omega)
        have hqp : (0 : Int) < ((w.ns.length : Nat) : Int).fdiv 32 + 2 := by rw [hd32]; omega
        have hqa := Int.fmod_nonneg_of_pos (mo.fdiv 2) hqp
        have hqb := Int.fmod_lt_of_pos (mo.fdiv 2) hqp
        have hra := Int.fmod_nonneg_of_pos mo (show (0 : Int) < 2 by decide)
        have hrb := Int.fmod_lt_of_pos mo (show (0 : Int) < 2 by decide)
        refine exAssign (P := aInt (mo.fmod (2 * (w.ns.length : Nat) + 3) - (w.ns.length : Nat) - 1)) (by walk_at "ev") ?_
        walk_at "upd"
        refine exIfJ (b := x.fmod 6 == 1) [("place", aInt (if x.fmod 6 = 1 then 32 * ((mo.fdiv 2).fmod (((w.ns.length : Nat) : Int).fdiv 32 + 2)) - mo.fmod 2 else mo.fmod (2 * (w.ns.length : Nat) + 3) - (w.ns.length : Nat) - 1)), ("many", aInt w.ns.length), ("row", aLb 5000 w.ns), ("which", aInt (wh : Nat)), ("held", aVal (.ref H)), ("plain", aVal (.ref P)), ("made", aVal (.ref M))] (by walk_at "tst") ?_ (fun hb F' hr => ?_) (fun hb => ?_)
        rotate_left
        · rw [if_pos (by simpa using hb)] at hr
          refine exAssign (P := aInt (32 * ((mo.fdiv 2).fmod (((w.ns.length : Nat) : Int).fdiv 32 + 2)) - mo.fmod 2)) (by walk_at "ev") ?_
          walk_at "upd"
          exact Ex.less hr (by walk_at "submem")
        · rw [if_neg (by simpa using hb)]
          walk_at "submem"
        have hp1 : -6000 ≤ (if x.fmod 6 = 1 then 32 * ((mo.fdiv 2).fmod (((w.ns.length : Nat) : Int).fdiv 32 + 2)) - mo.fmod 2 else mo.fmod (2 * (w.ns.length : Nat) + 3) - (w.ns.length : Nat) - 1) := by split <;> omega
        have hp2 : (if x.fmod 6 = 1 then 32 * ((mo.fdiv 2).fmod (((w.ns.length : Nat) : Int).fdiv 32 + 2)) - mo.fmod 2 else mo.fmod (2 * (w.ns.length : Nat) + 3) - (w.ns.length : Nat) - 1) ≤ 6000 := by rw [hd32] at hqb ⊢; split <;> omega
        generalize (if x.fmod 6 = 1 then 32 * ((mo.fdiv 2).fmod (((w.ns.length : Nat) : Int).fdiv 32 + 2)) - mo.fmod 2 else mo.fmod (2 * (w.ns.length : Nat) + 3) - (w.ns.length : Nat) - 1) = p at *
        clear hpa hpb hqp hqa hqb hra hrb
        by_cases hin : -((w.ns.length : Nat) : Int) ≤ p ∧ p ≤ ((w.ns.length : Nat) : Int)
        · obtain ⟨q, hq1, hq2, hq3⟩ : ∃ q : Nat, q ≤ w.ns.length ∧ (p = q ∨ (p = q - ((w.ns.length : Nat) : Int) ∧ q < w.ns.length)) ∧ (if p < 0 then p + ((w.ns.length : Nat) : Int) else p) = (q : Int) := by
            by_cases h0 : p < 0
            · exact ⟨(p + (w.ns.length : Nat)).toNat, by omega, .inr ⟨by omega, by omega⟩, by rw [if_pos h0]; omega⟩
            · exact ⟨p.toNat, by omega, .inl (by omega), by rw [if_neg h0]; omega⟩
          refine exTryOk (F₁ := fun fl ρ' Z' O' => fl = .next ∧ O' = [(L + 1, o'), (M, listO ms n1), (P, listO ps n2), (H, listO hs n3)] ∧ ∀ p' ∈ [("new", aNew w.ls w.t w.ns.length (q / 32 : Nat) (w.ns.take q ++ [x] ++ w.ns.drop (q + 1))), ("place", aInt p), ("many", aInt w.ns.length), ("row", aLb 5000 w.ns), ("which", aInt (wh : Nat)), ("held", aVal (.ref H)), ("plain", aVal (.ref P)), ("made", aVal (.ref M))], p' ∈ ρ')
            (exAssign (P := aNew w.ls w.t w.ns.length (q / 32 : Nat) (w.ns.take q ++ [x] ++ w.ns.drop (q + 1))) ?hnew ?hend) (fun fl ρ' Z' O' p => p.1) (fun ρ₂ Z₂ O₂ hz2 pk => ?_)
          case hnew =>
            rcases setCut (x := x) hq1 with ⟨hlt, e⟩ | ⟨he, e⟩
            · rw [e]
              exact evSetW hK (j := q) (evW (evItemO (i := wh) (by walk_at "nm") (by walk_at "nm") (by walk_at "mem") e1 hwb) f1) (by walk_at "nm") (by walk_at "nm") hlt (hq2.imp id And.left) (by walk_at "rm")
            · rw [e, he]
              exact evSetEndW hK (evW (evItemO (i := wh) (by walk_at "nm") (by walk_at "nm") (by walk_at "mem") e1 hwb) f1) (castI (by walk_at "nm") (by omega)) (by walk_at "nm") (by omega) (by walk_at "rm")
          case hend =>
            walk_at "upd"
            exact exs_nil fun Z₁ hz => ⟨rfl, rfl, by walk_at "submem"⟩
          obtain ⟨_, e, hρ2⟩ := pk
          subst e
          refine Ex.less ?_ hρ2
          refine Ex.elim (ι := { p : List Addr × Addr // Kin w.ls w.t p.1 p.2 w.ns.length (q / 32 : Nat) }) (f := fun p => aWc p.1.1 p.1.2 (w.ns.take q ++ [x] ++ w.ns.drop (q + 1))) (fun Z₁ v hz ⟨ls', t', h, hk⟩ => ⟨⟨(ls', t'), hk⟩, h⟩) fun pk => ?_
          obtain ⟨⟨ls', t'⟩, hk⟩ := pk
          refine exIf (b := !(decide (-((w.ns.length : Nat) : Int) ≤ p) && decide (p ≤ ((w.ns.length : Nat) : Int)))) (Tst.not (Tst.chain2 (by walk_at "ev") (by walk_at "nm") (by walk_at "nm") cmpLe cmpLe)) (fun h => ?_) (fun _ => ?_)
          · rw [decide_eq_true hin.1, decide_eq_true hin.2] at h; simp at h
          refine exAssign (P := aInt (q : Nat)) (castI (Ev.ite (b := decide (p < 0)) (P := aInt (if p < 0 then p + ((w.ns.length : Nat) : Int) else p)) (by walk_at "tst") (fun h => castI (by walk_at "ev") (by rw [if_pos (of_decide_eq_true h)])) (fun h => castI (by walk_at "nm") (by rw [if_neg (of_decide_eq_false h)]))) hq3) ?_
          walk_at "upd"
          have c1 : pickNums w.ns none (some (q : Int)) none = w.ns.take q := by rw [pn_to, clip_nat, Nat.min_eq_left (by omega)]
          have c2 : pickNums w.ns (some ((q : Int) + 1)) none none = w.ns.drop (q + 1) := by
            rw [pn_from, show ((q : Int) + 1) = ((q + 1 : Nat) : Int) from by push_cast; rfl, clip_nat]
            rcases Nat.lt_or_ge q w.ns.length with h | h
            · rw [Nat.min_eq_left (by omega)]
            · rw [Nat.min_eq_right (by omega), List.drop_eq_nil_of_le (Nat.le_refl _), List.drop_eq_nil_of_le (by omega)]
          have hyl : (w.ns.take q ++ [x] ++ w.ns.drop (q + 1)).length ≤ w.ns.length + 1 ∧ w.ns.length ≤ (w.ns.take q ++ [x] ++ w.ns.drop (q + 1)).length := by
            simp only [List.length_append, List.length_take, List.length_drop, List.length_singleton]; omega
          refine exAssign (P := aLb 5000 (w.ns.take q ++ [x] ++ w.ns.drop (q + 1))) (Ev.mono (P := aLb (5000 + 1 + 5000) (pickNums w.ns none (some (q : Int)) none ++ [x] ++ pickNums w.ns (some ((q : Int) + 1)) none none)) (by walk_at "ev") fun Z' v _ p => by rw [c1, c2] at p; exact ⟨p.1, by omega⟩) ?_
          walk_at "upd"
          refine exAssign (P := aInt ((q / 32 : Nat) : Int)) (castI (by walk_at "ev") (by rw [Int.fdiv_eq_ediv_of_nonneg _ (by decide)]; rfl)) ?_
          walk_at "upd"
          exact exs_nil fun Z₁ hz => ⟨rfl, by walk_at "submem", .inr ⟨rfl, ls', t', _, _, hk, hyl.2, by omega, by walk_at "submem"⟩⟩
        · exact exTryRef hK (X := "IndexError") (by k_is) bt_IndexError (opSetX hK (evW (evItemO (i := wh) (by walk_at "nm") (by walk_at "nm") (by walk_at "mem") e1 hwb) f1) (by walk_at "nm") (by walk_at "nm") (by omega) (by omega) (by omega) (by omega) rfl) hfr rfl ix_base ix_meta ix_self
            (suiteCont (by walk_at "mem") (by walk_at "mem") hin rfl rfl) (fun Z' hz => ⟨rfl, by walk_at "submem", .inl rfl⟩)
      case more =>
        refine exs_one (F₁ := fun fl ρ' Z' O' => fl = .next ∧ O' = [(L + 1, o'), (M, listO ms n1), (P, listO ps n2), (H, listO hs n3)] ∧ ∃ ex : List Int, ex.length ≤ 40 ∧ ∀ p ∈ [("new", aNew w.ls w.t w.ns.length (if ex ≠ [] then ((w.ns.length / 32 : Nat) : Int) else -1) (w.ns ++ ex)), ("extra", aLb 40 ex), ("many", aInt w.ns.length), ("row", aLb 5000 w.ns), ("which", aInt (wh : Nat)), ("held", aVal (.ref H)), ("plain", aVal (.ref P)), ("made", aVal (.ref M))], p ∈ ρ') ?giving (fun ρ₂ Z₂ O₂ hz2 pk => ?given) (fun fl ρ₂ Z₂ O₂ hne hz2 p => absurd p.1 hne)
        case given =>
          obtain ⟨_, e, ex, hex, hρ2⟩ := pk
          subst e
          refine Ex.less ?_ hρ2
          refine Ex.elim (ι := { p : List Addr × Addr // Kin w.ls w.t p.1 p.2 w.ns.length (if ex ≠ [] then ((w.ns.length / 32 : Nat) : Int) else -1) }) (f := fun p => aWc p.1.1 p.1.2 (w.ns ++ ex)) (fun Z₁ v hz ⟨ls', t', h, hk⟩ => ⟨⟨(ls', t'), hk⟩, h⟩) fun pk => ?_
          obtain ⟨⟨ls', t'⟩, hk⟩ := pk
          have hyl : (w.ns ++ ex).length = w.ns.length + ex.length := List.length_append
          refine exAssign (P := aLb 5000 (w.ns ++ ex)) (Ev.mono (P := aLb (5000 + 40) (w.ns ++ ex)) (by walk_at "ev") fun Z' v _ p => ⟨p.1, by omega⟩) ?_
          walk_at "upd"
          refine exAssign (P := aInt (if ex ≠ [] then ((w.ns.length / 32 : Nat) : Int) else -1)) (Ev.ite (b := cmpL .NotEq ex []) (Tst.cmp (by walk_at "nm") evNilI (cmpLLb rfl)) (fun h => castI (by walk_at "ev") (by rw [cmpL_ne_nil] at h; rw [if_pos (of_decide_eq_true h)]; exact hd32)) (fun h => castI (by walk_at "ev") (by rw [cmpL_ne_nil] at h; rw [if_neg (of_decide_eq_false h)]))) ?_
          walk_at "upd"
          exact exs_nil fun Z₁ hz => ⟨rfl, by walk_at "submem", .inr ⟨rfl, ls', t', w.ns ++ ex, (if ex ≠ [] then ((w.ns.length / 32 : Nat) : Int) else -1), hk, by omega, by omega, by walk_at "submem"⟩⟩
        case giving =>
          refine exIf (by walk_at "tst") (fun h => ?one) (fun h => exIf (by walk_at "tst") (fun h => ?up) (fun h => exIf (by walk_at "tst") (fun h => ?cut) (fun h => ?down)))
          case one =>
            refine exAssign (P := aLb 40 [x]) (Ev.mono (P := aLb 1 [x]) (by walk_at "ev") fun Z' v _ p => ⟨p.1, by simp⟩) ?_
            walk_at "upd"
            refine exAssign (P := aNew w.ls w.t w.ns.length (if [x] ≠ [] then ((w.ns.length / 32 : Nat) : Int) else -1) (w.ns ++ [x])) (by rw [if_pos (by simp)]; exact evAppendW hK (evW (evItemO (i := wh) (by walk_at "nm") (by walk_at "nm") (by walk_at "mem") e1 hwb) f1) (by walk_at "nm") (by omega) (by walk_at "rm")) ?_
            walk_at "upd"
            exact exs_nil fun Z₁ hz => ⟨rfl, rfl, [x], by simp, by walk_at "submem"⟩
          case up =>
            obtain ⟨k, hk⟩ := Int.eq_ofNat_of_zero_le (show 0 ≤ mo.fmod 40 from Int.fmod_nonneg_of_pos _ (by decide))
            have hk40 : k < 40 := by have := Int.fmod_lt_of_pos mo (show (0 : Int) < 40 by decide); omega
            refine exLend (c := L + 1) (oc := o') (y := "extra") (av := aLb 40 ((List.range k).map fun j : Nat => x + (j : Int))) (by (repeat (refine List.forall_mem_cons.mpr ⟨rfl, ?_⟩)); exact List.forall_mem_nil _) (fun Z' v hc h => aLb_unset ho' hc h) rfl (fun ρ2 Z1 hsub hz hc => ?_) ?_
            · refine Ex.cellIn (x := "number") (v := .int x tk) (av := aInt x) rfl rfl hc ho' ⟨tk, rfl⟩ ?_
              refine exAssignCompI k 40 (fun j : Nat => x + (j : Int)) (cl := [(Str.ofString "number", L + 1)]) [("number", aInt x)] (hk ▸ evRange hK (by k_is) (Ev.bin (Ev.name (x := "more") (.tail _ (hsub _ (by walk_at "mem")))) Ev.int (binMod (by decide)))) (by omega) (by decide) (fun p hp => ?_) (fun j Cc Zs hj hz => by walk_at "ev") (exs_nil fun Z₁ hz => ⟨rfl, rfl, updL_more _⟩) rfl rfl (by decide) rfl (by decide) rfl rfl (fun _ => rfl)
              obtain rfl := List.mem_singleton.mp hp
              exact ⟨.head _, rfl, rfl, rfl⟩
            walk_at "upd"
            have hel : ((List.range k).map fun j : Nat => x + (j : Int)).length ≤ 40 := by rw [List.length_map, List.length_range]; omega
            generalize ((List.range k).map fun j : Nat => x + (j : Int)) = ex at *
            refine exAssign (P := aNew w.ls w.t w.ns.length (if ex ≠ [] then ((w.ns.length / 32 : Nat) : Int) else -1) (w.ns ++ ex)) (evExtendW hK (evW (evItemO (i := wh) (by walk_at "nm") (by walk_at "nm") (by walk_at "mem") e1 hwb) f1) (giLI (by walk_at "nm")) (by omega) (by walk_at "rm")) ?_
            walk_at "upd"
            exact exs_nil fun Z₁ hz => ⟨rfl, rfl, ex, hel, by walk_at "submem"⟩
          case cut =>
            obtain ⟨gv, hgv⟩ := Int.eq_ofNat_of_zero_le (show 0 ≤ mo.fmod (W.length : Nat) from Int.fmod_nonneg_of_pos _ hWpos)
            have hgl : gv < W.length := by have := Int.fmod_lt_of_pos mo hWpos; omega
            refine exAssign (castI (by walk_at "ev") hgv) ?_
            walk_at "upd"
            obtain ⟨va2, vp2, vh2, e4, e5, e6, f4, f5, f6⟩ := hist.at (i := gv) (w := W[gv]) (List.getElem?_eq_getElem hgl)
            have hwn2 := h3 W[gv] (List.getElem_mem hgl)
            generalize W[gv] = w2 at *
            have hel := cut40 w2.ns
            refine exAssign (P := aLb 40 (pickNums w2.ns (some (-40)) none none)) (Ev.mono (evSub (evIs (evItemO (i := gv) (by walk_at "nm") (by walk_at "nm") (by walk_at "mem") e5 (by omega)) f5) (by walk_at "ev") (subCutL0 (by walk_at "nz") (by decide))) fun Z' v _ p => ⟨p.1, hel⟩) ?_
            walk_at "upd"
            refine exAssign (P := aNew w.ls w.t w.ns.length (if (pickNums w2.ns (some (-40)) none none) ≠ [] then ((w.ns.length / 32 : Nat) : Int) else -1) (w.ns ++ (pickNums w2.ns (some (-40)) none none))) (evExtendW hK (evW (evItemO (i := wh) (by walk_at "nm") (by walk_at "nm") (by walk_at "mem") e1 hwb) f1) (giVI (b := 5000) (evSub (evIs (evItemO (i := gv) (by walk_at "nm") (by walk_at "nm") (by walk_at "mem") e4 (by omega)) (aWc.toVb f4 (by omega))) (by walk_at "ev") (subCutV0 hK (by walk_at "nz") (by walk_at "rm")))) (by omega) (by walk_at "rm")) ?_
            walk_at "upd"
            exact exs_nil fun Z₁ hz => ⟨rfl, rfl, _, hel, by walk_at "submem"⟩
          case down =>
            obtain ⟨k, hk⟩ := Int.eq_ofNat_of_zero_le (show 0 ≤ 31 - ((w.ns.length : Nat) : Int).fmod 32 + mo.fmod 3 from by
              have := Int.fmod_lt_of_pos ((w.ns.length : Nat) : Int) (show (0 : Int) < 32 by decide)
              have := Int.fmod_nonneg_of_pos mo (show (0 : Int) < 3 by decide)
              omega)
            have hk40 : k < 40 := by
              have := Int.fmod_nonneg_of_pos ((w.ns.length : Nat) : Int) (show (0 : Int) < 32 by decide)
              have := Int.fmod_lt_of_pos mo (show (0 : Int) < 3 by decide)
              omega
            refine exLend (c := L + 1) (oc := o') (y := "extra") (av := aLb 40 ((List.range k).map fun j : Nat => x - (j : Int))) (by (repeat (refine List.forall_mem_cons.mpr ⟨rfl, ?_⟩)); exact List.forall_mem_nil _) (fun Z' v hc h => aLb_unset ho' hc h) rfl (fun ρ2 Z1 hsub hz hc => ?_) ?_
            · refine Ex.cellIn (x := "number") (v := .int x tk) (av := aInt x) rfl rfl hc ho' ⟨tk, rfl⟩ ?_
              refine exAssignCompI k 40 (fun j : Nat => x - (j : Int)) (cl := [(Str.ofString "number", L + 1)]) [("number", aInt x)] (hk ▸ evRange hK (by k_is) (Ev.bin (Ev.bin Ev.int (Ev.bin (Ev.name (x := "many") (.tail _ (hsub _ (by walk_at "mem")))) Ev.int (binMod (by decide))) binSub) (Ev.bin (Ev.name (x := "more") (.tail _ (hsub _ (by walk_at "mem")))) Ev.int (binMod (by decide))) binAdd)) (by omega) (by decide) (fun p hp => ?_) (fun j Cc Zs hj hz => by walk_at "ev") (exs_nil fun Z₁ hz => ⟨rfl, rfl, updL_more _⟩) rfl rfl (by decide) rfl (by decide) rfl rfl (fun _ => rfl)
              obtain rfl := List.mem_singleton.mp hp
              exact ⟨.head _, rfl, rfl, rfl⟩
            walk_at "upd"
            have hel : ((List.range k).map fun j : Nat => x - (j : Int)).length ≤ 40 := by rw [List.length_map, List.length_range]; omega
            generalize ((List.range k).map fun j : Nat => x - (j : Int)) = ex at *
            refine exAssign (P := aNew w.ls w.t w.ns.length (if ex ≠ [] then ((w.ns.length / 32 : Nat) : Int) else -1) (w.ns ++ ex)) (evExtendW hK (evW (evItemO (i := wh) (by walk_at "nm") (by walk_at "nm") (by walk_at "mem") e1 hwb) f1) (giTI (b := 40) (by walk_at "ev")) (by omega) (by walk_at "rm")) ?_
            walk_at "upd"
            exact exs_nil fun Z₁ hz => ⟨rfl, rfl, ex, hel, by walk_at "submem"⟩
  case done =>
    clear hist hlo hsz1 hea1
    obtain ⟨W, ms, ps, hs, n1, n2, n3, hb, e, hist, h1, h2, h3⟩ := pk
    subst e
    refine Ex.less ?_ hb
    refine Ex.frz fun Z₄ hz4 _ => Ex.frz fun Z₅ hz5 hM => Ex.frz fun Z₆ hz6 hP => Ex.frz fun Z₇ hz7 hH => ?_
    have hM := hz7 _ _ (hz6 _ _ hM)
    have hP := hz7 _ _ hP
    have hist := hist.le (hz4.trans (hz5.trans (hz6.trans hz7)))
    have hsmall : ∀ w ∈ W, w.ns.length ≤ 5000 := fun w hw => by have := h3 w hw; omega
    clear h1 h2 h3 hb hz4 hz5 hz6 hz7
    refine exForZip3 W.length hM hP hH hist.lm hist.lp hist.lh (opCall (f := .type "zip") (as := [aVal (.ref M), aVal (.ref P), aVal (.ref H)]) (Ev.boot hK (by k_is) bt_zip) Kp.type (Evs.cons (by walk_at "nm") (Evs.cons (by walk_at "nm") (Evs.cons (by walk_at "nm") Evs.nil))) (fun Z₈ vs hz hds => ?zip)) (fun i Z₈ a b c hz hi ea eb ec => ?turn) (fun Z₈ hz => exRetEv (P := aBool true) Ev.bool fun Z' v hz e => e)
    case zip =>
      obtain ⟨v1, v2, v3, rfl, e1, e2, e3⟩ := hds.three
      obtain rfl : v1 = .ref M := e1
      obtain rfl : v2 = .ref P := e2
      obtain rfl : v3 = .ref H := e3
      exact conZip3 (hz _ _ hM) (hz _ _ hP) (hz _ _ hH)
    case turn =>
      obtain ⟨a', b', c', e1, e2, e3, f1, f2, f3⟩ := hist.at (i := i) (w := W[i]) (List.getElem?_eq_getElem hi)
      rw [ea] at e1; cases e1
      rw [eb] at e2; cases e2
      rw [ec] at e3; cases e3
      have hw := hsmall W[i] (List.getElem_mem hi)
      generalize W[i] = w at *
      have f1 := (aW C w.ls w.t w.ns).mono hz f1
      have f2 := (aLb 5000 w.ns).mono hz f2
      have f3 := (aRefs (leavesOf w.ls w.t w.ns.length)).mono hz f3
      walk_at "upd"
      refine Ex.tell (x := "vector") (v := a) (av := aVb 5000 w.ns) (aWc.toVb f1 hw) (by walk_at "mem") ?_
      refine Ex.tell (x := "vector") (v := a) (av := aWc w.ls w.t w.ns) f1 (by walk_at "mem") ?_
      refine Ex.tell (x := "row") (v := b) f2 (by walk_at "mem") ?_
      refine Ex.tell (x := "leaves") (v := c) f3 (by walk_at "mem") ?_
      refine exAssign (P := aInt w.ns.length) (by walk_at "ev") ?_
      walk_at "upd"
      refine exIf (b := (((w.ns.length : Nat) : Int) != ((w.ns.length : Nat) : Int)) || (cmpL .NotEq w.ns w.ns || false)) (by walk_at "tst") (fun h => ?_) (fun _ => ?_)
      · rw [cmpL_ne] at h; simp at h
      refine exForR ((w.ns.length + 31) / 32) (fun _ => [("many", aInt w.ns.length), ("leaves", aRefs (leavesOf w.ls w.t w.ns.length)), ("row", aLb 5000 w.ns), ("vector", aWc w.ls w.t w.ns), ("held", aVal (.ref H)), ("plain", aVal (.ref P)), ("made", aVal (.ref M))]) (fun _ _ O' => O' = []) (by omega)
        (evRange hK (by k_is) (castI (evLenR hK (by k_is) (by walk_at "nm") (by rw [leavesOf_len]; exact Nat.le_trans (show (w.ns.length + 31) / 32 ≤ 5000 by omega) (by decide))) (by rw [leavesOf_len]))) (by walk_at "submem") (fun _ => by walk_at "submem") (fun Z₁ hz1 => rfl) (fun j Z₉ O' hz1 hj e => ?_) (fun Z₉ O' hz1 e => ?_)
      · subst e
        have hj2 : 32 * j < w.ns.length := by omega
        obtain ⟨q, hq⟩ : ∃ q : Nat, min (32 * (j : Int) + 31) ((w.ns.length : Nat) - 1) = (q : Int) := Int.eq_ofNat_of_zero_le (by omega)
        have hq2 : q / 32 = j := by omega
        refine exAssign (castI (by walk_at "ev") hq) ?_
        walk_at "upd"
        have hrun := (aLb 32 ((w.ns.drop (32 * j)).take 32)).mono hz1 (leafRun f1 hj2)
        refine exIf (b := (false || (cmpL .NotEq ((w.ns.drop (32 * j)).take 32) (pickNums w.ns (some (32 * (j : Int))) (some (32 * (j : Int) + 32)) none) || false)))
          (Tst.all (TstAll.or_cons (Tst.cmp (castA (evNode hK (j := q) (by walk_at "nm") (by walk_at "nm") (by omega) (by walk_at "rm")) (by rw [hq2])) (castA (evSub (by walk_at "nm") (by walk_at "nm") (subItemR (by rw [leavesOf_len]; exact hj) (by omega))) (leavesOf_get w.ls w.t hj2)) cmpSame) fun _ =>
            TstAll.or_cons (Tst.cmp (evIs (castA (evSub (by walk_at "nm") (by walk_at "nm") (subItemR (by rw [leavesOf_len]; exact hj) (by omega))) (leavesOf_get w.ls w.t hj2)) hrun) (by walk_at "ev") (cmpLLb rfl)) fun _ => TstAll.or_nil)) (fun h => ?_) (fun _ => ?_)
        · rw [pn32 _ _ hj2, cmpL_ne] at h; simp at h
        exact exs_nil fun Z₁ hz2 => ⟨by walk_at "submem", rfl⟩
      · subst e
        exact exs_nil fun Z₁ hz2 => ⟨rfl, by walk_at "submem"⟩
end
end Mine
end
section
open PySem PySem.W PyProof.Rows PySem.Calls
set_option Elab.async false
set_option maxRecDepth 100000
set_option maxHeartbeats 1000000
set_option linter.unusedVariables false
namespace Mine
theorem fillK20 (w : World) : (KK w.params = KK w.params) ∧ (PySem.Challenge.rw_nc0017_01.name = PySem.Challenge.rw_nc0017_01.name) := by k_fill; exact ⟨rfl, rfl⟩
theorem kLaw (w : World) : nsIn (KK w.params) mainGlobals (Str.ofString "law") = some (some (.ref 330)) := by k_is
theorem roomC : Room callerA 33 := ⟨rfl, by decide, by decide⟩
theorem whole : PySem.Challenge.rw_nc0017_01.Holds := hd (by
  intro w s₀ s₁ mg mb G Y fa o pm cd doc dV kV ho hd hcd hD hmg hg args vals as hpre hlay hrd hwl hlo
  clear hd hcd hD
  have KX := kIn_of Y
  refine Ground.open G ?_
  intro T B D TE TW
  wrow_args hpre hlay hrd hwl hlo
  rename_i ns _ _ _ _ _ _ _ sa vs _ hL _ _ _ hI _ hc _
  have hlen : vs.length ≤ sizeLine := by
    rw [hI.length]
    have : 63 ≤ sizeLine := Nat.le_of_ble_eq_true rfl
    omega
  have hfa : fa = 330 := by
    have h1 := mg_of KX T.g (kLaw w)
    have h2 : some (Value.ref fa) = some (Value.ref 330) := hmg.symm.trans h1
    injection h2 with h2
    injection h2
  subst hfa
  obtain ⟨o, ho', hcls, n, hdat⟩ := hL
  let g : Gd := ⟨PySem.Challenge.rw_nc0017_01.row.prog, w, KK w.params, s₁.heap, mg, mb, _, _, KX, topRead_of T⟩
  have h63 : ns.length ≤ 63 := by first | exact hc | omega | (have := hI.length; omega)
  have con := law_ok (g := g) rfl (Z := fun a => s₁.heap.get? a) (v := .ref sa) (ns := ns) ⟨sa, o, vs, n, rfl, ho', hcls, hdat, hI, hlen⟩ h63
  have ok : Ok g (fun a => s₁.heap.get? a) [] s₁ := ⟨fun _ _ e => e, fun _ _ e => e, fun _ h => (nomatch h), List.nodup_nil⟩
  refine wpAny_mono (con callerA s₁ (fun v s' => GoodWG (PySem.Challenge.rw_nc0017_01.row.claim) (classAt s₀.heap) (ExcName.means s₀.heap) [ofPy (PyData.list (List.map PyData.int ns))] s₁ (Except.ok (Flow.ret v)) s') rfl roomC ok fun v s' Z' O' st e => ?_) (fun _ _ h => h) fun _ _ h => False.elim h
  subst e
  refine GoodW.toG ⟨.inl ⟨_, .bool true, [], rfl, fun _ => rfl, ?_, ?_, fun h => ?_⟩, fun b o e => st.keep b o e (fun _ h => (nomatch h)), st.os, st.gens.trans hg⟩
  · exact .bool true
  · with_unfolding_all rfl
  · exact unshared_nil h)
end Mine
end
theorem PySem.Challenge.cw_nc0017_01_holds : PySem.Challenge.rw_nc0017_01.Holds :=
  Mine.whole
