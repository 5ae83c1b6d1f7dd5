import PyProof.Rows.All
import KE.KEqDict
import KE.KIntText
import Wide.FinOn
import OpenK.AllK
import Wide.All
import PySem.Challenge.RW_dn0070_12
set_option Elab.async false
set_option maxRecDepth 100000
set_option maxHeartbeats 4000000
set_option linter.all false
section
open PySem PySem.W
namespace Mine
section
noncomputable section
abbrev pw : Program := PySem.Challenge.pw_dn0070_12
abbrev q (x : String) : Str := Str.ofString x
abbrev de (P : Params) (k : String) (t : Tok) (v : Value) : DictEntry := ⟨PyData.keyHash P (q k), .str (q k) t, v⟩
def nth {α : Type} (d : α) : List α -> Nat -> α
  | [], _ => d
  | x :: _, 0 => x
  | _ :: r, n + 1 => nth d r n
def stA (i : Nat) : Stmt := nth (.Pass ⟨0, 0, 0, 0⟩) pw.main.body i
def vV : Stmt -> List Stmt
  | .ClassDef _ _ _ b _ _ _ _ _ _ _ => b
  | _ => []
def inC (i j : Nat) : Stmt := nth (.Pass ⟨0, 0, 0, 0⟩) (vV (stA i)) j
def fnP : Stmt -> Arguments
  | .FunctionDef _ a _ _ _ _ _ _ _ _ => a
  | _ => ⟨[], [], none, [], [], none, []⟩
def fnB : Stmt -> List Stmt
  | .FunctionDef _ _ b _ _ _ _ _ _ _ => b
  | _ => []
def fnS : Stmt -> Scope
  | .FunctionDef _ _ _ _ _ _ s _ _ _ => s
  | _ => default
abbrev fd (st : Stmt) (name qual : String) (gl : Addr) (cl : List (Str × Addr)) (dV kV doc pm : Value) (an : Option Addr) (cd ct : Value) (bl : Addr) : FuncData :=
  { name := q name, qualname := q qual, params := fnP st, body := .stmts (fnB st), scope := fnS st, globals := gl, closure := cl, defaults := dV, kwdefaults := kV, doc := doc, pyModule := pm, annotations := an, code := cd, closureTuple := ct, builtins := bl }
namespace H
noncomputable abbrev s (x : String) (t : Tok) : Value := .str (q x) t
noncomputable abbrev c (t : Tok) : Value := .str (q "/claim/cut.py") t
noncomputable abbrev I (i : Int) : Value := .int i 0
noncomputable abbrev r (a : Addr) : Value := .ref a
noncomputable abbrev b (x : String) : Value := .builtin x
noncomputable abbrev t (x : String) : Value := .type x
noncomputable abbrev n : Value := .none
noncomputable abbrev d (P : Params) (k : String) (t : Tok) (v : Value) : DictEntry := de P k t v
noncomputable abbrev L (o : Obj) : Params -> Obj := fun _ => o
noncomputable abbrev T (l : List Value) : Params -> Obj := fun _ => ⟨.type "tuple", none, .seq ⟨l⟩ 0, #[]⟩
noncomputable abbrev N : Params -> Obj := fun _ => ⟨.none, none, .fields #[], #[]⟩
noncomputable abbrev F (c : Value) (l : List Value) : Params -> Obj := fun _ => ⟨c, none, .fields ⟨l⟩, #[]⟩
noncomputable abbrev D (l : Array DictEntry) (k : Nat) : Obj := ⟨.type "dict", none, .dict l k, #[]⟩
noncomputable abbrev D0 (k : Nat) : Params -> Obj := fun _ => ⟨.type "dict", none, .dict #[] k, #[]⟩
noncomputable abbrev M (c : Value) (a : Addr) : Params -> Obj := fun _ => ⟨c, some a, .plain, #[]⟩
noncomputable abbrev G (f : Stmt) (x y : String) : Params -> Obj := fun _ => ⟨.none, none, .func (fd f x y 0 [] .none .none .none .none none .none .none 0), #[]⟩
noncomputable abbrev U (f : Stmt) (x y m : String) (t : Tok) (a : Addr) : Params -> Obj := fun _ => ⟨.type "function", none, .func (fd f x y 3 [] .none .none .none (.str (q m) t) none (.ref a) .none 0), #[]⟩
noncomputable abbrev C (x y : String) (k : Tok) (l e f g h : Int) (v1 v2 v3 v4 v5 v6 : Value) (z : Nat) : Params -> Obj := fun _ => ⟨.type "code", none, .fields #[s x k, s y (k + 1), c (k + 2), I l, I e, I f, I g, I h, v1, .bool true, I 379, v2, v3, v4, v5, v6, I z, I l, c (z + 1)], #[]⟩
noncomputable abbrev A (o : Params -> Obj) (x y : Params -> BT) : Params -> BT := fun P => .node (o P) (x P) (y P)
noncomputable abbrev e : Params -> BT := fun _ => .nil
noncomputable abbrev B (o : Params -> Obj) : Params -> BT := fun P => .node (o P) .nil .nil
end H
open H
variable (P : Params)
def o0 := D #[d P "__name__" 1 (s "builtins" 160),d P "__doc__" 2 (b "builtins.__doc__:str#opaque"),d P "__package__" 3 (b "builtins.__package__:str#opaque"),d P "__loader__" 4 (b "builtins.__loader__:shared#opaque"),d P "__spec__" 5 (b "builtins.__spec__#opaque"),d P "__build_class__" 6 (b "__build_class__"),d P "__import__" 7 (b "__import__"),d P "abs" 8 (b "abs"),d P "all" 9 (b "all"),d P "any" 10 (b "any"),d P "ascii" 11 (b "ascii"),d P "bin" 12 (b "bin"),d P "breakpoint" 13 (b "breakpoint"),d P "callable" 14 (b "callable"),d P "chr" 15 (b "chr"),d P "compile" 16 (b "compile"),d P "delattr" 17 (b "delattr"),d P "dir" 18 (b "dir"),d P "divmod" 19 (b "divmod"),d P "eval" 20 (b "eval"),d P "exec" 21 (b "exec"),d P "format" 22 (b "format"),d P "getattr" 23 (b "getattr"),d P "globals" 24 (b "globals"),d P "hasattr" 25 (b "hasattr"),d P "hash" 26 (b "hash"),d P "hex" 27 (b "hex"),d P "id" 28 (b "id"),d P "input" 29 (b "input"),d P "isinstance" 30 (b "isinstance"),d P "issubclass" 31 (b "issubclass"),d P "iter" 32 (b "iter"),d P "aiter" 33 (b "aiter"),d P "len" 34 (b "len"),d P "locals" 35 (b "locals"),d P "max" 36 (b "max"),d P "min" 37 (b "min"),d P "next" 38 (b "next"),d P "anext" 39 (b "anext"),d P "oct" 40 (b "oct"),d P "ord" 41 (b "ord"),d P "pow" 42 (b "pow"),d P "print" 43 (b "print"),d P "repr" 44 (b "repr"),d P "round" 45 (b "round"),d P "setattr" 46 (b "setattr"),d P "sorted" 47 (b "sorted"),d P "sum" 48 (b "sum"),d P "vars" 49 (b "vars"),d P "None" 50 n,d P "Ellipsis" 51 .ellipsis,d P "NotImplemented" 52 .notImplemented,d P "False" 53 (.bool false),d P "True" 54 (.bool true),d P "bool" 55 (t "bool"),d P "memoryview" 56 (t "memoryview"),d P "bytearray" 57 (t "bytearray"),d P "bytes" 58 (t "bytes"),d P "classmethod" 59 (t "classmethod"),d P "complex" 60 (t "complex"),d P "dict" 61 (t "dict"),d P "enumerate" 62 (t "enumerate"),d P "filter" 63 (t "filter"),d P "float" 64 (t "float"),d P "frozenset" 65 (t "frozenset"),d P "property" 66 (t "property"),d P "int" 67 (t "int"),d P "list" 68 (t "list"),d P "map" 69 (t "map"),d P "object" 70 (t "object"),d P "range" 71 (t "range"),d P "reversed" 72 (t "reversed"),d P "set" 73 (t "set"),d P "slice" 74 (t "slice"),d P "staticmethod" 75 (t "staticmethod"),d P "str" 76 (t "str"),d P "super" 77 (t "super"),d P "tuple" 78 (t "tuple"),d P "type" 79 (t "type"),d P "zip" 80 (t "zip"),d P "__debug__" 81 (.bool true),d P "BaseException" 82 (t "BaseException"),d P "BaseExceptionGroup" 83 (t "BaseExceptionGroup"),d P "Exception" 84 (t "Exception"),d P "GeneratorExit" 85 (t "GeneratorExit"),d P "KeyboardInterrupt" 86 (t "KeyboardInterrupt"),d P "SystemExit" 87 (t "SystemExit"),d P "ArithmeticError" 88 (t "ArithmeticError"),d P "AssertionError" 89 (t "AssertionError"),d P "AttributeError" 90 (t "AttributeError"),d P "BufferError" 91 (t "BufferError"),d P "EOFError" 92 (t "EOFError"),d P "ImportError" 93 (t "ImportError"),d P "LookupError" 94 (t "LookupError"),d P "MemoryError" 95 (t "MemoryError"),d P "NameError" 96 (t "NameError"),d P "OSError" 97 (t "OSError"),d P "ReferenceError" 98 (t "ReferenceError"),d P "RuntimeError" 99 (t "RuntimeError"),d P "StopAsyncIteration" 100 (t "StopAsyncIteration"),d P "StopIteration" 101 (t "StopIteration"),d P "SyntaxError" 102 (t "SyntaxError"),d P "SystemError" 103 (t "SystemError"),d P "TypeError" 104 (t "TypeError"),d P "ValueError" 105 (t "ValueError"),d P "Warning" 106 (t "Warning"),d P "FloatingPointError" 107 (t "FloatingPointError"),d P "OverflowError" 108 (t "OverflowError"),d P "ZeroDivisionError" 109 (t "ZeroDivisionError"),d P "BytesWarning" 110 (t "BytesWarning"),d P "DeprecationWarning" 111 (t "DeprecationWarning"),d P "EncodingWarning" 112 (t "EncodingWarning"),d P "FutureWarning" 113 (t "FutureWarning"),d P "ImportWarning" 114 (t "ImportWarning"),d P "PendingDeprecationWarning" 115 (t "PendingDeprecationWarning"),d P "ResourceWarning" 116 (t "ResourceWarning"),d P "RuntimeWarning" 117 (t "RuntimeWarning"),d P "SyntaxWarning" 118 (t "SyntaxWarning"),d P "UnicodeWarning" 119 (t "UnicodeWarning"),d P "UserWarning" 120 (t "UserWarning"),d P "BlockingIOError" 121 (t "BlockingIOError"),d P "ChildProcessError" 122 (t "ChildProcessError"),d P "ConnectionError" 123 (t "ConnectionError"),d P "FileExistsError" 124 (t "FileExistsError"),d P "FileNotFoundError" 125 (t "FileNotFoundError"),d P "InterruptedError" 126 (t "InterruptedError"),d P "IsADirectoryError" 127 (t "IsADirectoryError"),d P "NotADirectoryError" 128 (t "NotADirectoryError"),d P "PermissionError" 129 (t "PermissionError"),d P "ProcessLookupError" 130 (t "ProcessLookupError"),d P "TimeoutError" 131 (t "TimeoutError"),d P "IndentationError" 132 (t "IndentationError"),d P "_IncompleteInputError" 133 (t "_IncompleteInputError"),d P "IndexError" 134 (t "IndexError"),d P "KeyError" 135 (t "KeyError"),d P "ModuleNotFoundError" 136 (t "ModuleNotFoundError"),d P "NotImplementedError" 137 (t "NotImplementedError"),d P "PythonFinalizationError" 138 (t "PythonFinalizationError"),d P "RecursionError" 139 (t "RecursionError"),d P "UnboundLocalError" 140 (t "UnboundLocalError"),d P "UnicodeError" 141 (t "UnicodeError"),d P "BrokenPipeError" 142 (t "BrokenPipeError"),d P "ConnectionAbortedError" 143 (t "ConnectionAbortedError"),d P "ConnectionRefusedError" 144 (t "ConnectionRefusedError"),d P "ConnectionResetError" 145 (t "ConnectionResetError"),d P "TabError" 146 (t "TabError"),d P "UnicodeDecodeError" 147 (t "UnicodeDecodeError"),d P "UnicodeEncodeError" 148 (t "UnicodeEncodeError"),d P "UnicodeTranslateError" 149 (t "UnicodeTranslateError"),d P "ExceptionGroup" 150 (t "ExceptionGroup"),d P "EnvironmentError" 151 (t "OSError"),d P "IOError" 152 (t "OSError"),d P "open" 153 (b "open"),d P "quit" 154 (b "builtins.quit#opaque"),d P "exit" 155 (b "builtins.exit#opaque"),d P "copyright" 156 (b "builtins.copyright#opaque"),d P "credits" 157 (b "builtins.credits#opaque"),d P "license" 158 (b "builtins.license#opaque"),d P "help" 159 (b "builtins.help#opaque")] 159
def o1 := D #[d P "builtins" 162 (r 4),d P "__main__" 163 (r 5),d P "_collections" 246 (r 13),d P "_heapq" 349 (r 31)] 4
def o2 : Obj := ⟨n,none,.dict #[de P "imp\x6frt.loaded._collections" 185 (.bool true), de P "class._frozen_importlib.BuiltinImporter" 187 (.ref 15), de P "watched.imp\x6frt" 208 (.ref 19), de P "class._frozen_importlib.ModuleSpec" 218 (.ref 23), de P "sys.modules.booked-epoch" 247 (.int (4) 0), de P "sys.modules.landed._collections" 248 (.bool true), de P "imp\x6frt.later-laid._collections" 263 (.bool true), de P "watched.library" 265 (.ref 28), de P "watched.library-objects" 0 (.str ⟨⟨[13, 31]⟩⟩ 0), de P "watched.library-deep._collections" 266 (.str ⟨⟨[4, 0, 0, 12, 4, 0, 0, 12, 4, 0, 0, 3, 4, 0, 0, 12, 8, 4, 100, 105, 99, 116, 2]⟩⟩ 0), de P "imp\x6frt.loaded._heapq" 278 (.bool true), de P "class._frozen_importlib_external._LoaderBasics" 283 (.ref 34), de P "class._frozen_importlib_external.FileLoader" 299 (.ref 39), de P "class._frozen_importlib_external.ExtensionFileLoader" 320 (.ref 44), de P "imp\x6frt.later-laid._heapq" 368 (.bool true)] 15,#[]⟩
def o3v0 := D #[d P "__name__" 165 (s "__main__" 164),d P "__doc__" 166 n,d P "__package__" 167 n,d P "__loader__" 168 (b "__main__.__loader__#opaque"),d P "__spec__" 169 n,d P "__annotations__" 170 (r 6),d P "__builtins__" 171 (r 4),d P "__file__" 173 (c 172),d P "__cached__" 174 n,d P "deque" 272 (t "collections.deque"),d P "heapify" 375 (b "_heapq.heapify"),d P "heapreplace" 378 (b "_heapq.heapreplace")] 12
def o3v20 := D #[d P "__name__" 165 (s "collections.abc" 430),d P "__doc__" 166 n,d P "__package__" 167 n,d P "__loader__" 168 (b "__main__.__loader__#opaque"),d P "__spec__" 169 n,d P "__annotations__" 170 (r 6),d P "__builtins__" 171 (r 4),d P "__file__" 173 (c 172),d P "__cached__" 174 n,d P "deque" 272 (t "collections.deque"),d P "heapify" 375 (b "_heapq.heapify"),d P "heapreplace" 378 (b "_heapq.heapreplace"),d P "_wall" 391 (r 60),d P "_count_elements" 403 (r 67),d P "ABCMeta" 429 (r 84),d P "_ABCLike" 472 (r 117),d P "_abc_plain_meta" 479 (r 126),d P "_abc_has_iter" 486 (r 133),d P "_abc_has_len" 493 (r 140),d P "_abc_has_contains" 500 (r 147),d P "_abc_is_mappingproxy" 507 (r 154),d P "_abc_is_builtin_collection" 514 (r 161),d P "Iterable" 555 (r 194),d P "Sized" 592 (r 224),d P "Container" 639 (r 260),d P "Collection" 669 (r 283),d P "Set" 826 (r 399),d P "Mapping" 914 (r 471),d P "MappingView" 982 (r 521)] 29
def o3v37 := D #[d P "__name__" 165 (s "cpy313.collections" 1450),d P "__doc__" 166 n,d P "__package__" 167 n,d P "__loader__" 168 (b "__main__.__loader__#opaque"),d P "__spec__" 169 n,d P "__annotations__" 170 (r 6),d P "__builtins__" 171 (r 4),d P "__file__" 173 (c 172),d P "__cached__" 174 n,d P "deque" 272 (t "collections.deque"),d P "heapify" 375 (b "_heapq.heapify"),d P "heapreplace" 378 (b "_heapq.heapreplace"),d P "_wall" 391 (r 60),d P "_count_elements" 403 (r 67),d P "ABCMeta" 429 (r 84),d P "_ABCLike" 472 (r 117),d P "_abc_plain_meta" 479 (r 126),d P "_abc_has_iter" 486 (r 133),d P "_abc_has_len" 493 (r 140),d P "_abc_has_contains" 500 (r 147),d P "_abc_is_mappingproxy" 507 (r 154),d P "_abc_is_builtin_collection" 514 (r 161),d P "Iterable" 555 (r 194),d P "Sized" 592 (r 224),d P "Container" 639 (r 260),d P "Collection" 669 (r 283),d P "Set" 826 (r 399),d P "Mapping" 914 (r 471),d P "MappingView" 982 (r 521),d P "KeysView" 1042 (r 568),d P "ItemsView" 1106 (r 613),d P "ValuesView" 1149 (r 648),d P "nlargest" 1157 (r 656),d P "_is_int" 1167 (r 663),d P "_whole" 1176 (r 670),d P "_pull" 1183 (r 677),d P "_NotGiven" 1203 (r 687),d P "chain" 1278 (r 734),d P "repeat" 1342 (r 786),d P "starmap" 1391 (r 823),d P "itemgetter" 1449 (r 867),d P "Counter" 1762 (r 1093)] 42
def o3 := D #[d P "__name__" 165 (s "law_dn0070_12" 1945),d P "__doc__" 166 n,d P "__package__" 167 n,d P "__loader__" 168 (b "__main__.__loader__#opaque"),d P "__spec__" 169 n,d P "__annotations__" 170 (r 6),d P "__builtins__" 171 (r 4),d P "__file__" 173 (c 172),d P "__cached__" 174 n,d P "deque" 272 (t "collections.deque"),d P "heapify" 375 (b "_heapq.heapify"),d P "heapreplace" 378 (b "_heapq.heapreplace"),d P "_wall" 391 (r 60),d P "_count_elements" 403 (r 67),d P "ABCMeta" 429 (r 84),d P "_ABCLike" 472 (r 117),d P "_abc_plain_meta" 479 (r 126),d P "_abc_has_iter" 486 (r 133),d P "_abc_has_len" 493 (r 140),d P "_abc_has_contains" 500 (r 147),d P "_abc_is_mappingproxy" 507 (r 154),d P "_abc_is_builtin_collection" 514 (r 161),d P "Iterable" 555 (r 194),d P "Sized" 592 (r 224),d P "Container" 639 (r 260),d P "Collection" 669 (r 283),d P "Set" 826 (r 399),d P "Mapping" 914 (r 471),d P "MappingView" 982 (r 521),d P "KeysView" 1042 (r 568),d P "ItemsView" 1106 (r 613),d P "ValuesView" 1149 (r 648),d P "nlargest" 1157 (r 656),d P "_is_int" 1167 (r 663),d P "_whole" 1176 (r 670),d P "_pull" 1183 (r 677),d P "_NotGiven" 1203 (r 687),d P "chain" 1278 (r 734),d P "repeat" 1342 (r 786),d P "starmap" 1391 (r 823),d P "itemgetter" 1449 (r 867),d P "Counter" 1762 (r 1093),d P "_NODE_OUT" 1767 (.int (-1) 1766),d P "_NODE_DONE" 1770 (.int (-2) 1769),d P "_NodeInfo" 1807 (r 1116),d P "CycleError" 1825 (r 1131),d P "TopologicalSorter" 1944 (r 1213),d P "_law_waits" 1958 (r 1224),d P "_law_parts" 1964 (r 1229),d P "_law_steps" 1970 (r 1234),d P "_law_chains" 1976 (r 1239),d P "law" 1982 (r 1244)] 52
def o4 := M (t "module") 0
def o5 := M (t "module") 3
def o6 := D0 0
def o7 := T []
def o8 := N
def o9 := F (t "code") [s "<module>" 176,s "<module>" 177,c 178,I 1,I 0,I 0,I 0,I 0,r 7,.bool false,I 175,r 8,n,n,n,n,I 179,I 1,c 180]
def o10 := L ⟨t "frame",none,.plain,#[some (r 9),some (r 3),some (r 3),none,some (s "__main__" 164),none,some (r 0)]⟩
def o11 := T [s "deque" 182]
def o12v0 := D #[d P "__name__" 250 (s "_collections" 249),d P "__doc__" 251 (b "_collections.__doc__:str#opaque"),d P "__package__" 253 (s "" 252),d P "__loader__" 254 (r 15),d P "__spec__" 255 (r 27),d P "_count_elements" 256 (b "_collections._count_elements"),d P "deque" 257 (t "collections.deque"),d P "defaultdict" 258 (t "collections.defaultdict"),d P "_deque_iterator" 259 (t "collections._deque_iterator"),d P "_deque_reverse_iterator" 260 (t "collections._deque_reverse_iterator"),d P "_tuplegetter" 261 (t "collections._tuplegetter"),d P "OrderedDict" 262 (t "collections.OrderedDict")] 12
def o12 := D #[d P "__name__" 250 (s "_collections" 249),d P "__doc__" 251 (b "off-the-table:_collections.__doc__:shared#opaque"),d P "__package__" 253 (s "" 252),d P "__loader__" 254 (b "off-the-table:_collections.__loader__:shared#opaque"),d P "__spec__" 255 (b "off-the-table:_collections.__spec__:shared#opaque"),d P "_count_elements" 256 (b "_collections._count_elements"),d P "deque" 257 (t "collections.deque"),d P "defaultdict" 258 (t "collections.defaultdict"),d P "_deque_iterator" 259 (b "off-the-table:_collections._deque_iterator:shared#opaque"),d P "_deque_reverse_iterator" 260 (b "off-the-table:_collections._deque_reverse_iterator:shared#opaque"),d P "_tuplegetter" 261 (t "collections._tuplegetter"),d P "OrderedDict" 262 (t "collections.OrderedDict")] 12
def o13 := M (t "module") 12
def o14 := D #[d P "__module__" 191 (s "_frozen_importlib" 188),d P "__firstlineno__" 192 (.int (971) 189),d P "__doc__" 193 (b "_frozen_importlib.BuiltinImporter.__doc__:str#opaque"),d P "_ORIGIN" 194 (s "built-in" 190),d P "find_spec" 195 (b "_frozen_importlib.BuiltinImporter.find_spec#opaque"),d P "create_module" 196 (b "_frozen_importlib.BuiltinImporter.create_module#opaque"),d P "exec_module" 197 (b "_frozen_importlib.BuiltinImporter.exec_module#opaque"),d P "get_code" 198 (b "_frozen_importlib.BuiltinImporter.get_code#opaque"),d P "get_source" 199 (b "_frozen_importlib.BuiltinImporter.get_source#opaque"),d P "is_package" 200 (b "_frozen_importlib.BuiltinImporter.is_package#opaque"),d P "load_module" 201 (b "_frozen_importlib.BuiltinImporter.load_module#opaque"),d P "__static_attributes__" 202 (r 16),d P "__dict__" 204 (r 17),d P "__weakref__" 206 (r 18)] 14
def o15 := L ⟨t "type",none,.cls ⟨(q "BuiltinImporter"), [t "object"], [r 15,t "object"], 14, (q "BuiltinImporter"), true, [], [], false, none, false⟩,#[]⟩
def o17 := F (t "getset_descriptor") [s "__dict__" 203,r 15,b "function.__dict__",b "function.__dict__#set"]
def o18 := F (t "getset_descriptor") [s "__weakref__" 205,r 15,b "ExceptionGroup.__weakref__",n]
def o19 := L ⟨n,none,.seq #[(.int (14) 0), (.str ⟨⟨[6, 191, 10, 95, 95, 109, 111, 100, 117, 108, 101, 95, 95, 6, 188, 17, 95, 102, 114, 111, 122, 101, 110, 95, 105, 109, 112, 111, 114, 116, 108, 105, 98, 6, 192, 15, 95, 95, 102, 105, 114, 115, 116, 108, 105, 110, 101, 110, 111, 95, 95, 4, 189, 0, 971, 6, 193, 7, 95, 95, 100, 111, 99, 95, 95, 9, 52, 95, 102, 114, 111, 122, 101, 110, 95, 105, 109, 112, 111, 114, 116, 108, 105, 98, 46, 66, 117, 105, 108, 116, 105, 110, 73, 109, 112, 111, 114, 116, 101, 114, 46, 95, 95, 100, 111, 99, 95, 95, 58, 115, 116, 114, 35, 111, 112, 97, 113, 117, 101, 6, 194, 7, 95, 79, 82, 73, 71, 73, 78, 6, 190, 8, 98, 117, 105, 108, 116, 45, 105, 110, 6, 195, 9, 102, 105, 110, 100, 95, 115, 112, 101, 99, 9, 50, 95, 102, 114, 111, 122, 101, 110, 95, 105, 109, 112, 111, 114, 116, 108, 105, 98, 46, 66, 117, 105, 108, 116, 105, 110, 73, 109, 112, 111, 114, 116, 101, 114, 46, 102, 105, 110, 100, 95, 115, 112, 101, 99, 35, 111, 112, 97, 113, 117, 101, 6, 196, 13, 99, 114, 101, 97, 116, 101, 95, 109, 111, 100, 117, 108, 101, 9, 54, 95, 102, 114, 111, 122, 101, 110, 95, 105, 109, 112, 111, 114, 116, 108, 105, 98, 46, 66, 117, 105, 108, 116, 105, 110, 73, 109, 112, 111, 114, 116, 101, 114, 46, 99, 114, 101, 97, 116, 101, 95, 109, 111, 100, 117, 108, 101, 35, 111, 112, 97, 113, 117, 101, 6, 197, 11, 101, 120, 101, 99, 95, 109, 111, 100, 117, 108, 101, 9, 52, 95, 102, 114, 111, 122, 101, 110, 95, 105, 109, 112, 111, 114, 116, 108, 105, 98, 46, 66, 117, 105, 108, 116, 105, 110, 73, 109, 112, 111, 114, 116, 101, 114, 46, 101, 120, 101, 99, 95, 109, 111, 100, 117, 108, 101, 35, 111, 112, 97, 113, 117, 101, 6, 198, 8, 103, 101, 116, 95, 99, 111, 100, 101, 9, 49, 95, 102, 114, 111, 122, 101, 110, 95, 105, 109, 112, 111, 114, 116, 108, 105, 98, 46, 66, 117, 105, 108, 116, 105, 110, 73, 109, 112, 111, 114, 116, 101, 114, 46, 103, 101, 116, 95, 99, 111, 100, 101, 35, 111, 112, 97, 113, 117, 101, 6, 199, 10, 103, 101, 116, 95, 115, 111, 117, 114, 99, 101, 9, 51, 95, 102, 114, 111, 122, 101, 110, 95, 105, 109, 112, 111, 114, 116, 108, 105, 98, 46, 66, 117, 105, 108, 116, 105, 110, 73, 109, 112, 111, 114, 116, 101, 114, 46, 103, 101, 116, 95, 115, 111, 117, 114, 99, 101, 35, 111, 112, 97, 113, 117, 101, 6, 200, 10, 105, 115, 95, 112, 97, 99, 107, 97, 103, 101, 9, 51, 95, 102, 114, 111, 122, 101, 110, 95, 105, 109, 112, 111, 114, 116, 108, 105, 98, 46, 66, 117, 105, 108, 116, 105, 110, 73, 109, 112, 111, 114, 116, 101, 114, 46, 105, 115, 95, 112, 97, 99, 107, 97, 103, 101, 35, 111, 112, 97, 113, 117, 101, 6, 201, 11, 108, 111, 97, 100, 95, 109, 111, 100, 117, 108, 101, 9, 52, 95, 102, 114, 111, 122, 101, 110, 95, 105, 109, 112, 111, 114, 116, 108, 105, 98, 46, 66, 117, 105, 108, 116, 105, 110, 73, 109, 112, 111, 114, 116, 101, 114, 46, 108, 111, 97, 100, 95, 109, 111, 100, 117, 108, 101, 35, 111, 112, 97, 113, 117, 101, 6, 202, 21, 95, 95, 115, 116, 97, 116, 105, 99, 95, 97, 116, 116, 114, 105, 98, 117, 116, 101, 115, 95, 95, 4, 0, 0, 16, 6, 204, 8, 95, 95, 100, 105, 99, 116, 95, 95, 4, 0, 0, 17, 6, 206, 11, 95, 95, 119, 101, 97, 107, 114, 101, 102, 95, 95, 4, 0, 0, 18]⟩⟩ 0), (.bool true), (.bool true), (.str (q "") 207), (.int (22) 0), (.str ⟨⟨[6, 229, 10, 95, 95, 109, 111, 100, 117, 108, 101, 95, 95, 6, 219, 17, 95, 102, 114, 111, 122, 101, 110, 95, 105, 109, 112, 111, 114, 116, 108, 105, 98, 6, 230, 15, 95, 95, 102, 105, 114, 115, 116, 108, 105, 110, 101, 110, 111, 95, 95, 4, 220, 0, 562, 6, 231, 7, 95, 95, 100, 111, 99, 95, 95, 9, 47, 95, 102, 114, 111, 122, 101, 110, 95, 105, 109, 112, 111, 114, 116, 108, 105, 98, 46, 77, 111, 100, 117, 108, 101, 83, 112, 101, 99, 46, 95, 95, 100, 111, 99, 95, 95, 58, 115, 116, 114, 35, 111, 112, 97, 113, 117, 101, 6, 232, 8, 95, 95, 105, 110, 105, 116, 95, 95, 9, 44, 95, 102, 114, 111, 122, 101, 110, 95, 105, 109, 112, 111, 114, 116, 108, 105, 98, 46, 77, 111, 100, 117, 108, 101, 83, 112, 101, 99, 46, 95, 95, 105, 110, 105, 116, 95, 95, 35, 111, 112, 97, 113, 117, 101, 6, 233, 8, 95, 95, 114, 101, 112, 114, 95, 95, 9, 44, 95, 102, 114, 111, 122, 101, 110, 95, 105, 109, 112, 111, 114, 116, 108, 105, 98, 46, 77, 111, 100, 117, 108, 101, 83, 112, 101, 99, 46, 95, 95, 114, 101, 112, 114, 95, 95, 35, 111, 112, 97, 113, 117, 101, 6, 234, 6, 95, 95, 101, 113, 95, 95, 9, 42, 95, 102, 114, 111, 122, 101, 110, 95, 105, 109, 112, 111, 114, 116, 108, 105, 98, 46, 77, 111, 100, 117, 108, 101, 83, 112, 101, 99, 46, 95, 95, 101, 113, 95, 95, 35, 111, 112, 97, 113, 117, 101, 6, 235, 6, 99, 97, 99, 104, 101, 100, 9, 42, 95, 102, 114, 111, 122, 101, 110, 95, 105, 109, 112, 111, 114, 116, 108, 105, 98, 46, 77, 111, 100, 117, 108, 101, 83, 112, 101, 99, 46, 99, 97, 99, 104, 101, 100, 35, 111, 112, 97, 113, 117, 101, 6, 236, 6, 112, 97, 114, 101, 110, 116, 9, 42, 95, 102, 114, 111, 122, 101, 110, 95, 105, 109, 112, 111, 114, 116, 108, 105, 98, 46, 77, 111, 100, 117, 108, 101, 83, 112, 101, 99, 46, 112, 97, 114, 101, 110, 116, 35, 111, 112, 97, 113, 117, 101, 6, 237, 12, 104, 97, 115, 95, 108, 111, 99, 97, 116, 105, 111, 110, 9, 48, 95, 102, 114, 111, 122, 101, 110, 95, 105, 109, 112, 111, 114, 116, 108, 105, 98, 46, 77, 111, 100, 117, 108, 101, 83, 112, 101, 99, 46, 104, 97, 115, 95, 108, 111, 99, 97, 116, 105, 111, 110, 35, 111, 112, 97, 113, 117, 101, 6, 238, 21, 95, 95, 115, 116, 97, 116, 105, 99, 95, 97, 116, 116, 114, 105, 98, 117, 116, 101, 115, 95, 95, 4, 0, 0, 24, 6, 240, 8, 95, 95, 100, 105, 99, 116, 95, 95, 4, 0, 0, 25, 6, 242, 11, 95, 95, 119, 101, 97, 107, 114, 101, 102, 95, 95, 4, 0, 0, 26, 6, 243, 8, 95, 95, 104, 97, 115, 104, 95, 95, 0]⟩⟩ 0), (.bool true), (.bool true), (.str (q "") 244), (.int (33) 0), (.str ⟨⟨[6, 286, 10, 95, 95, 109, 111, 100, 117, 108, 101, 95, 95, 6, 284, 26, 95, 102, 114, 111, 122, 101, 110, 95, 105, 109, 112, 111, 114, 116, 108, 105, 98, 95, 101, 120, 116, 101, 114, 110, 97, 108, 6, 287, 15, 95, 95, 102, 105, 114, 115, 116, 108, 105, 110, 101, 110, 111, 95, 95, 4, 285, 0, 1001, 6, 288, 7, 95, 95, 100, 111, 99, 95, 95, 9, 59, 95, 102, 114, 111, 122, 101, 110, 95, 105, 109, 112, 111, 114, 116, 108, 105, 98, 95, 101, 120, 116, 101, 114, 110, 97, 108, 46, 95, 76, 111, 97, 100, 101, 114, 66, 97, 115, 105, 99, 115, 46, 95, 95, 100, 111, 99, 95, 95, 58, 115, 116, 114, 35, 111, 112, 97, 113, 117, 101, 6, 289, 10, 105, 115, 95, 112, 97, 99, 107, 97, 103, 101, 9, 58, 95, 102, 114, 111, 122, 101, 110, 95, 105, 109, 112, 111, 114, 116, 108, 105, 98, 95, 101, 120, 116, 101, 114, 110, 97, 108, 46, 95, 76, 111, 97, 100, 101, 114, 66, 97, 115, 105, 99, 115, 46, 105, 115, 95, 112, 97, 99, 107, 97, 103, 101, 35, 111, 112, 97, 113, 117, 101, 6, 290, 13, 99, 114, 101, 97, 116, 101, 95, 109, 111, 100, 117, 108, 101, 9, 61, 95, 102, 114, 111, 122, 101, 110, 95, 105, 109, 112, 111, 114, 116, 108, 105, 98, 95, 101, 120, 116, 101, 114, 110, 97, 108, 46, 95, 76, 111, 97, 100, 101, 114, 66, 97, 115, 105, 99, 115, 46, 99, 114, 101, 97, 116, 101, 95, 109, 111, 100, 117, 108, 101, 35, 111, 112, 97, 113, 117, 101, 6, 291, 11, 101, 120, 101, 99, 95, 109, 111, 100, 117, 108, 101, 9, 59, 95, 102, 114, 111, 122, 101, 110, 95, 105, 109, 112, 111, 114, 116, 108, 105, 98, 95, 101, 120, 116, 101, 114, 110, 97, 108, 46, 95, 76, 111, 97, 100, 101, 114, 66, 97, 115, 105, 99, 115, 46, 101, 120, 101, 99, 95, 109, 111, 100, 117, 108, 101, 35, 111, 112, 97, 113, 117, 101, 6, 292, 11, 108, 111, 97, 100, 95, 109, 111, 100, 117, 108, 101, 9, 59, 95, 102, 114, 111, 122, 101, 110, 95, 105, 109, 112, 111, 114, 116, 108, 105, 98, 95, 101, 120, 116, 101, 114, 110, 97, 108, 46, 95, 76, 111, 97, 100, 101, 114, 66, 97, 115, 105, 99, 115, 46, 108, 111, 97, 100, 95, 109, 111, 100, 117, 108, 101, 35, 111, 112, 97, 113, 117, 101, 6, 293, 21, 95, 95, 115, 116, 97, 116, 105, 99, 95, 97, 116, 116, 114, 105, 98, 117, 116, 101, 115, 95, 95, 4, 0, 0, 35, 6, 295, 8, 95, 95, 100, 105, 99, 116, 95, 95, 4, 0, 0, 36, 6, 297, 11, 95, 95, 119, 101, 97, 107, 114, 101, 102, 95, 95, 4, 0, 0, 37]⟩⟩ 0), (.bool true), (.bool true), (.str (q "") 298), (.int (38) 0), (.str ⟨⟨[6, 304, 10, 95, 95, 109, 111, 100, 117, 108, 101, 95, 95, 6, 300, 26, 95, 102, 114, 111, 122, 101, 110, 95, 105, 109, 112, 111, 114, 116, 108, 105, 98, 95, 101, 120, 116, 101, 114, 110, 97, 108, 6, 305, 15, 95, 95, 102, 105, 114, 115, 116, 108, 105, 110, 101, 110, 111, 95, 95, 4, 301, 0, 1176, 6, 306, 7, 95, 95, 100, 111, 99, 95, 95, 9, 56, 95, 102, 114, 111, 122, 101, 110, 95, 105, 109, 112, 111, 114, 116, 108, 105, 98, 95, 101, 120, 116, 101, 114, 110, 97, 108, 46, 70, 105, 108, 101, 76, 111, 97, 100, 101, 114, 46, 95, 95, 100, 111, 99, 95, 95, 58, 115, 116, 114, 35, 111, 112, 97, 113, 117, 101, 6, 307, 8, 95, 95, 105, 110, 105, 116, 95, 95, 9, 53, 95, 102, 114, 111, 122, 101, 110, 95, 105, 109, 112, 111, 114, 116, 108, 105, 98, 95, 101, 120, 116, 101, 114, 110, 97, 108, 46, 70, 105, 108, 101, 76, 111, 97, 100, 101, 114, 46, 95, 95, 105, 110, 105, 116, 95, 95, 35, 111, 112, 97, 113, 117, 101, 6, 308, 6, 95, 95, 101, 113, 95, 95, 9, 51, 95, 102, 114, 111, 122, 101, 110, 95, 105, 109, 112, 111, 114, 116, 108, 105, 98, 95, 101, 120, 116, 101, 114, 110, 97, 108, 46, 70, 105, 108, 101, 76, 111, 97, 100, 101, 114, 46, 95, 95, 101, 113, 95, 95, 35, 111, 112, 97, 113, 117, 101, 6, 309, 8, 95, 95, 104, 97, 115, 104, 95, 95, 9, 53, 95, 102, 114, 111, 122, 101, 110, 95, 105, 109, 112, 111, 114, 116, 108, 105, 98, 95, 101, 120, 116, 101, 114, 110, 97, 108, 46, 70, 105, 108, 101, 76, 111, 97, 100, 101, 114, 46, 95, 95, 104, 97, 115, 104, 95, 95, 35, 111, 112, 97, 113, 117, 101, 6, 310, 11, 108, 111, 97, 100, 95, 109, 111, 100, 117, 108, 101, 9, 56, 95, 102, 114, 111, 122, 101, 110, 95, 105, 109, 112, 111, 114, 116, 108, 105, 98, 95, 101, 120, 116, 101, 114, 110, 97, 108, 46, 70, 105, 108, 101, 76, 111, 97, 100, 101, 114, 46, 108, 111, 97, 100, 95, 109, 111, 100, 117, 108, 101, 35, 111, 112, 97, 113, 117, 101, 6, 311, 12, 103, 101, 116, 95, 102, 105, 108, 101, 110, 97, 109, 101, 9, 57, 95, 102, 114, 111, 122, 101, 110, 95, 105, 109, 112, 111, 114, 116, 108, 105, 98, 95, 101, 120, 116, 101, 114, 110, 97, 108, 46, 70, 105, 108, 101, 76, 111, 97, 100, 101, 114, 46, 103, 101, 116, 95, 102, 105, 108, 101, 110, 97, 109, 101, 35, 111, 112, 97, 113, 117, 101, 6, 312, 8, 103, 101, 116, 95, 100, 97, 116, 97, 9, 53, 95, 102, 114, 111, 122, 101, 110, 95, 105, 109, 112, 111, 114, 116, 108, 105, 98, 95, 101, 120, 116, 101, 114, 110, 97, 108, 46, 70, 105, 108, 101, 76, 111, 97, 100, 101, 114, 46, 103, 101, 116, 95, 100, 97, 116, 97, 35, 111, 112, 97, 113, 117, 101, 6, 313, 19, 103, 101, 116, 95, 114, 101, 115, 111, 117, 114, 99, 101, 95, 114, 101, 97, 100, 101, 114, 9, 64, 95, 102, 114, 111, 122, 101, 110, 95, 105, 109, 112, 111, 114, 116, 108, 105, 98, 95, 101, 120, 116, 101, 114, 110, 97, 108, 46, 70, 105, 108, 101, 76, 111, 97, 100, 101, 114, 46, 103, 101, 116, 95, 114, 101, 115, 111, 117, 114, 99, 101, 95, 114, 101, 97, 100, 101, 114, 35, 111, 112, 97, 113, 117, 101, 6, 314, 21, 95, 95, 115, 116, 97, 116, 105, 99, 95, 97, 116, 116, 114, 105, 98, 117, 116, 101, 115, 95, 95, 4, 0, 0, 40, 6, 316, 8, 95, 95, 100, 105, 99, 116, 95, 95, 4, 0, 0, 41, 6, 318, 11, 95, 95, 119, 101, 97, 107, 114, 101, 102, 95, 95, 4, 0, 0, 42]⟩⟩ 0), (.bool true), (.bool true), (.str (q "") 319), (.int (43) 0), (.str ⟨⟨[6, 325, 10, 95, 95, 109, 111, 100, 117, 108, 101, 95, 95, 6, 321, 26, 95, 102, 114, 111, 122, 101, 110, 95, 105, 109, 112, 111, 114, 116, 108, 105, 98, 95, 101, 120, 116, 101, 114, 110, 97, 108, 6, 326, 15, 95, 95, 102, 105, 114, 115, 116, 108, 105, 110, 101, 110, 111, 95, 95, 4, 322, 0, 1296, 6, 327, 7, 95, 95, 100, 111, 99, 95, 95, 9, 65, 95, 102, 114, 111, 122, 101, 110, 95, 105, 109, 112, 111, 114, 116, 108, 105, 98, 95, 101, 120, 116, 101, 114, 110, 97, 108, 46, 69, 120, 116, 101, 110, 115, 105, 111, 110, 70, 105, 108, 101, 76, 111, 97, 100, 101, 114, 46, 95, 95, 100, 111, 99, 95, 95, 58, 115, 116, 114, 35, 111, 112, 97, 113, 117, 101, 6, 328, 8, 95, 95, 105, 110, 105, 116, 95, 95, 9, 62, 95, 102, 114, 111, 122, 101, 110, 95, 105, 109, 112, 111, 114, 116, 108, 105, 98, 95, 101, 120, 116, 101, 114, 110, 97, 108, 46, 69, 120, 116, 101, 110, 115, 105, 111, 110, 70, 105, 108, 101, 76, 111, 97, 100, 101, 114, 46, 95, 95, 105, 110, 105, 116, 95, 95, 35, 111, 112, 97, 113, 117, 101, 6, 329, 6, 95, 95, 101, 113, 95, 95, 9, 60, 95, 102, 114, 111, 122, 101, 110, 95, 105, 109, 112, 111, 114, 116, 108, 105, 98, 95, 101, 120, 116, 101, 114, 110, 97, 108, 46, 69, 120, 116, 101, 110, 115, 105, 111, 110, 70, 105, 108, 101, 76, 111, 97, 100, 101, 114, 46, 95, 95, 101, 113, 95, 95, 35, 111, 112, 97, 113, 117, 101, 6, 330, 8, 95, 95, 104, 97, 115, 104, 95, 95, 9, 62, 95, 102, 114, 111, 122, 101, 110, 95, 105, 109, 112, 111, 114, 116, 108, 105, 98, 95, 101, 120, 116, 101, 114, 110, 97, 108, 46, 69, 120, 116, 101, 110, 115, 105, 111, 110, 70, 105, 108, 101, 76, 111, 97, 100, 101, 114, 46, 95, 95, 104, 97, 115, 104, 95, 95, 35, 111, 112, 97, 113, 117, 101, 6, 331, 13, 99, 114, 101, 97, 116, 101, 95, 109, 111, 100, 117, 108, 101, 9, 67, 95, 102, 114, 111, 122, 101, 110, 95, 105, 109, 112, 111, 114, 116, 108, 105, 98, 95, 101, 120, 116, 101, 114, 110, 97, 108, 46, 69, 120, 116, 101, 110, 115, 105, 111, 110, 70, 105, 108, 101, 76, 111, 97, 100, 101, 114, 46, 99, 114, 101, 97, 116, 101, 95, 109, 111, 100, 117, 108, 101, 35, 111, 112, 97, 113, 117, 101, 6, 332, 11, 101, 120, 101, 99, 95, 109, 111, 100, 117, 108, 101, 9, 65, 95, 102, 114, 111, 122, 101, 110, 95, 105, 109, 112, 111, 114, 116, 108, 105, 98, 95, 101, 120, 116, 101, 114, 110, 97, 108, 46, 69, 120, 116, 101, 110, 115, 105, 111, 110, 70, 105, 108, 101, 76, 111, 97, 100, 101, 114, 46, 101, 120, 101, 99, 95, 109, 111, 100, 117, 108, 101, 35, 111, 112, 97, 113, 117, 101, 6, 333, 10, 105, 115, 95, 112, 97, 99, 107, 97, 103, 101, 9, 64, 95, 102, 114, 111, 122, 101, 110, 95, 105, 109, 112, 111, 114, 116, 108, 105, 98, 95, 101, 120, 116, 101, 114, 110, 97, 108, 46, 69, 120, 116, 101, 110, 115, 105, 111, 110, 70, 105, 108, 101, 76, 111, 97, 100, 101, 114, 46, 105, 115, 95, 112, 97, 99, 107, 97, 103, 101, 35, 111, 112, 97, 113, 117, 101, 6, 334, 8, 103, 101, 116, 95, 99, 111, 100, 101, 9, 62, 95, 102, 114, 111, 122, 101, 110, 95, 105, 109, 112, 111, 114, 116, 108, 105, 98, 95, 101, 120, 116, 101, 114, 110, 97, 108, 46, 69, 120, 116, 101, 110, 115, 105, 111, 110, 70, 105, 108, 101, 76, 111, 97, 100, 101, 114, 46, 103, 101, 116, 95, 99, 111, 100, 101, 35, 111, 112, 97, 113, 117, 101, 6, 335, 10, 103, 101, 116, 95, 115, 111, 117, 114, 99, 101, 9, 64, 95, 102, 114, 111, 122, 101, 110, 95, 105, 109, 112, 111, 114, 116, 108, 105, 98, 95, 101, 120, 116, 101, 114, 110, 97, 108, 46, 69, 120, 116, 101, 110, 115, 105, 111, 110, 70, 105, 108, 101, 76, 111, 97, 100, 101, 114, 46, 103, 101, 116, 95, 115, 111, 117, 114, 99, 101, 35, 111, 112, 97, 113, 117, 101, 6, 336, 12, 103, 101, 116, 95, 102, 105, 108, 101, 110, 97, 109, 101, 9, 66, 95, 102, 114, 111, 122, 101, 110, 95, 105, 109, 112, 111, 114, 116, 108, 105, 98, 95, 101, 120, 116, 101, 114, 110, 97, 108, 46, 69, 120, 116, 101, 110, 115, 105, 111, 110, 70, 105, 108, 101, 76, 111, 97, 100, 101, 114, 46, 103, 101, 116, 95, 102, 105, 108, 101, 110, 97, 109, 101, 35, 111, 112, 97, 113, 117, 101, 6, 337, 21, 95, 95, 115, 116, 97, 116, 105, 99, 95, 97, 116, 116, 114, 105, 98, 117, 116, 101, 115, 95, 95, 4, 0, 0, 45]⟩⟩ 0), (.bool true), (.bool true), (.str (q "") 338)] 4,#[]⟩
def o20 := L ⟨t "list",none,.seq #[] 0,#[]⟩
def o21 := D #[d P "name" 210 (s "_collections" 209),d P "loader" 211 (r 15),d P "origin" 212 (s "built-in" 186),d P "loader_state" 213 n,d P "submodule_search_locations" 214 n,d P "_uninitialized_submodules" 215 (r 20),d P "_set_fileattr" 216 (.bool false),d P "_cached" 217 n,d P "_initializing" 245 (.bool false)] 9
def o22 := D #[d P "__module__" 229 (s "_frozen_importlib" 219),d P "__firstlineno__" 230 (.int (562) 220),d P "__doc__" 231 (b "_frozen_importlib.ModuleSpec.__doc__:str#opaque"),d P "__init__" 232 (b "_frozen_importlib.ModuleSpec.__init__#opaque"),d P "__repr__" 233 (b "_frozen_importlib.ModuleSpec.__repr__#opaque"),d P "__eq__" 234 (b "_frozen_importlib.ModuleSpec.__eq__#opaque"),d P "cached" 235 (b "_frozen_importlib.ModuleSpec.cached#opaque"),d P "parent" 236 (b "_frozen_importlib.ModuleSpec.parent#opaque"),d P "has_location" 237 (b "_frozen_importlib.ModuleSpec.has_location#opaque"),d P "__static_attributes__" 238 (r 24),d P "__dict__" 240 (r 25),d P "__weakref__" 242 (r 26),d P "__hash__" 243 n] 13
def o23 := L ⟨t "type",none,.cls ⟨(q "ModuleSpec"), [t "object"], [r 23,t "object"], 22, (q "ModuleSpec"), true, [], [], false, none, false⟩,#[]⟩
def o24 := T [s "_cached" 221,s "_set_fileattr" 222,s "_uninitialized_submodules" 223,s "loader" 224,s "loader_state" 225,s "name" 226,s "origin" 227,s "submodule_search_locations" 228]
def o25 := F (t "getset_descriptor") [s "__dict__" 239,r 23,b "function.__dict__",b "function.__dict__#set"]
def o26 := F (t "getset_descriptor") [s "__weakref__" 241,r 23,b "ExceptionGroup.__weakref__",n]
def o27 := M (r 23) 21
def o28 := L ⟨n,none,.seq #[(.int (12) 0), (.str ⟨⟨[6, 250, 8, 95, 95, 110, 97, 109, 101, 95, 95, 6, 249, 12, 95, 99, 111, 108, 108, 101, 99, 116, 105, 111, 110, 115, 6, 251, 7, 95, 95, 100, 111, 99, 95, 95, 9, 31, 95, 99, 111, 108, 108, 101, 99, 116, 105, 111, 110, 115, 46, 95, 95, 100, 111, 99, 95, 95, 58, 115, 116, 114, 35, 111, 112, 97, 113, 117, 101, 6, 253, 11, 95, 95, 112, 97, 99, 107, 97, 103, 101, 95, 95, 6, 252, 0, 6, 254, 10, 95, 95, 108, 111, 97, 100, 101, 114, 95, 95, 4, 0, 0, 15, 6, 255, 8, 95, 95, 115, 112, 101, 99, 95, 95, 4, 0, 0, 27, 6, 256, 15, 95, 99, 111, 117, 110, 116, 95, 101, 108, 101, 109, 101, 110, 116, 115, 9, 28, 95, 99, 111, 108, 108, 101, 99, 116, 105, 111, 110, 115, 46, 95, 99, 111, 117, 110, 116, 95, 101, 108, 101, 109, 101, 110, 116, 115, 6, 257, 5, 100, 101, 113, 117, 101, 8, 17, 99, 111, 108, 108, 101, 99, 116, 105, 111, 110, 115, 46, 100, 101, 113, 117, 101, 6, 258, 11, 100, 101, 102, 97, 117, 108, 116, 100, 105, 99, 116, 8, 23, 99, 111, 108, 108, 101, 99, 116, 105, 111, 110, 115, 46, 100, 101, 102, 97, 117, 108, 116, 100, 105, 99, 116, 6, 259, 15, 95, 100, 101, 113, 117, 101, 95, 105, 116, 101, 114, 97, 116, 111, 114, 8, 27, 99, 111, 108, 108, 101, 99, 116, 105, 111, 110, 115, 46, 95, 100, 101, 113, 117, 101, 95, 105, 116, 101, 114, 97, 116, 111, 114, 6, 260, 23, 95, 100, 101, 113, 117, 101, 95, 114, 101, 118, 101, 114, 115, 101, 95, 105, 116, 101, 114, 97, 116, 111, 114, 8, 35, 99, 111, 108, 108, 101, 99, 116, 105, 111, 110, 115, 46, 95, 100, 101, 113, 117, 101, 95, 114, 101, 118, 101, 114, 115, 101, 95, 105, 116, 101, 114, 97, 116, 111, 114, 6, 261, 12, 95, 116, 117, 112, 108, 101, 103, 101, 116, 116, 101, 114, 8, 24, 99, 111, 108, 108, 101, 99, 116, 105, 111, 110, 115, 46, 95, 116, 117, 112, 108, 101, 103, 101, 116, 116, 101, 114, 6, 262, 11, 79, 114, 100, 101, 114, 101, 100, 68, 105, 99, 116, 8, 23, 99, 111, 108, 108, 101, 99, 116, 105, 111, 110, 115, 46, 79, 114, 100, 101, 114, 101, 100, 68, 105, 99, 116]⟩⟩ 0), (.bool true), (.bool false), (.str (q "_collections") 264), (.int (30) 0), (.str ⟨⟨[6, 352, 8, 95, 95, 110, 97, 109, 101, 95, 95, 6, 351, 6, 95, 104, 101, 97, 112, 113, 6, 353, 7, 95, 95, 100, 111, 99, 95, 95, 9, 25, 95, 104, 101, 97, 112, 113, 46, 95, 95, 100, 111, 99, 95, 95, 58, 115, 116, 114, 35, 111, 112, 97, 113, 117, 101, 6, 355, 11, 95, 95, 112, 97, 99, 107, 97, 103, 101, 95, 95, 6, 354, 0, 6, 356, 10, 95, 95, 108, 111, 97, 100, 101, 114, 95, 95, 4, 0, 0, 46, 6, 357, 8, 95, 95, 115, 112, 101, 99, 95, 95, 4, 0, 0, 49, 6, 358, 8, 104, 101, 97, 112, 112, 117, 115, 104, 9, 15, 95, 104, 101, 97, 112, 113, 46, 104, 101, 97, 112, 112, 117, 115, 104, 6, 359, 11, 104, 101, 97, 112, 112, 117, 115, 104, 112, 111, 112, 9, 18, 95, 104, 101, 97, 112, 113, 46, 104, 101, 97, 112, 112, 117, 115, 104, 112, 111, 112, 6, 360, 7, 104, 101, 97, 112, 112, 111, 112, 9, 14, 95, 104, 101, 97, 112, 113, 46, 104, 101, 97, 112, 112, 111, 112, 6, 361, 11, 104, 101, 97, 112, 114, 101, 112, 108, 97, 99, 101, 9, 18, 95, 104, 101, 97, 112, 113, 46, 104, 101, 97, 112, 114, 101, 112, 108, 97, 99, 101, 6, 362, 7, 104, 101, 97, 112, 105, 102, 121, 9, 14, 95, 104, 101, 97, 112, 113, 46, 104, 101, 97, 112, 105, 102, 121, 6, 363, 12, 95, 104, 101, 97, 112, 112, 111, 112, 95, 109, 97, 120, 9, 19, 95, 104, 101, 97, 112, 113, 46, 95, 104, 101, 97, 112, 112, 111, 112, 95, 109, 97, 120, 6, 364, 12, 95, 104, 101, 97, 112, 105, 102, 121, 95, 109, 97, 120, 9, 19, 95, 104, 101, 97, 112, 113, 46, 95, 104, 101, 97, 112, 105, 102, 121, 95, 109, 97, 120, 6, 365, 16, 95, 104, 101, 97, 112, 114, 101, 112, 108, 97, 99, 101, 95, 109, 97, 120, 9, 23, 95, 104, 101, 97, 112, 113, 46, 95, 104, 101, 97, 112, 114, 101, 112, 108, 97, 99, 101, 95, 109, 97, 120, 6, 366, 8, 95, 95, 102, 105, 108, 101, 95, 95, 6, 279, 125, 47, 110, 105, 120, 47, 115, 116, 111, 114, 101, 47, 119, 106, 49, 102, 53, 54, 113, 107, 121, 52, 112, 109, 106, 99, 55, 108, 48, 114, 54, 98, 54, 108, 55, 119, 104, 110, 110, 119, 55, 104, 112, 54, 45, 112, 121, 116, 104, 111, 110, 51, 45, 51, 46, 49, 51, 46, 49, 53, 47, 108, 105, 98, 47, 112, 121, 116, 104, 111, 110, 51, 46, 49, 51, 47, 108, 105, 98, 45, 100, 121, 110, 108, 111, 97, 100, 47, 95, 104, 101, 97, 112, 113, 46, 99, 112, 121, 116, 104, 111, 110, 45, 51, 49, 51, 45, 120, 56, 54, 95, 54, 52, 45, 108, 105, 110, 117, 120, 45, 103, 110, 117, 46, 115, 111, 6, 367, 9, 95, 95, 97, 98, 111, 117, 116, 95, 95, 9, 27, 95, 104, 101, 97, 112, 113, 46, 95, 95, 97, 98, 111, 117, 116, 95, 95, 58, 115, 116, 114, 35, 111, 112, 97, 113, 117, 101]⟩⟩ 0), (.bool true), (.bool false), (.str (q "_heapq") 369)] 1,#[]⟩
def o29 := T [s "heapify" 274,s "heapreplace" 275]
def o30v0 := D #[d P "__name__" 352 (s "_heapq" 351),d P "__doc__" 353 (b "_heapq.__doc__:str#opaque"),d P "__package__" 355 (s "" 354),d P "__loader__" 356 (r 46),d P "__spec__" 357 (r 49),d P "heappush" 358 (b "_heapq.heappush"),d P "heappushpop" 359 (b "_heapq.heappushpop"),d P "heappop" 360 (b "_heapq.heappop"),d P "heapreplace" 361 (b "_heapq.heapreplace"),d P "heapify" 362 (b "_heapq.heapify"),d P "_heappop_max" 363 (b "_heapq._heappop_max"),d P "_heapify_max" 364 (b "_heapq._heapify_max"),d P "_heapreplace_max" 365 (b "_heapq._heapreplace_max"),d P "__file__" 366 (.str ⟨⟨[47,110,105,120,47,115,116,111,114,101,47,119,106,49,102,53,54,113,107,121,52,112,109,106,99,55,108,48,114,54,98,54,108,55,119,104,110,110,119,55,104,112,54,45,112,121,116,104,111,110,51,45,51,46,49,51,46,49,53,47,108,105,98,47,112,121,116,104,111,110,51,46,49,51,47,108,105,98,45,100,121,110,108,111,97,100,47,95,104,101,97,112,113,46,99,112,121,116,104,111,110,45,51,49,51,45,120,56,54,95,54,52,45,108,105,110,117,120,45,103,110,117,46,115,111]⟩⟩ 279),d P "__about__" 367 (b "_heapq.__about__:str#opaque")] 15
def o30 := D #[d P "__name__" 352 (s "_heapq" 351),d P "__doc__" 353 (b "off-the-table:_heapq.__doc__:shared#opaque"),d P "__package__" 355 (s "" 354),d P "__loader__" 356 (b "off-the-table:_heapq.__loader__:shared#opaque"),d P "__spec__" 357 (b "off-the-table:_heapq.__spec__:shared#opaque"),d P "heappush" 358 (b "_heapq.heappush"),d P "heappushpop" 359 (b "_heapq.heappushpop"),d P "heappop" 360 (b "_heapq.heappop"),d P "heapreplace" 361 (b "_heapq.heapreplace"),d P "heapify" 362 (b "_heapq.heapify"),d P "_heappop_max" 363 (b "_heapq._heappop_max"),d P "_heapify_max" 364 (b "_heapq._heapify_max"),d P "_heapreplace_max" 365 (b "_heapq._heapreplace_max"),d P "__file__" 366 (.str ⟨⟨[47,110,105,120,47,115,116,111,114,101,47,119,106,49,102,53,54,113,107,121,52,112,109,106,99,55,108,48,114,54,98,54,108,55,119,104,110,110,119,55,104,112,54,45,112,121,116,104,111,110,51,45,51,46,49,51,46,49,53,47,108,105,98,47,112,121,116,104,111,110,51,46,49,51,47,108,105,98,45,100,121,110,108,111,97,100,47,95,104,101,97,112,113,46,99,112,121,116,104,111,110,45,51,49,51,45,120,56,54,95,54,52,45,108,105,110,117,120,45,103,110,117,46,115,111]⟩⟩ 279),d P "__about__" 367 (b "off-the-table:_heapq.__about__:shared#opaque")] 15
def o31 := M (t "module") 30
def o32 := D #[d P "name" 281 (s "_heapq" 280),d P "path" 282 (.str ⟨⟨[47,110,105,120,47,115,116,111,114,101,47,119,106,49,102,53,54,113,107,121,52,112,109,106,99,55,108,48,114,54,98,54,108,55,119,104,110,110,119,55,104,112,54,45,112,121,116,104,111,110,51,45,51,46,49,51,46,49,53,47,108,105,98,47,112,121,116,104,111,110,51,46,49,51,47,108,105,98,45,100,121,110,108,111,97,100,47,95,104,101,97,112,113,46,99,112,121,116,104,111,110,45,51,49,51,45,120,56,54,95,54,52,45,108,105,110,117,120,45,103,110,117,46,115,111]⟩⟩ 279)] 2
def o33 := D #[d P "__module__" 286 (s "_frozen_importlib_external" 284),d P "__firstlineno__" 287 (.int (1001) 285),d P "__doc__" 288 (b "_frozen_importlib_external._LoaderBasics.__doc__:str#opaque"),d P "is_package" 289 (b "_frozen_importlib_external._LoaderBasics.is_package#opaque"),d P "create_module" 290 (b "_frozen_importlib_external._LoaderBasics.create_module#opaque"),d P "exec_module" 291 (b "_frozen_importlib_external._LoaderBasics.exec_module#opaque"),d P "load_module" 292 (b "_frozen_importlib_external._LoaderBasics.load_module#opaque"),d P "__static_attributes__" 293 (r 35),d P "__dict__" 295 (r 36),d P "__weakref__" 297 (r 37)] 10
def o34 := L ⟨t "type",none,.cls ⟨(q "_LoaderBasics"), [t "object"], [r 34,t "object"], 33, (q "_LoaderBasics"), true, [], [r 44], false, none, false⟩,#[]⟩
def o36 := F (t "getset_descriptor") [s "__dict__" 294,r 34,b "function.__dict__",b "function.__dict__#set"]
def o37 := F (t "getset_descriptor") [s "__weakref__" 296,r 34,b "ExceptionGroup.__weakref__",n]
def o38 := D #[d P "__module__" 304 (s "_frozen_importlib_external" 300),d P "__firstlineno__" 305 (.int (1176) 301),d P "__doc__" 306 (b "_frozen_importlib_external.FileLoader.__doc__:str#opaque"),d P "__init__" 307 (b "_frozen_importlib_external.FileLoader.__init__#opaque"),d P "__eq__" 308 (b "_frozen_importlib_external.FileLoader.__eq__#opaque"),d P "__hash__" 309 (b "_frozen_importlib_external.FileLoader.__hash__#opaque"),d P "load_module" 310 (b "_frozen_importlib_external.FileLoader.load_module#opaque"),d P "get_filename" 311 (b "_frozen_importlib_external.FileLoader.get_filename#opaque"),d P "get_data" 312 (b "_frozen_importlib_external.FileLoader.get_data#opaque"),d P "get_resource_reader" 313 (b "_frozen_importlib_external.FileLoader.get_resource_reader#opaque"),d P "__static_attributes__" 314 (r 40),d P "__dict__" 316 (r 41),d P "__weakref__" 318 (r 42)] 13
def o39 := L ⟨t "type",none,.cls ⟨(q "FileLoader"), [t "object"], [r 39,t "object"], 38, (q "FileLoader"), true, [], [r 44], false, none, false⟩,#[]⟩
def o40 := T [s "name" 302,s "path" 303]
def o41 := F (t "getset_descriptor") [s "__dict__" 315,r 39,b "function.__dict__",b "function.__dict__#set"]
def o42 := F (t "getset_descriptor") [s "__weakref__" 317,r 39,b "ExceptionGroup.__weakref__",n]
def o43 := D #[d P "__module__" 325 (s "_frozen_importlib_external" 321),d P "__firstlineno__" 326 (.int (1296) 322),d P "__doc__" 327 (b "_frozen_importlib_external.ExtensionFileLoader.__doc__:str#opaque"),d P "__init__" 328 (b "_frozen_importlib_external.ExtensionFileLoader.__init__#opaque"),d P "__eq__" 329 (b "_frozen_importlib_external.ExtensionFileLoader.__eq__#opaque"),d P "__hash__" 330 (b "_frozen_importlib_external.ExtensionFileLoader.__hash__#opaque"),d P "create_module" 331 (b "_frozen_importlib_external.ExtensionFileLoader.create_module#opaque"),d P "exec_module" 332 (b "_frozen_importlib_external.ExtensionFileLoader.exec_module#opaque"),d P "is_package" 333 (b "_frozen_importlib_external.ExtensionFileLoader.is_package#opaque"),d P "get_code" 334 (b "_frozen_importlib_external.ExtensionFileLoader.get_code#opaque"),d P "get_source" 335 (b "_frozen_importlib_external.ExtensionFileLoader.get_source#opaque"),d P "get_filename" 336 (b "_frozen_importlib_external.ExtensionFileLoader.get_filename#opaque"),d P "__static_attributes__" 337 (r 45)] 13
def o44 := L ⟨t "type",none,.cls ⟨(q "ExtensionFileLoader"), [r 39,r 34], [r 44,r 39,r 34,t "object"], 43, (q "ExtensionFileLoader"), true, [], [], false, none, false⟩,#[]⟩
def o45 := T [s "name" 323,s "path" 324]
def o46 := M (r 44) 32
def o48 := D #[d P "name" 340 (s "_heapq" 339),d P "loader" 341 (r 46),d P "origin" 342 (.str ⟨⟨[47,110,105,120,47,115,116,111,114,101,47,119,106,49,102,53,54,113,107,121,52,112,109,106,99,55,108,48,114,54,98,54,108,55,119,104,110,110,119,55,104,112,54,45,112,121,116,104,111,110,51,45,51,46,49,51,46,49,53,47,108,105,98,47,112,121,116,104,111,110,51,46,49,51,47,108,105,98,45,100,121,110,108,111,97,100,47,95,104,101,97,112,113,46,99,112,121,116,104,111,110,45,51,49,51,45,120,56,54,95,54,52,45,108,105,110,117,120,45,103,110,117,46,115,111]⟩⟩ 279),d P "loader_state" 343 n,d P "submodule_search_locations" 344 n,d P "_uninitialized_submodules" 345 (r 47),d P "_set_fileattr" 346 (.bool true),d P "_cached" 347 n,d P "_initializing" 348 (.bool false)] 9
def o49 := M (r 23) 48
def o51v17 := F n [I 3,I 0,r 59,I 7,I 0,r 66,I 12,I 0,r 73,I 17,I 0,r 92,I 32,I 0,r 125,I 35,I 0,r 132,I 38,I 0,r 139,I 41,I 0,r 146,I 44,I 0,r 153,I 46,I 0,r 160,I 48,I 0,r 167,I 64,I 0,r 204,I 76,I 0,r 233,I 91,I 0,r 270,I 102,I 0,r 292,I 191,I 0,r 408,I 232,I 0,r 480]
def o51v30 := F n [I 3,I 0,r 59,I 7,I 0,r 66,I 12,I 0,r 73,I 17,I 0,r 92,I 32,I 0,r 125,I 35,I 0,r 132,I 38,I 0,r 139,I 41,I 0,r 146,I 44,I 0,r 153,I 46,I 0,r 160,I 48,I 0,r 167,I 64,I 0,r 204,I 76,I 0,r 233,I 91,I 0,r 270,I 102,I 0,r 292,I 191,I 0,r 408,I 232,I 0,r 480,I 253,I 0,r 531,I 271,I 0,r 576,I 296,I 0,r 621,I 316,I 0,r 655,I 362,I 0,r 662,I 365,I 0,r 669,I 370,I 0,r 676,I 375,I 0,r 683,I 377,I 0,r 697,I 429,I 0,r 744,I 463,I 0,r 796,I 479,I 0,r 833,I 505,I 0,r 877]
def o51 := F n [I 3,I 0,r 59,I 7,I 0,r 66,I 12,I 0,r 73,I 17,I 0,r 92,I 32,I 0,r 125,I 35,I 0,r 132,I 38,I 0,r 139,I 41,I 0,r 146,I 44,I 0,r 153,I 46,I 0,r 160,I 48,I 0,r 167,I 64,I 0,r 204,I 76,I 0,r 233,I 91,I 0,r 270,I 102,I 0,r 292,I 191,I 0,r 408,I 232,I 0,r 480,I 253,I 0,r 531,I 271,I 0,r 576,I 296,I 0,r 621,I 316,I 0,r 655,I 362,I 0,r 662,I 365,I 0,r 669,I 370,I 0,r 676,I 375,I 0,r 683,I 377,I 0,r 697,I 429,I 0,r 744,I 463,I 0,r 796,I 479,I 0,r 833,I 505,I 0,r 877,I 702,I 0,r 1103,I 709,I 0,r 1127,I 711,I 0,r 1140,I 818,I 0,r 1223,I 829,I 0,r 1228,I 834,I 0,r 1233,I 839,I 0,r 1238,I 849,I 0,r 1243]
def o52 := F (t "code") [s "<module>" 380,s "<module>" 381,c 382,I 1,I 0,I 0,I 0,I 0,r 50,.bool false,I 379,r 51,n,n,n,n,I 383,I 1,c 384]
def o53 := L ⟨t "frame",none,.plain,#[some (r 52),some (r 3),some (r 3),none,some (s "__main__" 164),none,some (r 0)]⟩
def o56 := T [s "k" 388]
def o58 := G (stA 2) "_wall" "_wall"
def o59 := C "_wall" "_wall" 385 3 1 0 0 3 (r 54) (r 55) n (r 56) (r 57) (r 58) 389
def o60 := U (stA 2) "_wall" "_wall" "__main__" 164 59
def o63 := T [s "mapping" 397,s "iterable" 398,s "mapping_get" 399,s "elem" 400]
def o65 := G (stA 4) "_count_elements" "_count_elements"
def o66 := C "_count_elements" "_count_elements" 394 7 2 0 0 3 (r 61) (r 62) n (r 63) (r 64) (r 65) 401
def o67 := U (stA 4) "_count_elements" "_count_elements" "cpy313.collections" 392 66
def o68 := T [t "type"]
def o69 := F (t "builtin_function_or_method") [b "type.__prepare__",t "type"]
def o70 := D #[d P "__module__" 413 (s "abc" 404),d P "__qualname__" 415 (s "ABCMeta" 414),d P "__firstlineno__" 417 (.int (12) 416),d P "register" 425 (r 81),d P "__static_attributes__" 426 (r 82)] 5
def o72 := F n [I 14,I 4,r 80]
def o73 := F (t "code") [s "ABCMeta" 408,s "ABCMeta" 409,c 410,I 12,I 0,I 0,I 0,I 0,r 71,.bool false,I 379,r 72,n,n,n,n,I 411,I 12,c 412]
def o74 := L ⟨t "frame",none,.plain,#[some (r 73),some (r 3),some (r 70),none,some (s "abc" 404),none,some (r 0)]⟩
def o77 := T [s "cls" 421,s "subclass" 422]
def o79 := G (inC 6 0) "register" "ABCMeta.register"
def o80 := C "register" "ABCMeta.register" 418 14 2 0 0 3 (r 75) (r 76) n (r 77) (r 78) (r 79) 423
def o81 := U (inC 6 0) "register" "ABCMeta.register" "abc" 404 80
def o83 := D #[d P "__module__" 413 (s "abc" 404),d P "__firstlineno__" 417 (.int (12) 416),d P "register" 425 (r 81),d P "__static_attributes__" 426 (r 82),d P "__doc__" 427 n] 2
def o84 := L ⟨t "type",none,.cls ⟨(q "ABCMeta"), [t "type"], [r 84,t "type",t "object"], 83, (q "ABCMeta"), true, [], [r 117], false, none, false⟩,#[some (r 68),none,some (s "ABCMeta" 406),some (s "ABCMeta" 414),some (b "type.__new__"),some (.bool true)]⟩
def o85 := F (t "super") [r 84,r 84,r 84]
def o86 := F (t "builtin_function_or_method") [b "object.__init_subclass__",r 84]
def o87 := T [r 84]
def o89 := D #[d P "__module__" 439 (s "collections.abc" 430),d P "__qualname__" 441 (s "_ABCLike" 440),d P "__firstlineno__" 443 (.int (17) 442),d P "__instancecheck__" 452 (r 100),d P "__subclasscheck__" 460 (r 107),d P "register" 468 (r 114),d P "__static_attributes__" 469 (r 115)] 7
def o91 := F n [I 19,I 4,r 99,I 25,I 4,r 106,I 30,I 4,r 113]
def o92 := F (t "code") [s "_ABCLike" 434,s "_ABCLike" 435,c 436,I 17,I 0,I 0,I 0,I 0,r 90,.bool false,I 379,r 91,n,n,n,n,I 437,I 17,c 438]
def o93 := L ⟨t "frame",none,.plain,#[some (r 92),some (r 3),some (r 89),none,some (s "collections.abc" 430),none,some (r 0)]⟩
def o96 := T [s "cls" 447,s "instance" 448,s "C" 449]
def o98 := G (inC 8 0) "__instancecheck__" "_ABCLike.__instancecheck__"
def o99 := C "__instancecheck__" "_ABCLike.__instancecheck__" 444 19 2 0 0 3 (r 94) (r 95) n (r 96) (r 97) (r 98) 450
def o100 := U (inC 8 0) "__instancecheck__" "_ABCLike.__instancecheck__" "collections.abc" 430 99
def o103 := T [s "cls" 456,s "C" 457]
def o105 := G (inC 8 1) "__subclasscheck__" "_ABCLike.__subclasscheck__"
def o106 := C "__subclasscheck__" "_ABCLike.__subclasscheck__" 453 25 2 0 0 3 (r 101) (r 102) n (r 103) (r 104) (r 105) 458
def o107 := U (inC 8 1) "__subclasscheck__" "_ABCLike.__subclasscheck__" "collections.abc" 430 106
def o110 := T [s "cls" 464,s "subclass" 465]
def o112 := G (inC 8 2) "register" "_ABCLike.register"
def o113 := C "register" "_ABCLike.register" 461 30 2 0 0 3 (r 108) (r 109) n (r 110) (r 111) (r 112) 466
def o114 := U (inC 8 2) "register" "_ABCLike.register" "collections.abc" 430 113
def o116 := D #[d P "__module__" 439 (s "collections.abc" 430),d P "__firstlineno__" 443 (.int (17) 442),d P "__instancecheck__" 452 (r 100),d P "__subclasscheck__" 460 (r 107),d P "register" 468 (r 114),d P "__static_attributes__" 469 (r 115),d P "__doc__" 470 n] 2
def o117 := L ⟨t "type",none,.cls ⟨(q "_ABCLike"), [r 84], [r 117,r 84,t "type",t "object"], 116, (q "_ABCLike"), true, [], [], false, none, false⟩,#[some (r 87),none,some (s "_ABCLike" 432),some (s "_ABCLike" 440),some (b "type.__new__"),some (.bool true)]⟩
def o118 := F (t "super") [r 117,r 117,r 117]
def o119 := F (t "builtin_function_or_method") [b "object.__init_subclass__",r 117]
def o122 := T [s "C" 476]
def o124 := G (stA 9) "_abc_plain_meta" "_abc_plain_meta"
def o125 := C "_abc_plain_meta" "_abc_plain_meta" 473 32 1 0 0 3 (r 120) (r 121) n (r 122) (r 123) (r 124) 477
def o126 := U (stA 9) "_abc_plain_meta" "_abc_plain_meta" "collections.abc" 430 125
def o129 := T [s "C" 483]
def o131 := G (stA 10) "_abc_has_iter" "_abc_has_iter"
def o132 := C "_abc_has_iter" "_abc_has_iter" 480 35 1 0 0 3 (r 127) (r 128) n (r 129) (r 130) (r 131) 484
def o133 := U (stA 10) "_abc_has_iter" "_abc_has_iter" "collections.abc" 430 132
def o136 := T [s "C" 490]
def o138 := G (stA 11) "_abc_has_len" "_abc_has_len"
def o139 := C "_abc_has_len" "_abc_has_len" 487 38 1 0 0 3 (r 134) (r 135) n (r 136) (r 137) (r 138) 491
def o140 := U (stA 11) "_abc_has_len" "_abc_has_len" "collections.abc" 430 139
def o143 := T [s "C" 497]
def o145 := G (stA 12) "_abc_has_contains" "_abc_has_contains"
def o146 := C "_abc_has_contains" "_abc_has_contains" 494 41 1 0 0 3 (r 141) (r 142) n (r 143) (r 144) (r 145) 498
def o147 := U (stA 12) "_abc_has_contains" "_abc_has_contains" "collections.abc" 430 146
def o150 := T [s "C" 504]
def o152 := G (stA 13) "_abc_is_mappingproxy" "_abc_is_mappingproxy"
def o153 := C "_abc_is_mappingproxy" "_abc_is_mappingproxy" 501 44 1 0 0 3 (r 148) (r 149) n (r 150) (r 151) (r 152) 505
def o154 := U (stA 13) "_abc_is_mappingproxy" "_abc_is_mappingproxy" "collections.abc" 430 153
def o157 := T [s "C" 511]
def o159 := G (stA 14) "_abc_is_builtin_collection" "_abc_is_builtin_collection"
def o160 := C "_abc_is_builtin_collection" "_abc_is_builtin_collection" 508 46 1 0 0 3 (r 155) (r 156) n (r 157) (r 158) (r 159) 512
def o161 := U (stA 14) "_abc_is_builtin_collection" "_abc_is_builtin_collection" "collections.abc" 430 160
def o163 := F (t "builtin_function_or_method") [b "type.__prepare__",r 117]
def o164 := D #[d P "__module__" 522 (s "collections.abc" 430),d P "__qualname__" 524 (s "Iterable" 523),d P "__firstlineno__" 526 (.int (48) 525),d P "__slots__" 527 (r 169),d P "__iter__" 534 (r 176),d P "_abc_kind" 542 (r 183),d P "__class_getitem__" 550 (r 190),d P "__static_attributes__" 551 (r 191)] 8
def o166 := F n [I 51,I 4,r 175,I 55,I 4,r 182,I 61,I 4,r 189]
def o167 := F (t "code") [s "Iterable" 517,s "Iterable" 518,c 519,I 48,I 0,I 0,I 0,I 0,r 165,.bool false,I 379,r 166,n,n,n,n,I 520,I 48,c 521]
def o168 := L ⟨t "frame",none,.plain,#[some (r 167),some (r 3),some (r 164),none,some (s "collections.abc" 430),none,some (r 0)]⟩
def o172 := T [s "self" 531]
def o174 := G (inC 15 1) "__iter__" "Iterable.__iter__"
def o175 := C "__iter__" "Iterable.__iter__" 528 51 1 0 0 35 (r 170) (r 171) n (r 172) (r 173) (r 174) 532
def o176 := U (inC 15 1) "__iter__" "Iterable.__iter__" "collections.abc" 430 175
def o179 := T [s "cls" 538,s "C" 539]
def o181 := G (inC 15 2) "_abc_kind" "Iterable._abc_kind"
def o182 := C "_abc_kind" "Iterable._abc_kind" 535 55 2 0 0 3 (r 177) (r 178) n (r 179) (r 180) (r 181) 540
def o183 := U (inC 15 2) "_abc_kind" "Iterable._abc_kind" "collections.abc" 430 182
def o186 := T [s "cls" 546,s "item" 547]
def o188 := G (inC 15 3) "__class_getitem__" "Iterable.__class_getitem__"
def o189 := C "__class_getitem__" "Iterable.__class_getitem__" 543 61 2 0 0 3 (r 184) (r 185) n (r 186) (r 187) (r 188) 548
def o190 := U (inC 15 3) "__class_getitem__" "Iterable.__class_getitem__" "collections.abc" 430 189
def o193 := D #[d P "__module__" 522 (s "collections.abc" 430),d P "__firstlineno__" 526 (.int (48) 525),d P "__slots__" 527 (r 169),d P "__iter__" 534 (r 176),d P "_abc_kind" 542 (r 183),d P "__class_getitem__" 550 (r 195),d P "__static_attributes__" 551 (r 191),d P "__doc__" 553 n,d P "__abstractmethods__" 560 (r 198)] 3
def o194 := L ⟨r 117,none,.cls ⟨(q "Iterable"), [t "object"], [r 194,t "object"], 193, (q "Iterable"), false, [], [r 283], true, none, false⟩,#[none,none,some (s "Iterable" 515),some (s "Iterable" 523),some (b "object.__new__"),some (.bool false)]⟩
def o195 := F (t "classmethod") [r 190]
def o196 := F (t "super") [r 194,r 194,r 194]
def o197 := F (t "builtin_function_or_method") [b "object.__init_subclass__",r 194]
def o198 := T [s "__iter__" 556]
def o201 := D #[d P "__module__" 568 (s "collections.abc" 430),d P "__qualname__" 570 (s "Sized" 569),d P "__firstlineno__" 572 (.int (64) 571),d P "__slots__" 573 (r 206),d P "__len__" 580 (r 213),d P "_abc_kind" 588 (r 220),d P "__static_attributes__" 589 (r 221)] 7
def o203 := F n [I 67,I 4,r 212,I 70,I 4,r 219]
def o204 := F (t "code") [s "Sized" 563,s "Sized" 564,c 565,I 64,I 0,I 0,I 0,I 0,r 202,.bool false,I 379,r 203,n,n,n,n,I 566,I 64,c 567]
def o205 := L ⟨t "frame",none,.plain,#[some (r 204),some (r 3),some (r 201),none,some (s "collections.abc" 430),none,some (r 0)]⟩
def o209 := T [s "self" 577]
def o211 := G (inC 17 1) "__len__" "Sized.__len__"
def o212 := C "__len__" "Sized.__len__" 574 67 1 0 0 3 (r 207) (r 208) n (r 209) (r 210) (r 211) 578
def o213 := U (inC 17 1) "__len__" "Sized.__len__" "collections.abc" 430 212
def o216 := T [s "cls" 584,s "C" 585]
def o218 := G (inC 17 2) "_abc_kind" "Sized._abc_kind"
def o219 := C "_abc_kind" "Sized._abc_kind" 581 70 2 0 0 3 (r 214) (r 215) n (r 216) (r 217) (r 218) 586
def o220 := U (inC 17 2) "_abc_kind" "Sized._abc_kind" "collections.abc" 430 219
def o223 := D #[d P "__module__" 568 (s "collections.abc" 430),d P "__firstlineno__" 572 (.int (64) 571),d P "__slots__" 573 (r 206),d P "__len__" 580 (r 213),d P "_abc_kind" 588 (r 220),d P "__static_attributes__" 589 (r 221),d P "__doc__" 590 n,d P "__abstractmethods__" 597 (r 227)] 3
def o224 := L ⟨r 117,none,.cls ⟨(q "Sized"), [t "object"], [r 224,t "object"], 223, (q "Sized"), false, [], [r 283,r 521], true, none, false⟩,#[none,none,some (s "Sized" 561),some (s "Sized" 569),some (b "object.__new__"),some (.bool false)]⟩
def o225 := F (t "super") [r 224,r 224,r 224]
def o226 := F (t "builtin_function_or_method") [b "object.__init_subclass__",r 224]
def o227 := T [s "__len__" 593]
def o230 := D #[d P "__module__" 605 (s "collections.abc" 430),d P "__qualname__" 607 (s "Container" 606),d P "__firstlineno__" 609 (.int (76) 608),d P "__slots__" 610 (r 235),d P "__contains__" 618 (r 242),d P "_abc_kind" 626 (r 249),d P "__class_getitem__" 634 (r 256),d P "__static_attributes__" 635 (r 257)] 8
def o232 := F n [I 79,I 4,r 241,I 82,I 4,r 248,I 88,I 4,r 255]
def o233 := F (t "code") [s "Container" 600,s "Container" 601,c 602,I 76,I 0,I 0,I 0,I 0,r 231,.bool false,I 379,r 232,n,n,n,n,I 603,I 76,c 604]
def o234 := L ⟨t "frame",none,.plain,#[some (r 233),some (r 3),some (r 230),none,some (s "collections.abc" 430),none,some (r 0)]⟩
def o238 := T [s "self" 614,s "x" 615]
def o240 := G (inC 19 1) "__contains__" "Container.__contains__"
def o241 := C "__contains__" "Container.__contains__" 611 79 2 0 0 3 (r 236) (r 237) n (r 238) (r 239) (r 240) 616
def o242 := U (inC 19 1) "__contains__" "Container.__contains__" "collections.abc" 430 241
def o245 := T [s "cls" 622,s "C" 623]
def o247 := G (inC 19 2) "_abc_kind" "Container._abc_kind"
def o248 := C "_abc_kind" "Container._abc_kind" 619 82 2 0 0 3 (r 243) (r 244) n (r 245) (r 246) (r 247) 624
def o249 := U (inC 19 2) "_abc_kind" "Container._abc_kind" "collections.abc" 430 248
def o252 := T [s "cls" 630,s "item" 631]
def o254 := G (inC 19 3) "__class_getitem__" "Container.__class_getitem__"
def o255 := C "__class_getitem__" "Container.__class_getitem__" 627 88 2 0 0 3 (r 250) (r 251) n (r 252) (r 253) (r 254) 632
def o256 := U (inC 19 3) "__class_getitem__" "Container.__class_getitem__" "collections.abc" 430 255
def o259 := D #[d P "__module__" 605 (s "collections.abc" 430),d P "__firstlineno__" 609 (.int (76) 608),d P "__slots__" 610 (r 235),d P "__contains__" 618 (r 242),d P "_abc_kind" 626 (r 249),d P "__class_getitem__" 634 (r 261),d P "__static_attributes__" 635 (r 257),d P "__doc__" 637 n,d P "__abstractmethods__" 644 (r 264)] 3
def o260 := L ⟨r 117,none,.cls ⟨(q "Container"), [t "object"], [r 260,t "object"], 259, (q "Container"), false, [], [r 283], true, none, false⟩,#[none,none,some (s "Container" 598),some (s "Container" 606),some (b "object.__new__"),some (.bool false)]⟩
def o261 := F (t "classmethod") [r 256]
def o262 := F (t "super") [r 260,r 260,r 260]
def o263 := F (t "builtin_function_or_method") [b "object.__init_subclass__",r 260]
def o264 := T [s "__contains__" 640]
def o265 := T [r 224,r 194,r 260]
def o267 := D #[d P "__module__" 652 (s "collections.abc" 430),d P "__qualname__" 654 (s "Collection" 653),d P "__firstlineno__" 656 (.int (91) 655),d P "__slots__" 657 (r 272),d P "_abc_kind" 665 (r 279),d P "__static_attributes__" 666 (r 280)] 6
def o269 := F n [I 94,I 4,r 278]
def o270 := F (t "code") [s "Collection" 647,s "Collection" 648,c 649,I 91,I 0,I 0,I 0,I 0,r 268,.bool false,I 379,r 269,n,n,n,n,I 650,I 91,c 651]
def o271 := L ⟨t "frame",none,.plain,#[some (r 270),some (r 3),some (r 267),none,some (s "collections.abc" 430),none,some (r 0)]⟩
def o275 := T [s "cls" 661,s "C" 662]
def o277 := G (inC 21 1) "_abc_kind" "Collection._abc_kind"
def o278 := C "_abc_kind" "Collection._abc_kind" 658 94 2 0 0 3 (r 273) (r 274) n (r 275) (r 276) (r 277) 663
def o279 := U (inC 21 1) "_abc_kind" "Collection._abc_kind" "collections.abc" 430 278
def o282 := D #[d P "__module__" 652 (s "collections.abc" 430),d P "__firstlineno__" 656 (.int (91) 655),d P "__slots__" 657 (r 272),d P "_abc_kind" 665 (r 279),d P "__static_attributes__" 666 (r 280),d P "__doc__" 667 n,d P "__abstractmethods__" 676 (r 286)] 3
def o283v3 := L ⟨r 117,none,.cls ⟨(q "Collection"), [r 224,r 194,r 260], [r 283,r 224,r 194,r 260,t "object"], 282, (q "Collection"), false, [], [r 399,r 471], true, none, false⟩,#[some (r 265),none,some (s "Collection" 645),some (s "Collection" 653),some (b "object.__new__"),some (.bool false)]⟩
def o283 := L ⟨r 117,none,.cls ⟨(q "Collection"), [r 224,r 194,r 260], [r 283,r 224,r 194,r 260,t "object"], 282, (q "Collection"), false, [], [r 399,r 471,r 648], true, none, false⟩,#[some (r 265),none,some (s "Collection" 645),some (s "Collection" 653),some (b "object.__new__"),some (.bool false)]⟩
def o284 := F (t "super") [r 283,r 283,r 283]
def o285 := F (t "builtin_function_or_method") [b "object.__init_subclass__",r 283]
def o286 := T [s "__contains__" 670,s "__iter__" 671,s "__len__" 672]
def o287 := T [r 283]
def o289 := D #[d P "__module__" 684 (s "collections.abc" 430),d P "__qualname__" 686 (s "Set" 685),d P "__firstlineno__" 688 (.int (102) 687),d P "__slots__" 689 (r 294),d P "__le__" 698 (r 301),d P "__lt__" 706 (r 308),d P "__gt__" 714 (r 315),d P "__ge__" 723 (r 322),d P "__eq__" 731 (r 329),d P "_from_iterable" 751 (r 338),d P "__and__" 760 (r 346),d P "__rand__" 761 (r 346),d P "isdisjoint" 769 (r 353),d P "__or__" 778 (r 360),d P "__ror__" 779 (r 360),d P "__sub__" 788 (r 367),d P "__rsub__" 797 (r 374),d P "__xor__" 805 (r 381),d P "__rxor__" 806 (r 381),d P "_hash" 813 (r 388),d P "_abc_kind" 821 (r 395),d P "__static_attributes__" 822 (r 396)] 22
def o291 := F n [I 105,I 4,r 300,I 115,I 4,r 307,I 120,I 4,r 314,I 125,I 4,r 321,I 135,I 4,r 328,I 141,I 4,r 335,I 144,I 4,r 345,I 150,I 4,r 352,I 153,I 4,r 359,I 160,I 4,r 366,I 167,I 4,r 373,I 174,I 4,r 380,I 182,I 4,r 387,I 185,I 4,r 394]
def o292 := F (t "code") [s "Set" 679,s "Set" 680,c 681,I 102,I 0,I 0,I 0,I 0,r 290,.bool false,I 379,r 291,n,n,n,n,I 682,I 102,c 683]
def o293 := L ⟨t "frame",none,.plain,#[some (r 292),some (r 3),some (r 289),none,some (s "collections.abc" 430),none,some (r 0)]⟩
def o297 := T [s "self" 693,s "other" 694,s "elem" 695]
def o299 := G (inC 23 1) "__le__" "Set.__le__"
def o300 := C "__le__" "Set.__le__" 690 105 2 0 0 3 (r 295) (r 296) n (r 297) (r 298) (r 299) 696
def o301 := U (inC 23 1) "__le__" "Set.__le__" "collections.abc" 430 300
def o304 := T [s "self" 702,s "other" 703]
def o306 := G (inC 23 2) "__lt__" "Set.__lt__"
def o307 := C "__lt__" "Set.__lt__" 699 115 2 0 0 3 (r 302) (r 303) n (r 304) (r 305) (r 306) 704
def o308 := U (inC 23 2) "__lt__" "Set.__lt__" "collections.abc" 430 307
def o311 := T [s "self" 710,s "other" 711]
def o313 := G (inC 23 3) "__gt__" "Set.__gt__"
def o314 := C "__gt__" "Set.__gt__" 707 120 2 0 0 3 (r 309) (r 310) n (r 311) (r 312) (r 313) 712
def o315 := U (inC 23 3) "__gt__" "Set.__gt__" "collections.abc" 430 314
def o318 := T [s "self" 718,s "other" 719,s "elem" 720]
def o320 := G (inC 23 4) "__ge__" "Set.__ge__"
def o321 := C "__ge__" "Set.__ge__" 715 125 2 0 0 3 (r 316) (r 317) n (r 318) (r 319) (r 320) 721
def o322 := U (inC 23 4) "__ge__" "Set.__ge__" "collections.abc" 430 321
def o325 := T [s "self" 727,s "other" 728]
def o327 := G (inC 23 5) "__eq__" "Set.__eq__"
def o328 := C "__eq__" "Set.__eq__" 724 135 2 0 0 3 (r 323) (r 324) n (r 325) (r 326) (r 327) 729
def o329 := U (inC 23 5) "__eq__" "Set.__eq__" "collections.abc" 430 328
def o332 := T [s "cls" 735,s "it" 736]
def o334 := G (inC 23 6) "_from_iterable" "Set._from_iterable"
def o335 := C "_from_iterable" "Set._from_iterable" 732 140 2 0 0 3 (r 330) (r 331) n (r 332) (r 333) (r 334) 737
def o336 := L ⟨t "function",none,.func (fd (inC 23 6) "_from_iterable" "Set._from_iterable" 3 [] .none .none .none (.str (q "collections.abc") 430) (some 339) (.ref 335) .none 0),#[]⟩
def o337 := D #[d P "__module__" 740 (s "collections.abc" 430),d P "__name__" 743 (s "_from_iterable" 742),d P "__qualname__" 746 (s "Set._from_iterable" 745),d P "__doc__" 748 n,d P "__annotations__" 750 (r 339)] 5
def o338 := L ⟨t "classmethod",some 337,.fields #[r 336,.bool false],#[]⟩
def o342 := T [s "self" 755,s "other" 756]
def o343 := T [s "self" 757]
def o344 := G (inC 23 7) "__and__" "Set.__and__"
def o345 := C "__and__" "Set.__and__" 752 144 2 0 0 3 (r 340) (r 341) n (r 342) (r 343) (r 344) 758
def o346 := U (inC 23 7) "__and__" "Set.__and__" "collections.abc" 430 345
def o349 := T [s "self" 765,s "other" 766]
def o351 := G (inC 23 9) "isdisjoint" "Set.isdisjoint"
def o352 := C "isdisjoint" "Set.isdisjoint" 762 150 2 0 0 3 (r 347) (r 348) n (r 349) (r 350) (r 351) 767
def o353 := U (inC 23 9) "isdisjoint" "Set.isdisjoint" "collections.abc" 430 352
def o356 := T [s "self" 773,s "other" 774,s "chain" 775]
def o358 := G (inC 23 10) "__or__" "Set.__or__"
def o359 := C "__or__" "Set.__or__" 770 153 2 0 0 3 (r 354) (r 355) n (r 356) (r 357) (r 358) 776
def o360 := U (inC 23 10) "__or__" "Set.__or__" "collections.abc" 430 359
def o363 := T [s "self" 783,s "other" 784]
def o364 := T [s "other" 785]
def o365 := G (inC 23 12) "__sub__" "Set.__sub__"
def o366 := C "__sub__" "Set.__sub__" 780 160 2 0 0 3 (r 361) (r 362) n (r 363) (r 364) (r 365) 786
def o367 := U (inC 23 12) "__sub__" "Set.__sub__" "collections.abc" 430 366
def o370 := T [s "self" 792,s "other" 793]
def o371 := T [s "self" 794]
def o372 := G (inC 23 13) "__rsub__" "Set.__rsub__"
def o373 := C "__rsub__" "Set.__rsub__" 789 167 2 0 0 3 (r 368) (r 369) n (r 370) (r 371) (r 372) 795
def o374 := U (inC 23 13) "__rsub__" "Set.__rsub__" "collections.abc" 430 373
def o377 := T [s "self" 801,s "other" 802]
def o379 := G (inC 23 14) "__xor__" "Set.__xor__"
def o380 := C "__xor__" "Set.__xor__" 798 174 2 0 0 3 (r 375) (r 376) n (r 377) (r 378) (r 379) 803
def o381 := U (inC 23 14) "__xor__" "Set.__xor__" "collections.abc" 430 380
def o384 := T [s "self" 810]
def o386 := G (inC 23 16) "_hash" "Set._hash"
def o387 := C "_hash" "Set._hash" 807 182 1 0 0 3 (r 382) (r 383) n (r 384) (r 385) (r 386) 811
def o388 := U (inC 23 16) "_hash" "Set._hash" "collections.abc" 430 387
def o391 := T [s "cls" 817,s "C" 818]
def o393 := G (inC 23 17) "_abc_kind" "Set._abc_kind"
def o394 := C "_abc_kind" "Set._abc_kind" 814 185 2 0 0 3 (r 389) (r 390) n (r 391) (r 392) (r 393) 819
def o395 := U (inC 23 17) "_abc_kind" "Set._abc_kind" "collections.abc" 430 394
def o398 := D #[d P "__module__" 684 (s "collections.abc" 430),d P "__firstlineno__" 688 (.int (102) 687),d P "__slots__" 689 (r 294),d P "__le__" 698 (r 301),d P "__lt__" 706 (r 308),d P "__gt__" 714 (r 315),d P "__ge__" 723 (r 322),d P "__eq__" 731 (r 329),d P "_from_iterable" 751 (r 338),d P "__and__" 760 (r 346),d P "__rand__" 761 (r 346),d P "isdisjoint" 769 (r 353),d P "__or__" 778 (r 360),d P "__ror__" 779 (r 360),d P "__sub__" 788 (r 367),d P "__rsub__" 797 (r 374),d P "__xor__" 805 (r 381),d P "__rxor__" 806 (r 381),d P "_hash" 813 (r 388),d P "_abc_kind" 821 (r 395),d P "__static_attributes__" 822 (r 396),d P "__doc__" 823 n,d P "__hash__" 824 n,d P "__abstractmethods__" 833 (r 402)] 4
def o399v1 := L ⟨r 117,none,.cls ⟨(q "Set"), [r 283], [r 399,r 283,r 224,r 194,r 260,t "object"], 398, (q "Set"), false, [], [], true, none, false⟩,#[some (r 287),none,some (s "Set" 677),some (s "Set" 685),some (b "object.__new__"),some (.bool false)]⟩
def o399 := L ⟨r 117,none,.cls ⟨(q "Set"), [r 283], [r 399,r 283,r 224,r 194,r 260,t "object"], 398, (q "Set"), false, [], [r 568,r 613], true, none, false⟩,#[some (r 287),none,some (s "Set" 677),some (s "Set" 685),some (b "object.__new__"),some (.bool false)]⟩
def o400 := F (t "super") [r 399,r 399,r 399]
def o401 := F (t "builtin_function_or_method") [b "object.__init_subclass__",r 399]
def o402 := T [s "__contains__" 827,s "__iter__" 828,s "__len__" 829]
def o405 := D #[d P "__module__" 841 (s "collections.abc" 430),d P "__qualname__" 843 (s "Mapping" 842),d P "__firstlineno__" 845 (.int (191) 844),d P "__slots__" 846 (r 410),d P "__getitem__" 854 (r 417),d P "get" 863 (r 425),d P "__contains__" 871 (r 432),d P "keys" 878 (r 439),d P "items" 885 (r 446),d P "values" 892 (r 453),d P "__eq__" 900 (r 460),d P "__reversed__" 901 n,d P "_abc_kind" 909 (r 467),d P "__static_attributes__" 910 (r 468)] 14
def o407 := F n [I 194,I 4,r 416,I 197,I 4,r 424,I 203,I 4,r 431,I 211,I 4,r 438,I 214,I 4,r 445,I 217,I 4,r 452,I 220,I 4,r 459,I 226,I 4,r 466]
def o408 := F (t "code") [s "Mapping" 836,s "Mapping" 837,c 838,I 191,I 0,I 0,I 0,I 0,r 406,.bool false,I 379,r 407,n,n,n,n,I 839,I 191,c 840]
def o409 := L ⟨t "frame",none,.plain,#[some (r 408),some (r 3),some (r 405),none,some (s "collections.abc" 430),none,some (r 0)]⟩
def o413 := T [s "self" 850,s "key" 851]
def o415 := G (inC 25 1) "__getitem__" "Mapping.__getitem__"
def o416 := C "__getitem__" "Mapping.__getitem__" 847 194 2 0 0 3 (r 411) (r 412) n (r 413) (r 414) (r 415) 852
def o417 := U (inC 25 1) "__getitem__" "Mapping.__getitem__" "collections.abc" 430 416
def o421 := T [s "self" 858,s "key" 859,s "default" 860]
def o423 := G (inC 25 2) "get" "Mapping.get"
def o424 := C "get" "Mapping.get" 855 197 3 0 0 3 (r 419) (r 420) n (r 421) (r 422) (r 423) 861
def o425 := L ⟨t "function",none,.func (fd (inC 25 2) "get" "Mapping.get" 3 [] (.ref 418) .none .none (.str (q "collections.abc") 430) none (.ref 424) .none 0),#[]⟩
def o428 := T [s "self" 867,s "key" 868]
def o430 := G (inC 25 3) "__contains__" "Mapping.__contains__"
def o431 := C "__contains__" "Mapping.__contains__" 864 203 2 0 0 3 (r 426) (r 427) n (r 428) (r 429) (r 430) 869
def o432 := U (inC 25 3) "__contains__" "Mapping.__contains__" "collections.abc" 430 431
def o435 := T [s "self" 875]
def o437 := G (inC 25 4) "keys" "Mapping.keys"
def o438 := C "keys" "Mapping.keys" 872 211 1 0 0 3 (r 433) (r 434) n (r 435) (r 436) (r 437) 876
def o439 := U (inC 25 4) "keys" "Mapping.keys" "collections.abc" 430 438
def o442 := T [s "self" 882]
def o444 := G (inC 25 5) "items" "Mapping.items"
def o445 := C "items" "Mapping.items" 879 214 1 0 0 3 (r 440) (r 441) n (r 442) (r 443) (r 444) 883
def o446 := U (inC 25 5) "items" "Mapping.items" "collections.abc" 430 445
def o449 := T [s "self" 889]
def o451 := G (inC 25 6) "values" "Mapping.values"
def o452 := C "values" "Mapping.values" 886 217 1 0 0 3 (r 447) (r 448) n (r 449) (r 450) (r 451) 890
def o453 := U (inC 25 6) "values" "Mapping.values" "collections.abc" 430 452
def o456 := T [s "self" 896,s "other" 897]
def o458 := G (inC 25 7) "__eq__" "Mapping.__eq__"
def o459 := C "__eq__" "Mapping.__eq__" 893 220 2 0 0 3 (r 454) (r 455) n (r 456) (r 457) (r 458) 898
def o460 := U (inC 25 7) "__eq__" "Mapping.__eq__" "collections.abc" 430 459
def o463 := T [s "cls" 905,s "C" 906]
def o465 := G (inC 25 9) "_abc_kind" "Mapping._abc_kind"
def o466 := C "_abc_kind" "Mapping._abc_kind" 902 226 2 0 0 3 (r 461) (r 462) n (r 463) (r 464) (r 465) 907
def o467 := U (inC 25 9) "_abc_kind" "Mapping._abc_kind" "collections.abc" 430 466
def o470 := D #[d P "__module__" 841 (s "collections.abc" 430),d P "__firstlineno__" 845 (.int (191) 844),d P "__slots__" 846 (r 410),d P "__getitem__" 854 (r 417),d P "get" 863 (r 425),d P "__contains__" 871 (r 432),d P "keys" 878 (r 439),d P "items" 885 (r 446),d P "values" 892 (r 453),d P "__eq__" 900 (r 460),d P "__reversed__" 901 n,d P "_abc_kind" 909 (r 467),d P "__static_attributes__" 910 (r 468),d P "__doc__" 911 n,d P "__hash__" 912 n,d P "__abstractmethods__" 921 (r 474)] 4
def o471 := L ⟨r 117,none,.cls ⟨(q "Mapping"), [r 283], [r 471,r 283,r 224,r 194,r 260,t "object"], 470, (q "Mapping"), false, [], [], true, none, false⟩,#[some (r 403),none,some (s "Mapping" 834),some (s "Mapping" 842),some (b "object.__new__"),some (.bool false)]⟩
def o472 := F (t "super") [r 471,r 471,r 471]
def o473 := F (t "builtin_function_or_method") [b "object.__init_subclass__",r 471]
def o474 := T [s "__getitem__" 915,s "__iter__" 916,s "__len__" 917]
def o475 := T [r 224]
def o477 := D #[d P "__module__" 929 (s "collections.abc" 430),d P "__qualname__" 931 (s "MappingView" 930),d P "__firstlineno__" 933 (.int (232) 932),d P "__slots__" 935 (r 482),d P "__init__" 943 (r 489),d P "__len__" 950 (r 496),d P "__repr__" 958 (r 503),d P "_abc_kind" 966 (r 510),d P "__class_getitem__" 974 (r 517),d P "__static_attributes__" 976 (r 518)] 10
def o479 := F n [I 235,I 4,r 488,I 238,I 4,r 495,I 241,I 4,r 502,I 245,I 4,r 509,I 251,I 4,r 516]
def o480 := F (t "code") [s "MappingView" 924,s "MappingView" 925,c 926,I 232,I 0,I 0,I 0,I 0,r 478,.bool false,I 379,r 479,n,n,n,n,I 927,I 232,c 928]
def o481 := L ⟨t "frame",none,.plain,#[some (r 480),some (r 3),some (r 477),none,some (s "collections.abc" 430),none,some (r 0)]⟩
def o482 := T [s "_mapping" 934]
def o485 := T [s "self" 939,s "mapping" 940]
def o487 := G (inC 27 1) "__init__" "MappingView.__init__"
def o488 := C "__init__" "MappingView.__init__" 936 235 2 0 0 3 (r 483) (r 484) n (r 485) (r 486) (r 487) 941
def o489 := U (inC 27 1) "__init__" "MappingView.__init__" "collections.abc" 430 488
def o492 := T [s "self" 947]
def o494 := G (inC 27 2) "__len__" "MappingView.__len__"
def o495 := C "__len__" "MappingView.__len__" 944 238 1 0 0 3 (r 490) (r 491) n (r 492) (r 493) (r 494) 948
def o496 := U (inC 27 2) "__len__" "MappingView.__len__" "collections.abc" 430 495
def o499 := T [s "self" 954,s "name" 955]
def o501 := G (inC 27 3) "__repr__" "MappingView.__repr__"
def o502 := C "__repr__" "MappingView.__repr__" 951 241 1 0 0 3 (r 497) (r 498) n (r 499) (r 500) (r 501) 956
def o503 := U (inC 27 3) "__repr__" "MappingView.__repr__" "collections.abc" 430 502
def o506 := T [s "cls" 962,s "C" 963]
def o508 := G (inC 27 4) "_abc_kind" "MappingView._abc_kind"
def o509 := C "_abc_kind" "MappingView._abc_kind" 959 245 2 0 0 3 (r 504) (r 505) n (r 506) (r 507) (r 508) 964
def o510 := U (inC 27 4) "_abc_kind" "MappingView._abc_kind" "collections.abc" 430 509
def o513 := T [s "cls" 970,s "item" 971]
def o515 := G (inC 27 5) "__class_getitem__" "MappingView.__class_getitem__"
def o516 := C "__class_getitem__" "MappingView.__class_getitem__" 967 251 2 0 0 3 (r 511) (r 512) n (r 513) (r 514) (r 515) 972
def o517 := U (inC 27 5) "__class_getitem__" "MappingView.__class_getitem__" "collections.abc" 430 516
def o518 := T [s "_mapping" 975]
def o519 := L ⟨t "list",none,.seq #[s "_mapping" 934] 1,#[]⟩
def o520 := D #[d P "__module__" 929 (s "collections.abc" 430),d P "__firstlineno__" 933 (.int (232) 932),d P "__slots__" 935 (r 482),d P "__init__" 943 (r 489),d P "__len__" 950 (r 496),d P "__repr__" 958 (r 503),d P "_abc_kind" 966 (r 510),d P "__class_getitem__" 974 (r 522),d P "__static_attributes__" 976 (r 518),d P "_mapping" 979 (r 523),d P "__doc__" 980 n] 3
def o521v0 := L ⟨r 117,none,.cls ⟨(q "MappingView"), [r 224], [r 521,r 224,t "object"], 520, (q "MappingView"), false, [(q "_mapping")], [], false, none, false⟩,#[some (r 475),none,some (s "MappingView" 922),some (s "MappingView" 930),some (b "object.__new__"),some (.bool false)]⟩
def o521 := L ⟨r 117,none,.cls ⟨(q "MappingView"), [r 224], [r 521,r 224,t "object"], 520, (q "MappingView"), false, [(q "_mapping")], [r 568,r 613,r 648], false, none, false⟩,#[some (r 475),none,some (s "MappingView" 922),some (s "MappingView" 930),some (b "object.__new__"),some (.bool false)]⟩
def o522 := F (t "classmethod") [r 517]
def o523 := F (t "member_descriptor") [s "_mapping" 978,r 521,b "proto.slot",b "proto.slot#set",I 0]
def o524 := F (t "super") [r 521,r 521,r 521]
def o525 := F (t "builtin_function_or_method") [b "object.__init_subclass__",r 521]
def o526 := T [r 521,r 399]
def o528 := D #[d P "__module__" 990 (s "collections.abc" 430),d P "__qualname__" 992 (s "KeysView" 991),d P "__firstlineno__" 994 (.int (253) 993),d P "__slots__" 995 (r 533),d P "_from_iterable" 1015 (r 542),d P "__contains__" 1023 (r 550),d P "__iter__" 1030 (r 557),d P "_abc_kind" 1038 (r 564),d P "__static_attributes__" 1039 (r 565)] 9
def o530 := F n [I 257,I 4,r 539,I 260,I 4,r 549,I 263,I 4,r 556,I 266,I 4,r 563]
def o531 := F (t "code") [s "KeysView" 985,s "KeysView" 986,c 987,I 253,I 0,I 0,I 0,I 0,r 529,.bool false,I 379,r 530,n,n,n,n,I 988,I 253,c 989]
def o532 := L ⟨t "frame",none,.plain,#[some (r 531),some (r 3),some (r 528),none,some (s "collections.abc" 430),none,some (r 0)]⟩
def o536 := T [s "cls" 999,s "it" 1000]
def o538 := G (inC 28 1) "_from_iterable" "KeysView._from_iterable"
def o539 := C "_from_iterable" "KeysView._from_iterable" 996 256 2 0 0 3 (r 534) (r 535) n (r 536) (r 537) (r 538) 1001
def o540 := L ⟨t "function",none,.func (fd (inC 28 1) "_from_iterable" "KeysView._from_iterable" 3 [] .none .none .none (.str (q "collections.abc") 430) (some 543) (.ref 539) .none 0),#[]⟩
def o541 := D #[d P "__module__" 1004 (s "collections.abc" 430),d P "__name__" 1007 (s "_from_iterable" 1006),d P "__qualname__" 1010 (s "KeysView._from_iterable" 1009),d P "__doc__" 1012 n,d P "__annotations__" 1014 (r 543)] 5
def o542 := L ⟨t "classmethod",some 541,.fields #[r 540,.bool false],#[]⟩
def o546 := T [s "self" 1019,s "key" 1020]
def o548 := G (inC 28 2) "__contains__" "KeysView.__contains__"
def o549 := C "__contains__" "KeysView.__contains__" 1016 260 2 0 0 3 (r 544) (r 545) n (r 546) (r 547) (r 548) 1021
def o550 := U (inC 28 2) "__contains__" "KeysView.__contains__" "collections.abc" 430 549
def o553 := T [s "self" 1027]
def o555 := G (inC 28 3) "__iter__" "KeysView.__iter__"
def o556 := C "__iter__" "KeysView.__iter__" 1024 263 1 0 0 35 (r 551) (r 552) n (r 553) (r 554) (r 555) 1028
def o557 := U (inC 28 3) "__iter__" "KeysView.__iter__" "collections.abc" 430 556
def o560 := T [s "cls" 1034,s "C" 1035]
def o562 := G (inC 28 4) "_abc_kind" "KeysView._abc_kind"
def o563 := C "_abc_kind" "KeysView._abc_kind" 1031 266 2 0 0 3 (r 558) (r 559) n (r 560) (r 561) (r 562) 1036
def o564 := U (inC 28 4) "_abc_kind" "KeysView._abc_kind" "collections.abc" 430 563
def o567 := D #[d P "__module__" 990 (s "collections.abc" 430),d P "__firstlineno__" 994 (.int (253) 993),d P "__slots__" 995 (r 533),d P "_from_iterable" 1015 (r 542),d P "__contains__" 1023 (r 550),d P "__iter__" 1030 (r 557),d P "_abc_kind" 1038 (r 564),d P "__static_attributes__" 1039 (r 565),d P "__doc__" 1040 n] 2
def o568 := L ⟨r 117,none,.cls ⟨(q "KeysView"), [r 521,r 399], [r 568,r 521,r 399,r 283,r 224,r 194,r 260,t "object"], 567, (q "KeysView"), false, [(q "_mapping")], [], false, none, false⟩,#[some (r 526),none,some (s "KeysView" 983),some (s "KeysView" 991),some (b "object.__new__"),some (.bool false)]⟩
def o569 := F (t "super") [r 568,r 568,r 568]
def o570 := F (t "builtin_function_or_method") [b "object.__init_subclass__",r 568]
def o573 := D #[d P "__module__" 1050 (s "collections.abc" 430),d P "__qualname__" 1052 (s "ItemsView" 1051),d P "__firstlineno__" 1054 (.int (271) 1053),d P "__slots__" 1055 (r 578),d P "_from_iterable" 1075 (r 587),d P "__contains__" 1086 (r 595),d P "__iter__" 1094 (r 602),d P "_abc_kind" 1102 (r 609),d P "__static_attributes__" 1103 (r 610)] 9
def o575 := F n [I 275,I 4,r 584,I 278,I 4,r 594,I 287,I 4,r 601,I 291,I 4,r 608]
def o576 := F (t "code") [s "ItemsView" 1045,s "ItemsView" 1046,c 1047,I 271,I 0,I 0,I 0,I 0,r 574,.bool false,I 379,r 575,n,n,n,n,I 1048,I 271,c 1049]
def o577 := L ⟨t "frame",none,.plain,#[some (r 576),some (r 3),some (r 573),none,some (s "collections.abc" 430),none,some (r 0)]⟩
def o581 := T [s "cls" 1059,s "it" 1060]
def o583 := G (inC 29 1) "_from_iterable" "ItemsView._from_iterable"
def o584 := C "_from_iterable" "ItemsView._from_iterable" 1056 274 2 0 0 3 (r 579) (r 580) n (r 581) (r 582) (r 583) 1061
def o585 := L ⟨t "function",none,.func (fd (inC 29 1) "_from_iterable" "ItemsView._from_iterable" 3 [] .none .none .none (.str (q "collections.abc") 430) (some 588) (.ref 584) .none 0),#[]⟩
def o586 := D #[d P "__module__" 1064 (s "collections.abc" 430),d P "__name__" 1067 (s "_from_iterable" 1066),d P "__qualname__" 1070 (s "ItemsView._from_iterable" 1069),d P "__doc__" 1072 n,d P "__annotations__" 1074 (r 588)] 5
def o587 := L ⟨t "classmethod",some 586,.fields #[r 585,.bool false],#[]⟩
def o591 := T [s "self" 1079,s "item" 1080,s "key" 1081,s "value" 1082,s "v" 1083]
def o593 := G (inC 29 2) "__contains__" "ItemsView.__contains__"
def o594 := C "__contains__" "ItemsView.__contains__" 1076 278 2 0 0 3 (r 589) (r 590) n (r 591) (r 592) (r 593) 1084
def o595 := U (inC 29 2) "__contains__" "ItemsView.__contains__" "collections.abc" 430 594
def o598 := T [s "self" 1090,s "key" 1091]
def o600 := G (inC 29 3) "__iter__" "ItemsView.__iter__"
def o601 := C "__iter__" "ItemsView.__iter__" 1087 287 1 0 0 35 (r 596) (r 597) n (r 598) (r 599) (r 600) 1092
def o602 := U (inC 29 3) "__iter__" "ItemsView.__iter__" "collections.abc" 430 601
def o605 := T [s "cls" 1098,s "C" 1099]
def o607 := G (inC 29 4) "_abc_kind" "ItemsView._abc_kind"
def o608 := C "_abc_kind" "ItemsView._abc_kind" 1095 291 2 0 0 3 (r 603) (r 604) n (r 605) (r 606) (r 607) 1100
def o609 := U (inC 29 4) "_abc_kind" "ItemsView._abc_kind" "collections.abc" 430 608
def o612 := D #[d P "__module__" 1050 (s "collections.abc" 430),d P "__firstlineno__" 1054 (.int (271) 1053),d P "__slots__" 1055 (r 578),d P "_from_iterable" 1075 (r 587),d P "__contains__" 1086 (r 595),d P "__iter__" 1094 (r 602),d P "_abc_kind" 1102 (r 609),d P "__static_attributes__" 1103 (r 610),d P "__doc__" 1104 n] 2
def o613 := L ⟨r 117,none,.cls ⟨(q "ItemsView"), [r 521,r 399], [r 613,r 521,r 399,r 283,r 224,r 194,r 260,t "object"], 612, (q "ItemsView"), false, [(q "_mapping")], [], false, none, false⟩,#[some (r 571),none,some (s "ItemsView" 1043),some (s "ItemsView" 1051),some (b "object.__new__"),some (.bool false)]⟩
def o614 := F (t "super") [r 613,r 613,r 613]
def o615 := F (t "builtin_function_or_method") [b "object.__init_subclass__",r 613]
def o616 := T [r 521,r 283]
def o618 := D #[d P "__module__" 1114 (s "collections.abc" 430),d P "__qualname__" 1116 (s "ValuesView" 1115),d P "__firstlineno__" 1118 (.int (296) 1117),d P "__slots__" 1119 (r 623),d P "__contains__" 1129 (r 630),d P "__iter__" 1137 (r 637),d P "_abc_kind" 1145 (r 644),d P "__static_attributes__" 1146 (r 645)] 8
def o620 := F n [I 299,I 4,r 629,I 306,I 4,r 636,I 310,I 4,r 643]
def o621 := F (t "code") [s "ValuesView" 1109,s "ValuesView" 1110,c 1111,I 296,I 0,I 0,I 0,I 0,r 619,.bool false,I 379,r 620,n,n,n,n,I 1112,I 296,c 1113]
def o622 := L ⟨t "frame",none,.plain,#[some (r 621),some (r 3),some (r 618),none,some (s "collections.abc" 430),none,some (r 0)]⟩
def o626 := T [s "self" 1123,s "value" 1124,s "key" 1125,s "v" 1126]
def o628 := G (inC 30 1) "__contains__" "ValuesView.__contains__"
def o629 := C "__contains__" "ValuesView.__contains__" 1120 299 2 0 0 3 (r 624) (r 625) n (r 626) (r 627) (r 628) 1127
def o630 := U (inC 30 1) "__contains__" "ValuesView.__contains__" "collections.abc" 430 629
def o633 := T [s "self" 1133,s "key" 1134]
def o635 := G (inC 30 2) "__iter__" "ValuesView.__iter__"
def o636 := C "__iter__" "ValuesView.__iter__" 1130 306 1 0 0 35 (r 631) (r 632) n (r 633) (r 634) (r 635) 1135
def o637 := U (inC 30 2) "__iter__" "ValuesView.__iter__" "collections.abc" 430 636
def o640 := T [s "cls" 1141,s "C" 1142]
def o642 := G (inC 30 3) "_abc_kind" "ValuesView._abc_kind"
def o643 := C "_abc_kind" "ValuesView._abc_kind" 1138 310 2 0 0 3 (r 638) (r 639) n (r 640) (r 641) (r 642) 1143
def o644 := U (inC 30 3) "_abc_kind" "ValuesView._abc_kind" "collections.abc" 430 643
def o647 := D #[d P "__module__" 1114 (s "collections.abc" 430),d P "__firstlineno__" 1118 (.int (296) 1117),d P "__slots__" 1119 (r 623),d P "__contains__" 1129 (r 630),d P "__iter__" 1137 (r 637),d P "_abc_kind" 1145 (r 644),d P "__static_attributes__" 1146 (r 645),d P "__doc__" 1147 n] 2
def o648 := L ⟨r 117,none,.cls ⟨(q "ValuesView"), [r 521,r 283], [r 648,r 521,r 283,r 224,r 194,r 260,t "object"], 647, (q "ValuesView"), false, [(q "_mapping")], [], false, none, false⟩,#[some (r 616),none,some (s "ValuesView" 1107),some (s "ValuesView" 1115),some (b "object.__new__"),some (.bool false)]⟩
def o649 := F (t "super") [r 648,r 648,r 648]
def o650 := F (t "builtin_function_or_method") [b "object.__init_subclass__",r 648]
def o654 := G (stA 32) "nlargest" "nlargest"
def o655 := C "nlargest" "nlargest" 1152 316 3 0 0 3 (r 652) (r 653) n n n (r 654) 1155
def o656 := L ⟨t "function",none,.func (fd (stA 32) "nlargest" "nlargest" 3 [] (.ref 651) .none .none (.str (q "heapq") 1150) none (.ref 655) .none 0),#[]⟩
def o659 := T [s "x" 1163,s "t" 1164]
def o661 := G (stA 34) "_is_int" "_is_int"
def o662 := C "_is_int" "_is_int" 1160 362 1 0 0 3 (r 657) (r 658) n (r 659) (r 660) (r 661) 1165
def o663 := U (stA 34) "_is_int" "_is_int" "itertools" 1158 662
def o666 := T [s "x" 1171,s "top" 1172,s "what" 1173]
def o668 := G (stA 35) "_whole" "_whole"
def o669 := C "_whole" "_whole" 1168 365 3 0 0 3 (r 664) (r 665) n (r 666) (r 667) (r 668) 1174
def o670 := U (stA 35) "_whole" "_whole" "itertools" 1158 669
def o673 := T [s "it" 1180]
def o675 := G (stA 36) "_pull" "_pull"
def o676 := C "_pull" "_pull" 1177 370 1 0 0 3 (r 671) (r 672) n (r 673) (r 674) (r 675) 1181
def o677 := U (stA 36) "_pull" "_pull" "itertools" 1158 676
def o680 := D #[d P "__module__" 1191 (s "itertools" 1158),d P "__qualname__" 1193 (s "_NotGiven" 1192),d P "__firstlineno__" 1195 (.int (375) 1194),d P "__static_attributes__" 1196 (r 685)] 4
def o683 := F (t "code") [s "_NotGiven" 1186,s "_NotGiven" 1187,c 1188,I 375,I 0,I 0,I 0,I 0,r 681,.bool false,I 379,r 682,n,n,n,n,I 1189,I 375,c 1190]
def o684 := L ⟨t "frame",none,.plain,#[some (r 683),some (r 3),some (r 680),none,some (s "itertools" 1158),none,some (r 0)]⟩
def o686 := D #[d P "__module__" 1191 (s "itertools" 1158),d P "__firstlineno__" 1195 (.int (375) 1194),d P "__static_attributes__" 1196 (r 685),d P "__dict__" 1198 (r 688),d P "__weakref__" 1200 (r 689),d P "__doc__" 1201 n] 4
def o687 := L ⟨t "type",none,.cls ⟨(q "_NotGiven"), [t "object"], [r 687,t "object"], 686, (q "_NotGiven"), true, [], [], false, none, false⟩,#[none,none,some (s "_NotGiven" 1184),some (s "_NotGiven" 1192),some (b "object.__new__"),some (.bool true)]⟩
def o688 := F (t "getset_descriptor") [s "__dict__" 1197,r 687,b "function.__dict__",b "function.__dict__#set"]
def o689 := F (t "getset_descriptor") [s "__weakref__" 1199,r 687,b "ExceptionGroup.__weakref__",n]
def o690 := F (t "super") [r 687,r 687,r 687]
def o691 := F (t "builtin_function_or_method") [b "object.__init_subclass__",r 687]
def o694 := D #[d P "__module__" 1211 (s "itertools" 1158),d P "__qualname__" 1213 (s "chain" 1212),d P "__firstlineno__" 1215 (.int (377) 1214),d P "__slots__" 1218 (r 699),d P "__init__" 1226 (r 706),d P "from_iterable" 1248 (r 715),d P "__iter__" 1255 (r 723),d P "__next__" 1268 (r 730),d P "__static_attributes__" 1271 (r 731)] 9
def o696 := F n [I 380,I 4,r 705,I 385,I 4,r 712,I 391,I 4,r 722,I 394,I 4,r 729]
def o697 := F (t "code") [s "chain" 1206,s "chain" 1207,c 1208,I 377,I 0,I 0,I 0,I 0,r 695,.bool false,I 379,r 696,n,n,n,n,I 1209,I 377,c 1210]
def o698 := L ⟨t "frame",none,.plain,#[some (r 697),some (r 3),some (r 694),none,some (s "itertools" 1158),none,some (r 0)]⟩
def o699 := T [s "_source" 1216,s "_active" 1217]
def o702 := T [s "self" 1222,s "iterables" 1223]
def o704 := G (inC 38 1) "__init__" "chain.__init__"
def o705 := C "__init__" "chain.__init__" 1219 380 1 0 0 7 (r 700) (r 701) n (r 702) (r 703) (r 704) 1224
def o706 := U (inC 38 1) "__init__" "chain.__init__" "itertools" 1158 705
def o709 := T [s "cls" 1230,s "iterable" 1231,s "source" 1232,s "self" 1233]
def o711 := G (inC 38 2) "from_iterable" "chain.from_iterable"
def o712 := C "from_iterable" "chain.from_iterable" 1227 384 2 2 0 3 (r 707) (r 708) n (r 709) (r 710) (r 711) 1234
def o713 := L ⟨t "function",none,.func (fd (inC 38 2) "from_iterable" "chain.from_iterable" 3 [] .none .none .none (.str (q "itertools") 1158) (some 716) (.ref 712) .none 0),#[]⟩
def o714 := D #[d P "__module__" 1237 (s "itertools" 1158),d P "__name__" 1240 (s "from_iterable" 1239),d P "__qualname__" 1243 (s "chain.from_iterable" 1242),d P "__doc__" 1245 n,d P "__annotations__" 1247 (r 716)] 5
def o715 := L ⟨t "classmethod",some 714,.fields #[r 713,.bool false],#[]⟩
def o719 := T [s "self" 1252]
def o721 := G (inC 38 3) "__iter__" "chain.__iter__"
def o722 := C "__iter__" "chain.__iter__" 1249 391 1 0 0 3 (r 717) (r 718) n (r 719) (r 720) (r 721) 1253
def o723 := U (inC 38 3) "__iter__" "chain.__iter__" "itertools" 1158 722
def o726 := T [s "self" 1259,s "path" 1260,s "top" 1261,s "more" 1262,s "iterable" 1263,s "active" 1264,s "item" 1265]
def o728 := G (inC 38 4) "__next__" "chain.__next__"
def o729 := C "__next__" "chain.__next__" 1256 394 1 0 0 3 (r 724) (r 725) n (r 726) (r 727) (r 728) 1266
def o730 := U (inC 38 4) "__next__" "chain.__next__" "itertools" 1158 729
def o731 := T [s "_active" 1269,s "_source" 1270]
def o732 := L ⟨t "list",none,.seq #[s "_source" 1216,s "_active" 1217] 1,#[]⟩
def o733 := D #[d P "__module__" 1211 (s "itertools" 1158),d P "__firstlineno__" 1215 (.int (377) 1214),d P "__slots__" 1218 (r 699),d P "__init__" 1226 (r 706),d P "from_iterable" 1248 (r 715),d P "__iter__" 1255 (r 723),d P "__next__" 1268 (r 730),d P "__static_attributes__" 1271 (r 731),d P "_active" 1273 (r 735),d P "_source" 1275 (r 736),d P "__doc__" 1276 n] 4
def o734 := L ⟨t "type",none,.cls ⟨(q "chain"), [t "object"], [r 734,t "object"], 733, (q "chain"), false, [(q "_active"), (q "_source")], [], false, none, false⟩,#[none,none,some (s "chain" 1204),some (s "chain" 1212),some (b "object.__new__"),some (.bool false)]⟩
def o735 := F (t "member_descriptor") [s "_active" 1272,r 734,b "proto.slot",b "proto.slot#set",I 1]
def o736 := F (t "member_descriptor") [s "_source" 1274,r 734,b "proto.slot",b "proto.slot#set",I 0]
def o737 := F (t "super") [r 734,r 734,r 734]
def o738 := F (t "builtin_function_or_method") [b "object.__init_subclass__",r 734]
def o741 := D #[d P "__module__" 1286 (s "itertools" 1158),d P "__qualname__" 1288 (s "repeat" 1287),d P "__firstlineno__" 1290 (.int (429) 1289),d P "__slots__" 1293 (r 746),d P "__init__" 1303 (r 754),d P "__iter__" 1310 (r 761),d P "__next__" 1317 (r 768),d P "__repr__" 1325 (r 775),d P "__length_hint__" 1332 (r 782),d P "__static_attributes__" 1335 (r 783)] 10
def o743 := F n [I 432,I 4,r 753,I 443,I 4,r 760,I 446,I 4,r 767,I 453,I 4,r 774,I 459,I 4,r 781]
def o744 := F (t "code") [s "repeat" 1281,s "repeat" 1282,c 1283,I 429,I 0,I 0,I 0,I 0,r 742,.bool false,I 379,r 743,n,n,n,n,I 1284,I 429,c 1285]
def o745 := L ⟨t "frame",none,.plain,#[some (r 744),some (r 3),some (r 741),none,some (s "itertools" 1158),none,some (r 0)]⟩
def o746 := T [s "_element" 1291,s "_cnt" 1292]
def o747 := T [r 687]
def o750 := T [s "self" 1297,s "object" 1298,s "times" 1299,s "cnt" 1300]
def o752 := G (inC 39 1) "__init__" "repeat.__init__"
def o753 := C "__init__" "repeat.__init__" 1294 432 3 0 0 3 (r 748) (r 749) n (r 750) (r 751) (r 752) 1301
def o754 := L ⟨t "function",none,.func (fd (inC 39 1) "__init__" "repeat.__init__" 3 [] (.ref 747) .none .none (.str (q "itertools") 1158) none (.ref 753) .none 0),#[]⟩
def o757 := T [s "self" 1307]
def o759 := G (inC 39 2) "__iter__" "repeat.__iter__"
def o760 := C "__iter__" "repeat.__iter__" 1304 443 1 0 0 3 (r 755) (r 756) n (r 757) (r 758) (r 759) 1308
def o761 := U (inC 39 2) "__iter__" "repeat.__iter__" "itertools" 1158 760
def o764 := T [s "self" 1314]
def o766 := G (inC 39 3) "__next__" "repeat.__next__"
def o767 := C "__next__" "repeat.__next__" 1311 446 1 0 0 3 (r 762) (r 763) n (r 764) (r 765) (r 766) 1315
def o768 := U (inC 39 3) "__next__" "repeat.__next__" "itertools" 1158 767
def o771 := T [s "self" 1321,s "cnt" 1322]
def o773 := G (inC 39 4) "__repr__" "repeat.__repr__"
def o774 := C "__repr__" "repeat.__repr__" 1318 453 1 0 0 3 (r 769) (r 770) n (r 771) (r 772) (r 773) 1323
def o775 := U (inC 39 4) "__repr__" "repeat.__repr__" "itertools" 1158 774
def o778 := T [s "self" 1329]
def o780 := G (inC 39 5) "__length_hint__" "repeat.__length_hint__"
def o781 := C "__length_hint__" "repeat.__length_hint__" 1326 459 1 0 0 3 (r 776) (r 777) n (r 778) (r 779) (r 780) 1330
def o782 := U (inC 39 5) "__length_hint__" "repeat.__length_hint__" "itertools" 1158 781
def o783 := T [s "_cnt" 1333,s "_element" 1334]
def o784 := L ⟨t "list",none,.seq #[s "_element" 1291,s "_cnt" 1292] 1,#[]⟩
def o785 := D #[d P "__module__" 1286 (s "itertools" 1158),d P "__firstlineno__" 1290 (.int (429) 1289),d P "__slots__" 1293 (r 746),d P "__init__" 1303 (r 754),d P "__iter__" 1310 (r 761),d P "__next__" 1317 (r 768),d P "__repr__" 1325 (r 775),d P "__length_hint__" 1332 (r 782),d P "__static_attributes__" 1335 (r 783),d P "_cnt" 1337 (r 787),d P "_element" 1339 (r 788),d P "__doc__" 1340 n] 4
def o786 := L ⟨t "type",none,.cls ⟨(q "repeat"), [t "object"], [r 786,t "object"], 785, (q "repeat"), false, [(q "_cnt"), (q "_element")], [], false, none, false⟩,#[none,none,some (s "repeat" 1279),some (s "repeat" 1287),some (b "object.__new__"),some (.bool false)]⟩
def o787 := F (t "member_descriptor") [s "_cnt" 1336,r 786,b "proto.slot",b "proto.slot#set",I 1]
def o788 := F (t "member_descriptor") [s "_element" 1338,r 786,b "proto.slot",b "proto.slot#set",I 0]
def o789 := F (t "super") [r 786,r 786,r 786]
def o790 := F (t "builtin_function_or_method") [b "object.__init_subclass__",r 786]
def o793 := D #[d P "__module__" 1350 (s "itertools" 1158),d P "__qualname__" 1352 (s "starmap" 1351),d P "__firstlineno__" 1354 (.int (463) 1353),d P "__slots__" 1357 (r 798),d P "__init__" 1366 (r 805),d P "__iter__" 1373 (r 812),d P "__next__" 1381 (r 819),d P "__static_attributes__" 1384 (r 820)] 8
def o795 := F n [I 466,I 4,r 804,I 470,I 4,r 811,I 473,I 4,r 818]
def o796 := F (t "code") [s "starmap" 1345,s "starmap" 1346,c 1347,I 463,I 0,I 0,I 0,I 0,r 794,.bool false,I 379,r 795,n,n,n,n,I 1348,I 463,c 1349]
def o797 := L ⟨t "frame",none,.plain,#[some (r 796),some (r 3),some (r 793),none,some (s "itertools" 1158),none,some (r 0)]⟩
def o798 := T [s "_it" 1355,s "_func" 1356]
def o801 := T [s "self" 1361,s "function" 1362,s "iterable" 1363]
def o803 := G (inC 40 1) "__init__" "starmap.__init__"
def o804 := C "__init__" "starmap.__init__" 1358 466 3 3 0 3 (r 799) (r 800) n (r 801) (r 802) (r 803) 1364
def o805 := U (inC 40 1) "__init__" "starmap.__init__" "itertools" 1158 804
def o808 := T [s "self" 1370]
def o810 := G (inC 40 2) "__iter__" "starmap.__iter__"
def o811 := C "__iter__" "starmap.__iter__" 1367 470 1 0 0 3 (r 806) (r 807) n (r 808) (r 809) (r 810) 1371
def o812 := U (inC 40 2) "__iter__" "starmap.__iter__" "itertools" 1158 811
def o815 := T [s "self" 1377,s "args" 1378]
def o817 := G (inC 40 3) "__next__" "starmap.__next__"
def o818 := C "__next__" "starmap.__next__" 1374 473 1 0 0 3 (r 813) (r 814) n (r 815) (r 816) (r 817) 1379
def o819 := U (inC 40 3) "__next__" "starmap.__next__" "itertools" 1158 818
def o820 := T [s "_func" 1382,s "_it" 1383]
def o821 := L ⟨t "list",none,.seq #[s "_it" 1355,s "_func" 1356] 1,#[]⟩
def o822 := D #[d P "__module__" 1350 (s "itertools" 1158),d P "__firstlineno__" 1354 (.int (463) 1353),d P "__slots__" 1357 (r 798),d P "__init__" 1366 (r 805),d P "__iter__" 1373 (r 812),d P "__next__" 1381 (r 819),d P "__static_attributes__" 1384 (r 820),d P "_func" 1386 (r 824),d P "_it" 1388 (r 825),d P "__doc__" 1389 n] 4
def o823 := L ⟨t "type",none,.cls ⟨(q "starmap"), [t "object"], [r 823,t "object"], 822, (q "starmap"), false, [(q "_func"), (q "_it")], [], false, none, false⟩,#[none,none,some (s "starmap" 1343),some (s "starmap" 1351),some (b "object.__new__"),some (.bool false)]⟩
def o824 := F (t "member_descriptor") [s "_func" 1385,r 823,b "proto.slot",b "proto.slot#set",I 1]
def o825 := F (t "member_descriptor") [s "_it" 1387,r 823,b "proto.slot",b "proto.slot#set",I 0]
def o826 := F (t "super") [r 823,r 823,r 823]
def o827 := F (t "builtin_function_or_method") [b "object.__init_subclass__",r 823]
def o830 := D #[d P "__module__" 1401 (s "operator" 1392),d P "__qualname__" 1403 (s "itemgetter" 1402),d P "__firstlineno__" 1405 (.int (479) 1404),d P "__slots__" 1407 (r 835),d P "__init__" 1416 (r 842),d P "__call__" 1427 (r 849),d P "__repr__" 1435 (r 856),d P "__reduce__" 1442 (r 863),d P "__static_attributes__" 1444 (r 864)] 9
def o832 := F n [I 482,I 4,r 841,I 485,I 4,r 848,I 494,I 4,r 855,I 500,I 4,r 862]
def o833 := F (t "code") [s "itemgetter" 1396,s "itemgetter" 1397,c 1398,I 479,I 0,I 0,I 0,I 0,r 831,.bool false,I 379,r 832,n,n,n,n,I 1399,I 479,c 1400]
def o834 := L ⟨t "frame",none,.plain,#[some (r 833),some (r 3),some (r 830),none,some (s "operator" 1392),none,some (r 0)]⟩
def o835 := T [s "_items" 1406]
def o838 := T [s "self" 1411,s "item" 1412,s "items" 1413]
def o840 := G (inC 42 1) "__init__" "itemgetter.__init__"
def o841 := C "__init__" "itemgetter.__init__" 1408 482 2 2 0 7 (r 836) (r 837) n (r 838) (r 839) (r 840) 1414
def o842 := U (inC 42 1) "__init__" "itemgetter.__init__" "operator" 1392 841
def o845 := T [s "self" 1420,s "obj" 1421,s "items" 1422,s "result" 1423,s "item" 1424]
def o847 := G (inC 42 2) "__call__" "itemgetter.__call__"
def o848 := C "__call__" "itemgetter.__call__" 1417 485 2 2 0 3 (r 843) (r 844) n (r 845) (r 846) (r 847) 1425
def o849 := U (inC 42 2) "__call__" "itemgetter.__call__" "operator" 1392 848
def o852 := T [s "self" 1431,s "r" 1432]
def o854 := G (inC 42 3) "__repr__" "itemgetter.__repr__"
def o855 := C "__repr__" "itemgetter.__repr__" 1428 494 1 0 0 3 (r 850) (r 851) n (r 852) (r 853) (r 854) 1433
def o856 := U (inC 42 3) "__repr__" "itemgetter.__repr__" "operator" 1392 855
def o859 := T [s "self" 1439]
def o861 := G (inC 42 4) "__reduce__" "itemgetter.__reduce__"
def o862 := C "__reduce__" "itemgetter.__reduce__" 1436 500 1 0 0 3 (r 857) (r 858) n (r 859) (r 860) (r 861) 1440
def o863 := U (inC 42 4) "__reduce__" "itemgetter.__reduce__" "operator" 1392 862
def o864 := T [s "_items" 1443]
def o865 := L ⟨t "list",none,.seq #[s "_items" 1406] 1,#[]⟩
def o866 := D #[d P "__module__" 1401 (s "operator" 1392),d P "__firstlineno__" 1405 (.int (479) 1404),d P "__slots__" 1407 (r 835),d P "__init__" 1416 (r 842),d P "__call__" 1427 (r 849),d P "__repr__" 1435 (r 856),d P "__reduce__" 1442 (r 863),d P "__static_attributes__" 1444 (r 864),d P "_items" 1446 (r 868),d P "__doc__" 1447 n] 3
def o867 := L ⟨t "type",none,.cls ⟨(q "itemgetter"), [t "object"], [r 867,t "object"], 866, (q "itemgetter"), false, [(q "_items")], [], false, none, false⟩,#[none,none,some (s "itemgetter" 1394),some (s "itemgetter" 1402),some (b "object.__new__"),some (.bool false)]⟩
def o868 := F (t "member_descriptor") [s "_items" 1445,r 867,b "proto.slot",b "proto.slot#set",I 0]
def o869 := F (t "super") [r 867,r 867,r 867]
def o870 := F (t "builtin_function_or_method") [b "object.__init_subclass__",r 867]
def o871 := T [t "dict"]
def o873 := D #[d P "__module__" 1459 (s "cpy313.collections" 1450),d P "__qualname__" 1461 (s "Counter" 1460),d P "__firstlineno__" 1463 (.int (505) 1462),d P "__init__" 1473 (r 887),d P "__missing__" 1481 (r 894),d P "total" 1488 (r 901),d P "most_common" 1496 (r 909),d P "elements" 1503 (r 916),d P "fromkeys" 1524 (r 926),d P "update" 1537 (r 936),d P "subtract" 1549 (r 944),d P "copy" 1556 (r 951),d P "__reduce__" 1563 (r 958),d P "__delitem__" 1572 (r 966),d P "__repr__" 1580 (r 973),d P "__eq__" 1590 (r 980),d P "__ne__" 1598 (r 987),d P "__le__" 1608 (r 994),d P "__lt__" 1616 (r 1001),d P "__ge__" 1626 (r 1008),d P "__gt__" 1634 (r 1015),d P "__add__" 1646 (r 1022),d P "__sub__" 1658 (r 1029),d P "__or__" 1671 (r 1036),d P "__and__" 1684 (r 1043),d P "__pos__" 1694 (r 1050),d P "__neg__" 1704 (r 1057),d P "_keep_positive" 1710 (r 1062),d P "__iadd__" 1720 (r 1069),d P "__isub__" 1730 (r 1076),d P "__ior__" 1741 (r 1083),d P "__iand__" 1752 (r 1090),d P "__static_attributes__" 1753 (r 1091),d P "__classcell__" 1754 (r 874)] 34
def o874 := L ⟨t "cell",none,.cell (some (.ref 1093)),#[]⟩
def o876 := F n [I 507,I 4,r 886,I 511,I 4,r 893,I 514,I 4,r 900,I 517,I 4,r 908,I 523,I 4,r 915,I 527,I 4,r 923,I 530,I 4,r 935,I 544,I 4,r 943,I 556,I 4,r 950,I 559,I 4,r 957,I 562,I 4,r 965,I 566,I 4,r 972,I 575,I 4,r 979,I 580,I 4,r 986,I 585,I 4,r 993,I 590,I 4,r 1000,I 595,I 4,r 1007,I 600,I 4,r 1014,I 605,I 4,r 1021,I 618,I 4,r 1028,I 631,I 4,r 1035,I 645,I 4,r 1042,I 656,I 4,r 1049,I 663,I 4,r 1056,I 670,I 4,r 1061,I 676,I 4,r 1068,I 681,I 4,r 1075,I 686,I 4,r 1082,I 693,I 4,r 1089]
def o877 := F (t "code") [s "Counter" 1454,s "Counter" 1455,c 1456,I 505,I 0,I 0,I 0,I 0,r 875,.bool false,I 379,r 876,n,n,n,n,I 1457,I 505,c 1458]
def o878 := L ⟨t "frame",none,.plain,#[some (r 877),some (r 3),some (r 873),none,some (s "cpy313.collections" 1450),none,some (r 0)]⟩
def o879 := T [n]
def o880 := T [r 874]
def o881 := T [s "__class__" 1467]
def o883 := T [s "self" 1468,s "iterable" 1469,s "kwds" 1470]
def o885 := G (inC 44 0) "__init__" "Counter.__init__"
def o886 := C "__init__" "Counter.__init__" 1464 507 2 2 0 11 (r 881) (r 882) n (r 883) (r 884) (r 885) 1471
def o887 := L ⟨t "function",none,.func (fd (inC 44 0) "__init__" "Counter.__init__" 3 [((q "__class__"), 874)] (.ref 879) .none .none (.str (q "cpy313.collections") 1450) none (.ref 886) (.ref 880) 0),#[]⟩
def o890 := T [s "self" 1477,s "key" 1478]
def o892 := G (inC 44 1) "__missing__" "Counter.__missing__"
def o893 := C "__missing__" "Counter.__missing__" 1474 511 2 0 0 3 (r 888) (r 889) n (r 890) (r 891) (r 892) 1479
def o894 := U (inC 44 1) "__missing__" "Counter.__missing__" "cpy313.collections" 1450 893
def o897 := T [s "self" 1485]
def o899 := G (inC 44 2) "total" "Counter.total"
def o900 := C "total" "Counter.total" 1482 514 1 0 0 3 (r 895) (r 896) n (r 897) (r 898) (r 899) 1486
def o901 := U (inC 44 2) "total" "Counter.total" "cpy313.collections" 1450 900
def o905 := T [s "self" 1492,s "n" 1493]
def o907 := G (inC 44 3) "most_common" "Counter.most_common"
def o908 := C "most_common" "Counter.most_common" 1489 517 2 0 0 3 (r 903) (r 904) n (r 905) (r 906) (r 907) 1494
def o909 := L ⟨t "function",none,.func (fd (inC 44 3) "most_common" "Counter.most_common" 3 [] (.ref 902) .none .none (.str (q "cpy313.collections") 1450) none (.ref 908) .none 0),#[]⟩
def o912 := T [s "self" 1500]
def o914 := G (inC 44 4) "elements" "Counter.elements"
def o915 := C "elements" "Counter.elements" 1497 523 1 0 0 3 (r 910) (r 911) n (r 912) (r 913) (r 914) 1501
def o916 := U (inC 44 4) "elements" "Counter.elements" "cpy313.collections" 1450 915
def o920 := T [s "cls" 1507,s "iterable" 1508,s "v" 1509]
def o922 := G (inC 44 5) "fromkeys" "Counter.fromkeys"
def o923 := C "fromkeys" "Counter.fromkeys" 1504 526 3 0 0 3 (r 918) (r 919) n (r 920) (r 921) (r 922) 1510
def o924 := L ⟨t "function",none,.func (fd (inC 44 5) "fromkeys" "Counter.fromkeys" 3 [] (.ref 917) .none .none (.str (q "cpy313.collections") 1450) (some 927) (.ref 923) .none 0),#[]⟩
def o925 := D #[d P "__module__" 1513 (s "cpy313.collections" 1450),d P "__name__" 1516 (s "fromkeys" 1515),d P "__qualname__" 1519 (s "Counter.fromkeys" 1518),d P "__doc__" 1521 n,d P "__annotations__" 1523 (r 927)] 5
def o926 := L ⟨t "classmethod",some 925,.fields #[r 924,.bool false],#[]⟩
def o928 := T [n]
def o930 := T [s "__class__" 1528]
def o932 := T [s "self" 1529,s "iterable" 1530,s "kwds" 1531,s "self_get" 1532,s "elem" 1533,s "count" 1534]
def o934 := G (inC 44 6) "update" "Counter.update"
def o935 := C "update" "Counter.update" 1525 530 2 2 0 11 (r 930) (r 931) n (r 932) (r 933) (r 934) 1535
def o936 := L ⟨t "function",none,.func (fd (inC 44 6) "update" "Counter.update" 3 [((q "__class__"), 874)] (.ref 928) .none .none (.str (q "cpy313.collections") 1450) none (.ref 935) (.ref 929) 0),#[]⟩
def o937 := T [n]
def o940 := T [s "self" 1541,s "iterable" 1542,s "kwds" 1543,s "self_get" 1544,s "elem" 1545,s "count" 1546]
def o942 := G (inC 44 7) "subtract" "Counter.subtract"
def o943 := C "subtract" "Counter.subtract" 1538 544 2 2 0 11 (r 938) (r 939) n (r 940) (r 941) (r 942) 1547
def o944 := L ⟨t "function",none,.func (fd (inC 44 7) "subtract" "Counter.subtract" 3 [] (.ref 937) .none .none (.str (q "cpy313.collections") 1450) none (.ref 943) .none 0),#[]⟩
def o947 := T [s "self" 1553]
def o949 := G (inC 44 8) "copy" "Counter.copy"
def o950 := C "copy" "Counter.copy" 1550 556 1 0 0 3 (r 945) (r 946) n (r 947) (r 948) (r 949) 1554
def o951 := U (inC 44 8) "copy" "Counter.copy" "cpy313.collections" 1450 950
def o954 := T [s "self" 1560]
def o956 := G (inC 44 9) "__reduce__" "Counter.__reduce__"
def o957 := C "__reduce__" "Counter.__reduce__" 1557 559 1 0 0 3 (r 952) (r 953) n (r 954) (r 955) (r 956) 1561
def o958 := U (inC 44 9) "__reduce__" "Counter.__reduce__" "cpy313.collections" 1450 957
def o960 := T [s "__class__" 1567]
def o962 := T [s "self" 1568,s "elem" 1569]
def o964 := G (inC 44 10) "__delitem__" "Counter.__delitem__"
def o965 := C "__delitem__" "Counter.__delitem__" 1564 562 2 0 0 3 (r 960) (r 961) n (r 962) (r 963) (r 964) 1570
def o966 := L ⟨t "function",none,.func (fd (inC 44 10) "__delitem__" "Counter.__delitem__" 3 [((q "__class__"), 874)] .none .none .none (.str (q "cpy313.collections") 1450) none (.ref 965) (.ref 959) 0),#[]⟩
def o969 := T [s "self" 1576,s "d" 1577]
def o971 := G (inC 44 11) "__repr__" "Counter.__repr__"
def o972 := C "__repr__" "Counter.__repr__" 1573 566 1 0 0 3 (r 967) (r 968) n (r 969) (r 970) (r 971) 1578
def o973 := U (inC 44 11) "__repr__" "Counter.__repr__" "cpy313.collections" 1450 972
def o976 := T [s "self" 1584,s "other" 1585]
def o977 := T [s "self" 1586,s "other" 1587]
def o978 := G (inC 44 12) "__eq__" "Counter.__eq__"
def o979 := C "__eq__" "Counter.__eq__" 1581 575 2 0 0 3 (r 974) (r 975) n (r 976) (r 977) (r 978) 1588
def o980 := U (inC 44 12) "__eq__" "Counter.__eq__" "cpy313.collections" 1450 979
def o983 := T [s "self" 1594,s "other" 1595]
def o985 := G (inC 44 13) "__ne__" "Counter.__ne__"
def o986 := C "__ne__" "Counter.__ne__" 1591 580 2 0 0 3 (r 981) (r 982) n (r 983) (r 984) (r 985) 1596
def o987 := U (inC 44 13) "__ne__" "Counter.__ne__" "cpy313.collections" 1450 986
def o990 := T [s "self" 1602,s "other" 1603]
def o991 := T [s "self" 1604,s "other" 1605]
def o992 := G (inC 44 14) "__le__" "Counter.__le__"
def o993 := C "__le__" "Counter.__le__" 1599 585 2 0 0 3 (r 988) (r 989) n (r 990) (r 991) (r 992) 1606
def o994 := U (inC 44 14) "__le__" "Counter.__le__" "cpy313.collections" 1450 993
def o997 := T [s "self" 1612,s "other" 1613]
def o999 := G (inC 44 15) "__lt__" "Counter.__lt__"
def o1000 := C "__lt__" "Counter.__lt__" 1609 590 2 0 0 3 (r 995) (r 996) n (r 997) (r 998) (r 999) 1614
def o1001 := U (inC 44 15) "__lt__" "Counter.__lt__" "cpy313.collections" 1450 1000
def o1004 := T [s "self" 1620,s "other" 1621]
def o1005 := T [s "self" 1622,s "other" 1623]
def o1006 := G (inC 44 16) "__ge__" "Counter.__ge__"
def o1007 := C "__ge__" "Counter.__ge__" 1617 595 2 0 0 3 (r 1002) (r 1003) n (r 1004) (r 1005) (r 1006) 1624
def o1008 := U (inC 44 16) "__ge__" "Counter.__ge__" "cpy313.collections" 1450 1007
def o1011 := T [s "self" 1630,s "other" 1631]
def o1013 := G (inC 44 17) "__gt__" "Counter.__gt__"
def o1014 := C "__gt__" "Counter.__gt__" 1627 600 2 0 0 3 (r 1009) (r 1010) n (r 1011) (r 1012) (r 1013) 1632
def o1015 := U (inC 44 17) "__gt__" "Counter.__gt__" "cpy313.collections" 1450 1014
def o1018 := T [s "self" 1638,s "other" 1639,s "result" 1640,s "elem" 1641,s "count" 1642,s "newcount" 1643]
def o1020 := G (inC 44 18) "__add__" "Counter.__add__"
def o1021 := C "__add__" "Counter.__add__" 1635 605 2 0 0 3 (r 1016) (r 1017) n (r 1018) (r 1019) (r 1020) 1644
def o1022 := U (inC 44 18) "__add__" "Counter.__add__" "cpy313.collections" 1450 1021
def o1025 := T [s "self" 1650,s "other" 1651,s "result" 1652,s "elem" 1653,s "count" 1654,s "newcount" 1655]
def o1027 := G (inC 44 19) "__sub__" "Counter.__sub__"
def o1028 := C "__sub__" "Counter.__sub__" 1647 618 2 0 0 3 (r 1023) (r 1024) n (r 1025) (r 1026) (r 1027) 1656
def o1029 := U (inC 44 19) "__sub__" "Counter.__sub__" "cpy313.collections" 1450 1028
def o1032 := T [s "self" 1662,s "other" 1663,s "result" 1664,s "elem" 1665,s "count" 1666,s "other_count" 1667,s "newcount" 1668]
def o1034 := G (inC 44 20) "__or__" "Counter.__or__"
def o1035 := C "__or__" "Counter.__or__" 1659 631 2 0 0 3 (r 1030) (r 1031) n (r 1032) (r 1033) (r 1034) 1669
def o1036 := U (inC 44 20) "__or__" "Counter.__or__" "cpy313.collections" 1450 1035
def o1039 := T [s "self" 1675,s "other" 1676,s "result" 1677,s "elem" 1678,s "count" 1679,s "other_count" 1680,s "newcount" 1681]
def o1041 := G (inC 44 21) "__and__" "Counter.__and__"
def o1042 := C "__and__" "Counter.__and__" 1672 645 2 0 0 3 (r 1037) (r 1038) n (r 1039) (r 1040) (r 1041) 1682
def o1043 := U (inC 44 21) "__and__" "Counter.__and__" "cpy313.collections" 1450 1042
def o1046 := T [s "self" 1688,s "result" 1689,s "elem" 1690,s "count" 1691]
def o1048 := G (inC 44 22) "__pos__" "Counter.__pos__"
def o1049 := C "__pos__" "Counter.__pos__" 1685 656 1 0 0 3 (r 1044) (r 1045) n (r 1046) (r 1047) (r 1048) 1692
def o1050 := U (inC 44 22) "__pos__" "Counter.__pos__" "cpy313.collections" 1450 1049
def o1053 := T [s "self" 1698,s "result" 1699,s "elem" 1700,s "count" 1701]
def o1055 := G (inC 44 23) "__neg__" "Counter.__neg__"
def o1056 := C "__neg__" "Counter.__neg__" 1695 663 1 0 0 3 (r 1051) (r 1052) n (r 1053) (r 1054) (r 1055) 1702
def o1057 := U (inC 44 23) "__neg__" "Counter.__neg__" "cpy313.collections" 1450 1056
def o1060 := G (inC 44 24) "_keep_positive" "Counter._keep_positive"
def o1061 := C "_keep_positive" "Counter._keep_positive" 1705 670 1 0 0 3 (r 1058) (r 1059) n n n (r 1060) 1708
def o1062 := U (inC 44 24) "_keep_positive" "Counter._keep_positive" "cpy313.collections" 1450 1061
def o1065 := T [s "self" 1714,s "other" 1715,s "elem" 1716,s "count" 1717]
def o1067 := G (inC 44 25) "__iadd__" "Counter.__iadd__"
def o1068 := C "__iadd__" "Counter.__iadd__" 1711 676 2 0 0 3 (r 1063) (r 1064) n (r 1065) (r 1066) (r 1067) 1718
def o1069 := U (inC 44 25) "__iadd__" "Counter.__iadd__" "cpy313.collections" 1450 1068
def o1072 := T [s "self" 1724,s "other" 1725,s "elem" 1726,s "count" 1727]
def o1074 := G (inC 44 26) "__isub__" "Counter.__isub__"
def o1075 := C "__isub__" "Counter.__isub__" 1721 681 2 0 0 3 (r 1070) (r 1071) n (r 1072) (r 1073) (r 1074) 1728
def o1076 := U (inC 44 26) "__isub__" "Counter.__isub__" "cpy313.collections" 1450 1075
def o1079 := T [s "self" 1734,s "other" 1735,s "elem" 1736,s "other_count" 1737,s "count" 1738]
def o1081 := G (inC 44 27) "__ior__" "Counter.__ior__"
def o1082 := C "__ior__" "Counter.__ior__" 1731 686 2 0 0 3 (r 1077) (r 1078) n (r 1079) (r 1080) (r 1081) 1739
def o1083 := U (inC 44 27) "__ior__" "Counter.__ior__" "cpy313.collections" 1450 1082
def o1086 := T [s "self" 1745,s "other" 1746,s "elem" 1747,s "count" 1748,s "other_count" 1749]
def o1088 := G (inC 44 28) "__iand__" "Counter.__iand__"
def o1089 := C "__iand__" "Counter.__iand__" 1742 693 2 0 0 3 (r 1084) (r 1085) n (r 1086) (r 1087) (r 1088) 1750
def o1090 := U (inC 44 28) "__iand__" "Counter.__iand__" "cpy313.collections" 1450 1089
def o1092 := D #[d P "__module__" 1459 (s "cpy313.collections" 1450),d P "__firstlineno__" 1463 (.int (505) 1462),d P "__init__" 1473 (r 887),d P "__missing__" 1481 (r 894),d P "total" 1488 (r 901),d P "most_common" 1496 (r 909),d P "elements" 1503 (r 916),d P "fromkeys" 1524 (r 926),d P "update" 1537 (r 936),d P "subtract" 1549 (r 944),d P "copy" 1556 (r 951),d P "__reduce__" 1563 (r 958),d P "__delitem__" 1572 (r 966),d P "__repr__" 1580 (r 973),d P "__eq__" 1590 (r 980),d P "__ne__" 1598 (r 987),d P "__le__" 1608 (r 994),d P "__lt__" 1616 (r 1001),d P "__ge__" 1626 (r 1008),d P "__gt__" 1634 (r 1015),d P "__add__" 1646 (r 1022),d P "__sub__" 1658 (r 1029),d P "__or__" 1671 (r 1036),d P "__and__" 1684 (r 1043),d P "__pos__" 1694 (r 1050),d P "__neg__" 1704 (r 1057),d P "_keep_positive" 1710 (r 1062),d P "__iadd__" 1720 (r 1069),d P "__isub__" 1730 (r 1076),d P "__ior__" 1741 (r 1083),d P "__iand__" 1752 (r 1090),d P "__static_attributes__" 1753 (r 1091),d P "__dict__" 1756 (r 1094),d P "__weakref__" 1758 (r 1095),d P "__doc__" 1759 n,d P "__hash__" 1760 n] 6
def o1093 := L ⟨t "type",none,.cls ⟨(q "Counter"), [t "dict"], [r 1093,t "dict",t "object"], 1092, (q "Counter"), true, [], [], false, none, false⟩,#[some (r 871),none,some (s "Counter" 1452),some (s "Counter" 1460),some (b "dict.__new__"),some (.bool true)]⟩
def o1094 := F (t "getset_descriptor") [s "__dict__" 1755,r 1093,b "function.__dict__",b "function.__dict__#set"]
def o1095 := F (t "getset_descriptor") [s "__weakref__" 1757,r 1093,b "ExceptionGroup.__weakref__",n]
def o1096 := F (t "super") [r 1093,r 1093,r 1093]
def o1097 := F (t "builtin_function_or_method") [b "object.__init_subclass__",r 1093]
def o1100 := D #[d P "__module__" 1778 (s "cpy313.graphlib" 1763),d P "__qualname__" 1780 (s "_NodeInfo" 1779),d P "__firstlineno__" 1782 (.int (702) 1781),d P "__slots__" 1786 (r 1105),d P "__init__" 1794 (r 1112),d P "__static_attributes__" 1798 (r 1113)] 6
def o1102 := F n [I 705,I 4,r 1111]
def o1103 := F (t "code") [s "_NodeInfo" 1773,s "_NodeInfo" 1774,c 1775,I 702,I 0,I 0,I 0,I 0,r 1101,.bool false,I 379,r 1102,n,n,n,n,I 1776,I 702,c 1777]
def o1104 := L ⟨t "frame",none,.plain,#[some (r 1103),some (r 3),some (r 1100),none,some (s "cpy313.graphlib" 1763),none,some (r 0)]⟩
def o1105 := T [s "node" 1783,s "npredecessors" 1784,s "successors" 1785]
def o1108 := T [s "self" 1790,s "node" 1791]
def o1110 := G (inC 48 1) "__init__" "_NodeInfo.__init__"
def o1111 := C "__init__" "_NodeInfo.__init__" 1787 705 2 0 0 3 (r 1106) (r 1107) n (r 1108) (r 1109) (r 1110) 1792
def o1112 := U (inC 48 1) "__init__" "_NodeInfo.__init__" "cpy313.graphlib" 1763 1111
def o1113 := T [s "node" 1795,s "npredecessors" 1796,s "successors" 1797]
def o1114 := L ⟨t "list",none,.seq #[s "node" 1783,s "npredecessors" 1784,s "successors" 1785] 1,#[]⟩
def o1115 := D #[d P "__module__" 1778 (s "cpy313.graphlib" 1763),d P "__firstlineno__" 1782 (.int (702) 1781),d P "__slots__" 1786 (r 1105),d P "__init__" 1794 (r 1112),d P "__static_attributes__" 1798 (r 1113),d P "node" 1800 (r 1117),d P "npredecessors" 1802 (r 1118),d P "successors" 1804 (r 1119),d P "__doc__" 1805 n] 5
def o1116 := L ⟨t "type",none,.cls ⟨(q "_NodeInfo"), [t "object"], [r 1116,t "object"], 1115, (q "_NodeInfo"), false, [(q "node"), (q "npredecessors"), (q "successors")], [], false, none, false⟩,#[none,none,some (s "_NodeInfo" 1771),some (s "_NodeInfo" 1779),some (b "object.__new__"),some (.bool false)]⟩
def o1117 := F (t "member_descriptor") [s "node" 1799,r 1116,b "proto.slot",b "proto.slot#set",I 2]
def o1118 := F (t "member_descriptor") [s "npredecessors" 1801,r 1116,b "proto.slot",b "proto.slot#set",I 1]
def o1119 := F (t "member_descriptor") [s "successors" 1803,r 1116,b "proto.slot",b "proto.slot#set",I 0]
def o1120 := F (t "super") [r 1116,r 1116,r 1116]
def o1121 := F (t "builtin_function_or_method") [b "object.__init_subclass__",r 1116]
def o1122 := T [t "ValueError"]
def o1124 := D #[d P "__module__" 1815 (s "cpy313.graphlib" 1763),d P "__qualname__" 1817 (s "CycleError" 1816),d P "__firstlineno__" 1819 (.int (709) 1818),d P "__static_attributes__" 1820 (r 1129)] 4
def o1127 := F (t "code") [s "CycleError" 1810,s "CycleError" 1811,c 1812,I 709,I 0,I 0,I 0,I 0,r 1125,.bool false,I 379,r 1126,n,n,n,n,I 1813,I 709,c 1814]
def o1128 := L ⟨t "frame",none,.plain,#[some (r 1127),some (r 3),some (r 1124),none,some (s "cpy313.graphlib" 1763),none,some (r 0)]⟩
def o1130 := D #[d P "__module__" 1815 (s "cpy313.graphlib" 1763),d P "__firstlineno__" 1819 (.int (709) 1818),d P "__static_attributes__" 1820 (r 1129),d P "__weakref__" 1822 (r 1132),d P "__doc__" 1823 n] 3
def o1131 := L ⟨t "type",none,.cls ⟨(q "CycleError"), [t "ValueError"], [r 1131,t "ValueError",t "Exception",t "BaseException",t "object"], 1130, (q "CycleError"), true, [], [], false, none, false⟩,#[some (r 1122),none,some (s "CycleError" 1808),some (s "CycleError" 1816),some (b "ValueError.__new__"),some (.bool true)]⟩
def o1132 := F (t "getset_descriptor") [s "__weakref__" 1821,r 1131,b "ExceptionGroup.__weakref__",n]
def o1133 := F (t "super") [r 1131,r 1131,r 1131]
def o1134 := F (t "builtin_function_or_method") [b "object.__init_subclass__",r 1131]
def o1137 := D #[d P "__module__" 1833 (s "cpy313.graphlib" 1763),d P "__qualname__" 1835 (s "TopologicalSorter" 1834),d P "__firstlineno__" 1837 (.int (711) 1836),d P "__init__" 1847 (r 1149),d P "_get_nodeinfo" 1856 (r 1156),d P "add" 1868 (r 1163),d P "prepare" 1874 (r 1168),d P "get_ready" 1884 (r 1175),d P "is_active" 1891 (r 1182),d P "__bool__" 1898 (r 1189),d P "done" 1912 (r 1196),d P "_find_cycle" 1925 (r 1203),d P "static_order" 1932 (r 1210),d P "__static_attributes__" 1937 (r 1211)] 14
def o1139 := F n [I 713,I 4,r 1148,I 722,I 4,r 1155,I 727,I 4,r 1162,I 736,I 4,r 1167,I 744,I 4,r 1174,I 755,I 4,r 1181,I 760,I 4,r 1188,I 763,I 4,r 1195,I 786,I 4,r 1202,I 815,I 4,r 1209]
def o1140 := F (t "code") [s "TopologicalSorter" 1828,s "TopologicalSorter" 1829,c 1830,I 711,I 0,I 0,I 0,I 0,r 1138,.bool false,I 379,r 1139,n,n,n,n,I 1831,I 711,c 1832]
def o1141 := L ⟨t "frame",none,.plain,#[some (r 1140),some (r 3),some (r 1137),none,some (s "cpy313.graphlib" 1763),none,some (r 0)]⟩
def o1142 := T [n]
def o1145 := T [s "self" 1841,s "graph" 1842,s "node" 1843,s "predecessors" 1844]
def o1147 := G (inC 50 0) "__init__" "TopologicalSorter.__init__"
def o1148 := C "__init__" "TopologicalSorter.__init__" 1838 713 2 0 0 3 (r 1143) (r 1144) n (r 1145) (r 1146) (r 1147) 1845
def o1149 := L ⟨t "function",none,.func (fd (inC 50 0) "__init__" "TopologicalSorter.__init__" 3 [] (.ref 1142) .none .none (.str (q "cpy313.graphlib") 1763) none (.ref 1148) .none 0),#[]⟩
def o1152 := T [s "self" 1851,s "node" 1852,s "result" 1853]
def o1154 := G (inC 50 1) "_get_nodeinfo" "TopologicalSorter._get_nodeinfo"
def o1155 := C "_get_nodeinfo" "TopologicalSorter._get_nodeinfo" 1848 722 2 0 0 3 (r 1150) (r 1151) n (r 1152) (r 1153) (r 1154) 1854
def o1156 := U (inC 50 1) "_get_nodeinfo" "TopologicalSorter._get_nodeinfo" "cpy313.graphlib" 1763 1155
def o1159 := T [s "self" 1860,s "node" 1861,s "predecessors" 1862,s "nodeinfo" 1863,s "pred" 1864,s "pred_info" 1865]
def o1161 := G (inC 50 2) "add" "TopologicalSorter.add"
def o1162 := C "add" "TopologicalSorter.add" 1857 727 2 0 0 7 (r 1157) (r 1158) n (r 1159) (r 1160) (r 1161) 1866
def o1163 := U (inC 50 2) "add" "TopologicalSorter.add" "cpy313.graphlib" 1763 1162
def o1166 := G (inC 50 3) "prepare" "TopologicalSorter.prepare"
def o1167 := C "prepare" "TopologicalSorter.prepare" 1869 736 1 0 0 3 (r 1164) (r 1165) n n n (r 1166) 1872
def o1168 := U (inC 50 3) "prepare" "TopologicalSorter.prepare" "cpy313.graphlib" 1763 1167
def o1171 := T [s "self" 1878,s "result" 1879,s "n2i" 1880,s "node" 1881]
def o1173 := G (inC 50 4) "get_ready" "TopologicalSorter.get_ready"
def o1174 := C "get_ready" "TopologicalSorter.get_ready" 1875 744 1 0 0 3 (r 1169) (r 1170) n (r 1171) (r 1172) (r 1173) 1882
def o1175 := U (inC 50 4) "get_ready" "TopologicalSorter.get_ready" "cpy313.graphlib" 1763 1174
def o1178 := T [s "self" 1888]
def o1180 := G (inC 50 5) "is_active" "TopologicalSorter.is_active"
def o1181 := C "is_active" "TopologicalSorter.is_active" 1885 755 1 0 0 3 (r 1176) (r 1177) n (r 1178) (r 1179) (r 1180) 1889
def o1182 := U (inC 50 5) "is_active" "TopologicalSorter.is_active" "cpy313.graphlib" 1763 1181
def o1185 := T [s "self" 1895]
def o1187 := G (inC 50 6) "__bool__" "TopologicalSorter.__bool__"
def o1188 := C "__bool__" "TopologicalSorter.__bool__" 1892 760 1 0 0 3 (r 1183) (r 1184) n (r 1185) (r 1186) (r 1187) 1896
def o1189 := U (inC 50 6) "__bool__" "TopologicalSorter.__bool__" "cpy313.graphlib" 1763 1188
def o1192 := T [s "self" 1902,s "nodes" 1903,s "n2i" 1904,s "node" 1905,s "nodeinfo" 1906,s "stat" 1907,s "successor" 1908,s "successor_info" 1909]
def o1194 := G (inC 50 7) "done" "TopologicalSorter.done"
def o1195 := C "done" "TopologicalSorter.done" 1899 763 1 0 0 7 (r 1190) (r 1191) n (r 1192) (r 1193) (r 1194) 1910
def o1196 := U (inC 50 7) "done" "TopologicalSorter.done" "cpy313.graphlib" 1763 1195
def o1199 := T [s "self" 1916,s "n2i" 1917,s "stack" 1918,s "itstack" 1919,s "seen" 1920,s "node2stacki" 1921,s "node" 1922]
def o1201 := G (inC 50 8) "_find_cycle" "TopologicalSorter._find_cycle"
def o1202 := C "_find_cycle" "TopologicalSorter._find_cycle" 1913 786 1 0 0 3 (r 1197) (r 1198) n (r 1199) (r 1200) (r 1201) 1923
def o1203 := U (inC 50 8) "_find_cycle" "TopologicalSorter._find_cycle" "cpy313.graphlib" 1763 1202
def o1206 := T [s "self" 1929]
def o1208 := G (inC 50 9) "static_order" "TopologicalSorter.static_order"
def o1209 := C "static_order" "TopologicalSorter.static_order" 1926 815 1 0 0 3 (r 1204) (r 1205) n (r 1206) (r 1207) (r 1208) 1930
def o1210 := U (inC 50 9) "static_order" "TopologicalSorter.static_order" "cpy313.graphlib" 1763 1209
def o1211 := T [s "_nfinished" 1933,s "_node2info" 1934,s "_npassedout" 1935,s "_ready_nodes" 1936]
def o1212 := D #[d P "__module__" 1833 (s "cpy313.graphlib" 1763),d P "__firstlineno__" 1837 (.int (711) 1836),d P "__init__" 1847 (r 1149),d P "_get_nodeinfo" 1856 (r 1156),d P "add" 1868 (r 1163),d P "prepare" 1874 (r 1168),d P "get_ready" 1884 (r 1175),d P "is_active" 1891 (r 1182),d P "__bool__" 1898 (r 1189),d P "done" 1912 (r 1196),d P "_find_cycle" 1925 (r 1203),d P "static_order" 1932 (r 1210),d P "__static_attributes__" 1937 (r 1211),d P "__dict__" 1939 (r 1214),d P "__weakref__" 1941 (r 1215),d P "__doc__" 1942 n] 4
def o1213 := L ⟨t "type",none,.cls ⟨(q "TopologicalSorter"), [t "object"], [r 1213,t "object"], 1212, (q "TopologicalSorter"), true, [], [], false, none, false⟩,#[none,none,some (s "TopologicalSorter" 1826),some (s "TopologicalSorter" 1834),some (b "object.__new__"),some (.bool true)]⟩
def o1214 := F (t "getset_descriptor") [s "__dict__" 1938,r 1213,b "function.__dict__",b "function.__dict__#set"]
def o1215 := F (t "getset_descriptor") [s "__weakref__" 1940,r 1213,b "ExceptionGroup.__weakref__",n]
def o1216 := F (t "super") [r 1213,r 1213,r 1213]
def o1217 := F (t "builtin_function_or_method") [b "object.__init_subclass__",r 1213]
def o1220 := T [s "names" 1950,s "needs" 1951,s "head" 1952,s "sorter" 1953,s "name" 1954,s "waits" 1955]
def o1222 := G (stA 52) "_law_waits" "_law_waits"
def o1223 := C "_law_waits" "_law_waits" 1947 818 3 0 0 3 (r 1218) (r 1219) n (r 1220) (r 1221) (r 1222) 1956
def o1224 := U (stA 52) "_law_waits" "_law_waits" "law_dn0070_12" 1945 1223
def o1227 := G (stA 53) "_law_parts" "_law_parts"
def o1228 := C "_law_parts" "_law_parts" 1959 829 1 0 0 3 (r 1225) (r 1226) n n n (r 1227) 1962
def o1229 := U (stA 53) "_law_parts" "_law_parts" "law_dn0070_12" 1945 1228
def o1232 := G (stA 54) "_law_steps" "_law_steps"
def o1233 := C "_law_steps" "_law_steps" 1965 834 3 0 0 3 (r 1230) (r 1231) n n n (r 1232) 1968
def o1234 := U (stA 54) "_law_steps" "_law_steps" "law_dn0070_12" 1945 1233
def o1237 := G (stA 55) "_law_chains" "_law_chains"
def o1238 := C "_law_chains" "_law_chains" 1971 839 3 0 0 3 (r 1235) (r 1236) n n n (r 1237) 1974
def o1239 := U (stA 55) "_law_chains" "_law_chains" "law_dn0070_12" 1945 1238
def o1242 := G (stA 56) "law" "law"
def o1243 := C "law" "law" 1977 849 1 0 0 3 (r 1240) (r 1241) n n n (r 1242) 1980
def o1244 := U (stA 56) "law" "law" "law_dn0070_12" 1945 1243
def mO : Params -> BT := A o0 (A o1 (A o3v0 (A o7 (A o15 (B o31) (B o20)) (A o23 (B o39) e)) (A o11 (A o19 (B o7) e) (A o27 (B o43) e))) (A o5 (A o9 (A o17 (B o33) (B o49)) (A o25 (B o41) e)) (A o13 (A o21 (B o37) e) (A o29 (B o45) e)))) (A o2 (A o4 (A o8 (A o7 (B o32) (B o48)) (A o24 (B o40) e)) (A o12v0 (A o20 (B o36) e) (A o28 (B o44) e))) (A o6 (A o10 (A o18 (B o34) e) (A o26 (B o42) e)) (A o14 (A o22 (B o38) e) (A o30v0 (B o46) e))))
def pQ : Params -> BT := A o0 (A o1 (A o3v0 (A o7 (A o15 (B o31) (B o20)) (A o23 (B o39) e)) (A o11 (A o19 (B o7) (B o8)) (A o27 (B o43) e))) (A o5 (A o9 (A o17 (B o33) (B o49)) (A o25 (B o41) e)) (A o13 (A o21 (B o37) (B o53)) (A o29 (B o45) e)))) (A o2 (A o4 (A o8 (A o7 (B o32) (B o48)) (A o24 (B o40) e)) (A o12 (A o20 (B o36) (B o52)) (A o28 (B o44) e))) (A o6 (A o10 (A o18 (B o34) (B o7)) (A o26 (B o42) e)) (A o14 (A o22 (B o38) e) (A o30 (B o46) e))))
def pV : Params -> BT := A o0 (A o1 (A o3v20 (A o7 (A o15 (A o31 (A o63 (A o7 (A o255 (B o7) e) (B o8)) (A o7 (B o7) (B o7))) (A o8 (A o159 (B o287) (B o415)) (A o223 (B o351) (B o479)))) (A o20 (A o79 (A o143 (B o271) (B o399v1)) (A o7 (B o335) (B o463))) (A o7 (A o175 (B o8) (B o431)) (A o7 (B o367) (B o495))))) (A o23 (A o39 (A o7 (A o8 (A o263 (B o519) e) (B o391)) (A o7 (B o327) (B o8))) (A o103 (A o167 (B o7) (B o423)) (A o7 (B o359) (B o487)))) (A o8 (A o87 (A o7 (B o279) (B o407)) (A o8 (B o343) (B o471))) (A o119 (A o183 (B o311) (B o439)) (A o247 (B o7) (B o503)))))) (A o11 (A o19 (A o7 (A o67 (A o131 (A o259 (B o515) e) (B o387)) (A o195 (B o7) (B o451))) (A o99 (A o163 (B o291) (B o7)) (A o227 (B o8) (B o7)))) (A o51v17 (A o83 (A o147 (B o275) (B o287)) (A o211 (B o6) (B o467))) (A o7 (A o179 (B o307) (B o435)) (A o7 (B o371) (B o499))))) (A o27 (A o43 (A o7 (A o139 (A o267 (B o523) e) (B o395)) (A o203 (B o8) (B o459))) (A o107 (A o8 (B o299) (B o8)) (A o7 (B o363) (B o8)))) (A o59 (A o91 (A o7 (B o283v3) (B o7)) (A o219 (B o7) (B o475))) (A o7 (A o7 (B o315) (B o7)) (A o8 (B o379) (B o7))))))) (A o5 (A o9 (A o17 (A o33 (A o65 (A o129 (A o7 (B o513) e) (B o7)) (A o193 (B o321) (B o449))) (A o7 (A o161 (B o289) (B o417)) (A o225 (B o353) (B o481)))) (A o49 (A o81 (A o145 (B o7) (B o401)) (A o209 (B o337) (B o465))) (A o113 (A o7 (B o7) (B o7)) (A o241 (B o8) (B o7))))) (A o25 (A o41 (A o73 (A o7 (A o265 (B o521v0) e) (B o393)) (A o201 (B o329) (B o7))) (A o105 (A o7 (B o297) (B o425)) (A o233 (B o7) (B o489)))) (A o7 (A o89 (A o153 (B o20) (B o409)) (A o7 (B o345) (B o473))) (A o8 (A o8 (B o313) (B o8)) (A o249 (B o377) (B o8)))))) (A o13 (A o21 (A o37 (A o69 (A o133 (A o261 (B o517) e) (B o7)) (A o197 (B o325) (B o453))) (A o7 (A o7 (B o293) (B o421)) (A o163 (B o7) (B o485)))) (A o53 (A o85 (A o8 (B o277) (B o405)) (A o213 (B o8) (B o20))) (A o117 (A o181 (B o7) (B o437)) (A o245 (B o373) (B o501))))) (A o29 (A o45 (A o77 (A o7 (A o269 (B o525) e) (B o20)) (A o205 (B o7) (B o7))) (A o8 (A o7 (B o301) (B o7)) (A o8 (B o365) (B o7)))) (A o7 (A o93 (A o157 (B o285) (B o413)) (A o7 (B o349) (B o477))) (A o125 (A o189 (B o8) (B o445)) (A o7 (B o381) (B o509)))))))) (A o2 (A o4 (A o8 (A o7 (A o32 (A o7 (A o8 (A o256 (B o8) e) (B o384)) (A o20 (B o320) (B o8))) (A o96 (A o160 (B o163) (B o416)) (A o224 (B o352) (B o480)))) (A o48 (A o80 (A o7 (B o7) (B o400)) (A o8 (B o336) (B o7))) (A o112 (A o176 (B o304) (B o432)) (A o240 (B o7) (B o496))))) (A o24 (A o40 (A o72 (A o136 (A o264 (B o520) e) (B o7)) (A o163 (B o328) (B o456))) (A o7 (A o168 (B o8) (B o424)) (A o232 (B o360) (B o488)))) (A o56 (A o69 (A o152 (B o7) (B o408)) (A o216 (B o344) (B o472))) (A o7 (A o7 (B o7) (B o7)) (A o248 (B o8) (B o7)))))) (A o12 (A o20 (A o36 (A o68 (A o132 (A o260 (B o516) e) (B o388)) (A o196 (B o8) (B o452))) (A o100 (A o164 (B o292) (B o8)) (A o7 (B o356) (B o8)))) (A o52 (A o84 (A o7 (B o7) (B o163)) (A o212 (B o7) (B o7))) (A o116 (A o7 (B o308) (B o7)) (A o8 (B o372) (B o7))))) (A o28 (A o44 (A o8 (A o140 (A o7 (B o524) e) (B o7)) (A o204 (B o332) (B o460))) (A o7 (A o172 (B o300) (B o428)) (A o7 (B o364) (B o492)))) (A o60 (A o92 (A o8 (B o284) (B o8)) (A o220 (B o8) (B o163))) (A o124 (A o188 (B o7) (B o444)) (A o252 (B o380) (B o508))))))) (A o6 (A o10 (A o18 (A o34 (A o66 (A o7 (A o20 (B o7) e) (B o386)) (A o194 (B o322) (B o7))) (A o98 (A o7 (B o7) (B o879)) (A o226 (B o7) (B o482)))) (A o7 (A o7 (A o146 (B o8) (B o402)) (A o7 (B o338) (B o466))) (A o114 (A o8 (B o306) (B o8)) (A o242 (B o370) (B o8))))) (A o26 (A o42 (A o74 (A o138 (A o163 (B o522) e) (B o394)) (A o7 (B o7) (B o458))) (A o106 (A o7 (B o7) (B o7)) (A o234 (B o8) (B o7)))) (A o58 (A o7 (A o154 (B o282) (B o7)) (A o218 (B o346) (B o474))) (A o122 (A o186 (B o314) (B o442)) (A o7 (B o7) (B o506)))))) (A o14 (A o22 (A o38 (A o70 (A o7 (A o262 (B o518) e) (B o8)) (A o198 (B o7) (B o7))) (A o8 (A o166 (B o7) (B o7)) (A o230 (B o358) (B o7)))) (A o7 (A o86 (A o150 (B o278) (B o7)) (A o7 (B o342) (B o470))) (A o118 (A o182 (B o8) (B o438)) (A o7 (B o374) (B o502))))) (A o30 (A o46 (A o7 (A o8 (B o270) (B o398)) (A o7 (B o334) (B o8))) (A o110 (A o174 (B o7) (B o430)) (A o238 (B o366) (B o494)))) (A o8 (A o7 (A o7 (B o286) (B o7)) (A o20 (B o7) (B o7))) (A o126 (A o190 (B o318) (B o446)) (A o254 (B o7) (B o510))))))))
def pU : Params -> BT := A o0 (A o1 (A o3v37 (A o7 (A o15 (A o31 (A o63 (A o7 (A o255 (A o7 (B o7) e) (B o767)) (A o8 (B o8) (B o7))) (A o7 (A o7 (A o575 (B o7) e) (B o7)) (A o7 (B o7) (B o880)))) (A o8 (A o159 (A o287 (A o6 (B o1055) e) (B o7)) (A o415 (B o7) (B o6))) (A o223 (A o351 (B o607) (B o863)) (A o479 (B o735) (B o991))))) (A o20 (A o79 (A o143 (A o271 (A o163 (B o1039) e) (B o783)) (A o399 (B o655) (B o8))) (A o7 (A o335 (B o591) (B o847)) (A o463 (B o719) (B o8)))) (A o7 (A o175 (A o8 (A o8 (B o8) e) (B o815)) (A o431 (B o687) (B o943))) (A o7 (A o367 (B o7) (B o879)) (A o495 (B o7) (B o1007)))))) (A o23 (A o39 (A o7 (A o8 (A o263 (A o519 (B o8) e) (B o775)) (A o391 (B o647) (B o7))) (A o7 (A o327 (A o583 (B o1095) e) (B o7)) (A o8 (B o711) (B o7)))) (A o103 (A o167 (A o7 (A o7 (B o7) e) (B o8)) (A o423 (B o69) (B o935))) (A o7 (A o359 (B o615) (B o871)) (A o487 (B o743) (B o999))))) (A o8 (A o87 (A o7 (A o279 (A o8 (B o7) e) (B o7)) (A o407 (B o663) (B o8))) (A o8 (A o343 (B o7) (B o855)) (A o471 (B o7) (B o983)))) (A o119 (A o183 (A o311 (A o567 (B o1079) e) (B o823)) (A o439 (B o7) (B o951))) (A o247 (A o7 (B o7) (B o887)) (A o503 (B o759) (B o1015))))))) (A o11 (A o19 (A o7 (A o67 (A o131 (A o259 (A o515 (B o1027) e) (B o771)) (A o387 (B o643) (B o899))) (A o195 (A o7 (A o7 (B o7) e) (B o835)) (A o451 (B o7) (B o7)))) (A o99 (A o163 (A o291 (A o7 (B o8) e) (B o803)) (A o7 (B o675) (B o8))) (A o227 (A o8 (B o20) (B o867)) (A o7 (B o7) (B o7))))) (A o51v30 (A o83 (A o147 (A o275 (A o531 (B o1043) e) (B o787)) (A o287 (B o659) (B o915))) (A o211 (A o6 (B o595) (B o8)) (A o467 (B o723) (B o979)))) (A o7 (A o179 (A o307 (A o563 (B o1075) e) (B o819)) (A o435 (B o691) (B o947))) (A o7 (A o371 (B o7) (B o883)) (A o499 (B o7) (B o1011)))))) (A o27 (A o43 (A o7 (A o139 (A o267 (A o523 (B o1035) e) (B o7)) (A o395 (B o879) (B o907))) (A o203 (A o8 (B o587) (B o7)) (A o459 (B o715) (B o971)))) (A o107 (A o8 (A o299 (A o555 (B o1067) e) (B o811)) (A o8 (B o683) (B o8))) (A o7 (A o363 (B o7) (B o7)) (A o8 (B o747) (B o8))))) (A o59 (A o91 (A o7 (A o283 (A o539 (B o7) e) (B o795)) (A o7 (B o7) (B o923))) (A o219 (A o7 (B o7) (B o859)) (A o475 (B o731) (B o987)))) (A o7 (A o7 (A o315 (A o526 (B o1083) e) (B o827)) (A o7 (B o699) (B o7))) (A o8 (A o379 (B o635) (B o7)) (A o7 (B o8) (B o7)))))))) (A o5 (A o9 (A o17 (A o33 (A o65 (A o129 (A o7 (A o513 (B o1025) e) (B o7)) (A o7 (B o7) (B o897))) (A o193 (A o321 (A o577 (B o1089) e) (B o833)) (A o449 (B o705) (B o8)))) (A o7 (A o161 (A o289 (A o8 (B o1057) e) (B o801)) (A o417 (B o673) (B o880))) (A o225 (A o353 (B o609) (B o865)) (A o481 (B o737) (B o993))))) (A o49 (A o81 (A o145 (A o7 (A o7 (B o1041) e) (B o785)) (A o401 (B o7) (B o7))) (A o209 (A o337 (B o593) (B o849)) (A o465 (B o721) (B o977)))) (A o113 (A o7 (A o7 (A o7 (B o7) e) (B o817)) (A o7 (B o689) (B o7))) (A o241 (A o8 (B o8) (B o881)) (A o7 (B o753) (B o7)))))) (A o25 (A o41 (A o73 (A o7 (A o265 (A o521 (B o7) e) (B o8)) (A o393 (B o649) (B o905))) (A o201 (A o329 (A o585 (B o1097) e) (B o841)) (A o7 (B o713) (B o969)))) (A o105 (A o7 (A o297 (A o553 (B o1065) e) (B o7)) (A o425 (B o7) (B o937))) (A o233 (A o7 (B o163) (B o873)) (A o489 (B o745) (B o1001))))) (A o7 (A o89 (A o153 (A o20 (A o7 (B o1049) e) (B o793)) (A o409 (B o8) (B o7))) (A o7 (A o345 (B o601) (B o7)) (A o473 (B o729) (B o985)))) (A o8 (A o8 (A o313 (A o569 (B o1081) e) (B o825)) (A o8 (B o697) (B o8))) (A o249 (A o377 (B o633) (B o8)) (A o8 (B o761) (B o8))))))) (A o13 (A o21 (A o37 (A o69 (A o133 (A o261 (A o517 (B o1029) e) (B o773)) (A o7 (B o7) (B o901))) (A o197 (A o325 (A o581 (B o1093) e) (B o8)) (A o453 (B o709) (B o965)))) (A o7 (A o7 (A o293 (A o549 (B o1061) e) (B o805)) (A o421 (B o677) (B o7))) (A o163 (A o7 (B o613) (B o869)) (A o485 (B o741) (B o997))))) (A o53 (A o85 (A o8 (A o277 (A o7 (B o8) e) (B o789)) (A o405 (B o661) (B o879))) (A o213 (A o8 (B o8) (B o7)) (A o20 (B o8) (B o7)))) (A o117 (A o181 (A o7 (A o7 (B o7) e) (B o821)) (A o437 (B o69) (B o949))) (A o245 (A o373 (B o629) (B o885)) (A o501 (B o757) (B o1013)))))) (A o29 (A o45 (A o77 (A o7 (A o269 (A o525 (B o7) e) (B o781)) (A o20 (B o8) (B o909))) (A o205 (A o7 (B o7) (B o845)) (A o7 (B o7) (B o973)))) (A o8 (A o7 (A o301 (A o557 (B o1069) e) (B o7)) (A o7 (B o7) (B o7))) (A o8 (A o365 (B o621) (B o877)) (A o7 (B o8) (B o1005))))) (A o7 (A o93 (A o157 (A o285 (A o541 (B o1053) e) (B o797)) (A o413 (B o669) (B o925))) (A o7 (A o349 (B o605) (B o861)) (A o477 (B o733) (B o8)))) (A o125 (A o189 (A o8 (A o573 (B o8) e) (B o69)) (A o445 (B o8) (B o957))) (A o7 (A o381 (B o637) (B o893)) (A o509 (B o7) (B o1021))))))))) (A o2 (A o4 (A o8 (A o7 (A o32 (A o7 (A o8 (A o256 (A o8 (B o8) e) (B o768)) (A o384 (B o640) (B o8))) (A o20 (A o320 (A o576 (B o1088) e) (B o832)) (A o8 (B o704) (B o960)))) (A o96 (A o160 (A o163 (A o7 (B o1056) e) (B o8)) (A o416 (B o8) (B o928))) (A o224 (A o352 (B o608) (B o864)) (A o480 (B o736) (B o992))))) (A o48 (A o80 (A o7 (A o7 (A o528 (B o7) e) (B o784)) (A o400 (B o656) (B o912))) (A o8 (A o336 (B o7) (B o848)) (A o7 (B o7) (B o976)))) (A o112 (A o176 (A o304 (A o560 (B o1072) e) (B o7)) (A o432 (B o688) (B o944))) (A o240 (A o7 (B o7) (B o880)) (A o496 (B o752) (B o1008)))))) (A o24 (A o40 (A o72 (A o136 (A o264 (A o520 (B o1032) e) (B o7)) (A o7 (B o648) (B o8))) (A o163 (A o328 (A o584 (B o1096) e) (B o840)) (A o456 (B o712) (B o8)))) (A o7 (A o168 (A o8 (A o8 (B o8) e) (B o808)) (A o424 (B o680) (B o936))) (A o232 (A o360 (B o616) (B o69)) (A o488 (B o744) (B o1000))))) (A o56 (A o69 (A o152 (A o7 (A o536 (B o1048) e) (B o69)) (A o408 (B o7) (B o920))) (A o216 (A o344 (B o600) (B o856)) (A o472 (B o728) (B o7)))) (A o7 (A o7 (A o7 (A o568 (B o7) e) (B o824)) (A o7 (B o696) (B o7))) (A o248 (A o8 (B o8) (B o7)) (A o7 (B o760) (B o7))))))) (A o12 (A o20 (A o36 (A o68 (A o132 (A o260 (A o516 (B o1028) e) (B o7)) (A o388 (B o644) (B o900))) (A o196 (A o8 (A o8 (B o1092) e) (B o7)) (A o452 (B o8) (B o964)))) (A o100 (A o164 (A o292 (A o548 (B o1060) e) (B o804)) (A o8 (B o676) (B o932))) (A o7 (A o356 (B o612) (B o868)) (A o8 (B o69) (B o8))))) (A o52 (A o84 (A o7 (A o7 (A o532 (B o7) e) (B o788)) (A o163 (B o7) (B o916))) (A o212 (A o7 (B o7) (B o852)) (A o7 (B o7) (B o980)))) (A o116 (A o7 (A o308 (A o564 (B o1076) e) (B o820)) (A o7 (B o7) (B o7))) (A o8 (A o372 (B o628) (B o7)) (A o7 (B o8) (B o7)))))) (A o28 (A o44 (A o8 (A o140 (A o7 (A o524 (B o1036) e) (B o780)) (A o7 (B o7) (B o908))) (A o204 (A o332 (B o6) (B o8)) (A o460 (B o6) (B o972)))) (A o7 (A o172 (A o300 (A o556 (B o1068) e) (B o812)) (A o428 (B o684) (B o940))) (A o7 (A o364 (B o620) (B o876)) (A o492 (B o7) (B o1004))))) (A o60 (A o92 (A o8 (A o284 (A o540 (B o8) e) (B o796)) (A o8 (B o668) (B o924))) (A o220 (A o8 (B o8) (B o7)) (A o163 (B o732) (B o7)))) (A o124 (A o188 (A o7 (A o163 (B o7) e) (B o7)) (A o444 (B o7) (B o956))) (A o252 (A o380 (B o636) (B o892)) (A o508 (B o764) (B o1020)))))))) (A o6 (A o10 (A o18 (A o34 (A o66 (A o7 (A o20 (A o7 (B o7) e) (B o8)) (A o386 (B o642) (B o7))) (A o194 (A o322 (A o7 (B o1090) e) (B o834)) (A o7 (B o706) (B o962)))) (A o98 (A o7 (A o7 (A o546 (B o7) e) (B o7)) (A o879 (B o7) (B o930))) (A o226 (A o7 (B o7) (B o866)) (A o482 (B o738) (B o994))))) (A o7 (A o7 (A o146 (A o8 (A o530 (B o1042) e) (B o786)) (A o402 (B o8) (B o914))) (A o7 (A o338 (B o594) (B o7)) (A o466 (B o722) (B o978)))) (A o114 (A o8 (A o306 (A o562 (B o1074) e) (B o818)) (A o8 (B o690) (B o8))) (A o242 (A o370 (B o626) (B o8)) (A o8 (B o754) (B o8)))))) (A o26 (A o42 (A o74 (A o138 (A o163 (A o522 (B o1034) e) (B o778)) (A o394 (B o650) (B o7))) (A o7 (A o7 (B o586) (B o842)) (A o458 (B o714) (B o7)))) (A o106 (A o7 (A o7 (A o7 (B o7) e) (B o810)) (A o7 (B o8) (B o7))) (A o234 (A o8 (B o618) (B o874)) (A o7 (B o746) (B o7))))) (A o58 (A o7 (A o154 (A o282 (A o538 (B o1050) e) (B o7)) (A o7 (B o666) (B o922))) (A o218 (A o346 (B o602) (B o8)) (A o474 (B o730) (B o986)))) (A o122 (A o186 (A o314 (A o570 (B o1082) e) (B o826)) (A o442 (B o698) (B o954))) (A o7 (A o7 (B o7) (B o890)) (A o506 (B o7) (B o1018))))))) (A o14 (A o22 (A o38 (A o70 (A o7 (A o262 (A o518 (B o7) e) (B o774)) (A o8 (B o20) (B o879))) (A o198 (A o7 (A o7 (B o1094) e) (B o838)) (A o7 (B o7) (B o966)))) (A o8 (A o166 (A o7 (A o550 (B o1062) e) (B o7)) (A o7 (B o7) (B o934))) (A o230 (A o358 (B o614) (B o870)) (A o7 (B o7) (B o7))))) (A o7 (A o86 (A o150 (A o278 (A o7 (B o1046) e) (B o790)) (A o7 (B o662) (B o7))) (A o7 (A o342 (B o598) (B o854)) (A o470 (B o726) (B o8)))) (A o118 (A o182 (A o8 (A o20 (B o8) e) (B o822)) (A o438 (B o694) (B o950))) (A o7 (A o374 (B o630) (B o886)) (A o502 (B o7) (B o1014)))))) (A o30 (A o46 (A o7 (A o8 (A o270 (A o526 (B o8) e) (B o782)) (A o398 (B o654) (B o7))) (A o7 (A o334 (B o8) (B o7)) (A o8 (B o8) (B o7)))) (A o110 (A o174 (A o7 (A o7 (B o7) e) (B o8)) (A o430 (B o686) (B o942))) (A o238 (A o366 (B o622) (B o878)) (A o494 (B o750) (B o1006))))) (A o8 (A o7 (A o7 (A o286 (A o542 (B o7) e) (B o798)) (A o7 (B o670) (B o926))) (A o20 (A o7 (B o7) (B o862)) (A o7 (B o734) (B o990)))) (A o126 (A o190 (A o318 (A o7 (B o1086) e) (B o830)) (A o446 (B o702) (B o958))) (A o254 (A o7 (B o7) (B o894)) (A o510 (B o766) (B o1022)))))))))
def pT : Params -> BT := A o0 (A o1 (A o3 (A o7 (A o15 (A o31 (A o63 (A o7 (A o255 (A o7 (B o7) e) (B o767)) (A o8 (A o8 (B o8) e) (B o7))) (A o7 (A o7 (A o575 (B o7) e) (B o7)) (A o7 (A o7 (B o1215) e) (B o880)))) (A o8 (A o159 (A o287 (A o6 (B o1055) e) (B o7)) (A o415 (A o7 (B o7) e) (B o6))) (A o223 (A o351 (A o607 (B o1119) e) (B o863)) (A o479 (B o735) (B o991))))) (A o20 (A o79 (A o143 (A o271 (A o163 (B o1039) e) (B o783)) (A o399 (A o655 (B o1167) e) (B o8))) (A o7 (A o335 (A o591 (B o1103) e) (B o847)) (A o463 (A o719 (B o8) e) (B o8)))) (A o7 (A o175 (A o8 (A o8 (B o8) e) (B o815)) (A o431 (A o687 (B o1199) e) (B o943))) (A o7 (A o367 (A o7 (B o7) e) (B o879)) (A o495 (B o7) (B o1007)))))) (A o23 (A o39 (A o7 (A o8 (A o263 (A o519 (B o8) e) (B o775)) (A o391 (A o647 (B o1159) e) (B o7))) (A o7 (A o327 (A o583 (B o1095) e) (B o7)) (A o8 (A o711 (B o1223) e) (B o7)))) (A o103 (A o167 (A o7 (A o7 (B o7) e) (B o8)) (A o423 (A o69 (B o8) e) (B o935))) (A o7 (A o359 (A o615 (B o1127) e) (B o871)) (A o487 (B o743) (B o999))))) (A o8 (A o87 (A o7 (A o279 (A o8 (B o7) e) (B o7)) (A o407 (A o663 (B o1175) e) (B o8))) (A o8 (A o343 (A o7 (B o1111) e) (B o855)) (A o471 (A o7 (B o1239) e) (B o983)))) (A o119 (A o183 (A o311 (A o567 (B o1079) e) (B o823)) (A o439 (A o7 (B o7) e) (B o951))) (A o247 (A o7 (A o7 (B o7) e) (B o887)) (A o503 (B o759) (B o1015))))))) (A o11 (A o19 (A o7 (A o67 (A o131 (A o259 (A o515 (B o1027) e) (B o771)) (A o387 (A o643 (B o1155) e) (B o899))) (A o195 (A o7 (A o7 (B o7) e) (B o835)) (A o451 (A o7 (B o8) e) (B o7)))) (A o99 (A o163 (A o291 (A o7 (B o8) e) (B o803)) (A o7 (A o675 (B o1187) e) (B o8))) (A o227 (A o8 (A o20 (B o69) e) (B o867)) (A o7 (B o7) (B o7))))) (A o51 (A o83 (A o147 (A o275 (A o531 (B o1043) e) (B o787)) (A o287 (A o659 (B o1171) e) (B o915))) (A o211 (A o6 (A o595 (B o8) e) (B o8)) (A o467 (A o723 (B o7) e) (B o979)))) (A o7 (A o179 (A o307 (A o563 (B o1075) e) (B o819)) (A o435 (A o691 (B o1203) e) (B o947))) (A o7 (A o371 (A o7 (B o1139) e) (B o883)) (A o499 (B o7) (B o1011)))))) (A o27 (A o43 (A o7 (A o139 (A o267 (A o523 (B o1035) e) (B o7)) (A o395 (A o879 (B o1163) e) (B o907))) (A o203 (A o8 (A o587 (B o69) e) (B o7)) (A o459 (A o715 (B o1227) e) (B o971)))) (A o107 (A o8 (A o299 (A o555 (B o1067) e) (B o811)) (A o8 (A o683 (B o1195) e) (B o8))) (A o7 (A o363 (A o7 (B o1131) e) (B o7)) (A o8 (B o747) (B o8))))) (A o59 (A o91 (A o7 (A o283 (A o539 (B o7) e) (B o795)) (A o7 (A o7 (B o7) e) (B o923))) (A o219 (A o7 (A o7 (B o1115) e) (B o859)) (A o475 (A o731 (B o1243) e) (B o987)))) (A o7 (A o7 (A o315 (A o526 (B o1083) e) (B o827)) (A o7 (A o699 (B o1211) e) (B o7))) (A o8 (A o379 (A o635 (B o1147) e) (B o7)) (A o7 (B o8) (B o7)))))))) (A o5 (A o9 (A o17 (A o33 (A o65 (A o129 (A o7 (A o513 (B o1025) e) (B o7)) (A o7 (A o7 (B o7) e) (B o897))) (A o193 (A o321 (A o577 (B o1089) e) (B o833)) (A o449 (A o705 (B o1217) e) (B o8)))) (A o7 (A o161 (A o289 (A o8 (B o1057) e) (B o801)) (A o417 (A o673 (B o1185) e) (B o880))) (A o225 (A o353 (A o609 (B o1121) e) (B o865)) (A o481 (B o737) (B o993))))) (A o49 (A o81 (A o145 (A o7 (A o7 (B o1041) e) (B o785)) (A o401 (A o7 (B o7) e) (B o7))) (A o209 (A o337 (A o593 (B o1105) e) (B o849)) (A o465 (A o721 (B o1233) e) (B o977)))) (A o113 (A o7 (A o7 (A o7 (B o7) e) (B o817)) (A o7 (A o689 (B o1201) e) (B o7))) (A o241 (A o8 (A o8 (B o1137) e) (B o881)) (A o7 (B o753) (B o7)))))) (A o25 (A o41 (A o73 (A o7 (A o265 (A o521 (B o7) e) (B o8)) (A o393 (A o649 (B o1161) e) (B o905))) (A o201 (A o329 (A o585 (B o1097) e) (B o841)) (A o7 (A o713 (B o7) e) (B o969)))) (A o105 (A o7 (A o297 (A o553 (B o1065) e) (B o7)) (A o425 (A o7 (B o7) e) (B o937))) (A o233 (A o7 (A o163 (B o7) e) (B o873)) (A o489 (B o745) (B o1001))))) (A o7 (A o89 (A o153 (A o20 (A o7 (B o1049) e) (B o793)) (A o409 (A o8 (B o8) e) (B o7))) (A o7 (A o345 (A o601 (B o1113) e) (B o7)) (A o473 (A o729 (B o8) e) (B o985)))) (A o8 (A o8 (A o313 (A o569 (B o1081) e) (B o825)) (A o8 (A o697 (B o1209) e) (B o8))) (A o249 (A o377 (A o633 (B o1145) e) (B o8)) (A o8 (B o761) (B o8))))))) (A o13 (A o21 (A o37 (A o69 (A o133 (A o261 (A o517 (B o1029) e) (B o773)) (A o7 (A o7 (B o7) e) (B o901))) (A o197 (A o325 (A o581 (B o1093) e) (B o8)) (A o453 (A o709 (B o7) e) (B o965)))) (A o7 (A o7 (A o293 (A o549 (B o1061) e) (B o805)) (A o421 (A o677 (B o1189) e) (B o7))) (A o163 (A o7 (A o613 (B o7) e) (B o869)) (A o485 (B o741) (B o997))))) (A o53 (A o85 (A o8 (A o277 (A o7 (B o8) e) (B o789)) (A o405 (A o661 (B o1173) e) (B o879))) (A o213 (A o8 (A o8 (B o7) e) (B o7)) (A o20 (A o8 (B o1237) e) (B o7)))) (A o117 (A o181 (A o7 (A o7 (B o7) e) (B o821)) (A o437 (A o69 (B o8) e) (B o949))) (A o245 (A o373 (A o629 (B o1141) e) (B o885)) (A o501 (B o757) (B o1013)))))) (A o29 (A o45 (A o77 (A o7 (A o269 (A o525 (B o7) e) (B o781)) (A o20 (A o8 (B o8) e) (B o909))) (A o205 (A o7 (A o7 (B o7) e) (B o845)) (A o7 (A o7 (B o1229) e) (B o973)))) (A o8 (A o7 (A o301 (A o557 (B o1069) e) (B o7)) (A o7 (A o7 (B o7) e) (B o7))) (A o8 (A o365 (A o621 (B o1133) e) (B o877)) (A o7 (B o8) (B o1005))))) (A o7 (A o93 (A o157 (A o285 (A o541 (B o1053) e) (B o797)) (A o413 (A o669 (B o1181) e) (B o925))) (A o7 (A o349 (A o605 (B o1117) e) (B o861)) (A o477 (B o733) (B o8)))) (A o125 (A o189 (A o8 (A o573 (B o8) e) (B o69)) (A o445 (A o8 (B o1213) e) (B o957))) (A o7 (A o381 (A o637 (B o1149) e) (B o893)) (A o509 (B o7) (B o1021))))))))) (A o2 (A o4 (A o8 (A o7 (A o32 (A o7 (A o8 (A o256 (A o8 (B o8) e) (B o768)) (A o384 (A o640 (B o1152) e) (B o8))) (A o20 (A o320 (A o576 (B o1088) e) (B o832)) (A o8 (A o704 (B o1216) e) (B o960)))) (A o96 (A o160 (A o163 (A o7 (B o1056) e) (B o8)) (A o416 (A o8 (B o8) e) (B o928))) (A o224 (A o352 (A o608 (B o1120) e) (B o864)) (A o480 (B o736) (B o992))))) (A o48 (A o80 (A o7 (A o7 (A o528 (B o7) e) (B o784)) (A o400 (A o656 (B o1168) e) (B o912))) (A o8 (A o336 (A o7 (B o1104) e) (B o848)) (A o7 (A o7 (B o1232) e) (B o976)))) (A o112 (A o176 (A o304 (A o560 (B o1072) e) (B o7)) (A o432 (A o688 (B o7) e) (B o944))) (A o240 (A o7 (A o7 (B o69) e) (B o880)) (A o496 (B o752) (B o1008)))))) (A o24 (A o40 (A o72 (A o136 (A o264 (A o520 (B o1032) e) (B o7)) (A o7 (A o648 (B o7) e) (B o8))) (A o163 (A o328 (A o584 (B o1096) e) (B o840)) (A o456 (A o712 (B o1224) e) (B o8)))) (A o7 (A o168 (A o8 (A o8 (B o8) e) (B o808)) (A o424 (A o680 (B o1192) e) (B o936))) (A o232 (A o360 (A o616 (B o1128) e) (B o69)) (A o488 (B o744) (B o1000))))) (A o56 (A o69 (A o152 (A o7 (A o536 (B o1048) e) (B o69)) (A o408 (A o7 (B o7) e) (B o920))) (A o216 (A o344 (A o600 (B o1112) e) (B o856)) (A o472 (A o728 (B o7) e) (B o7)))) (A o7 (A o7 (A o7 (A o568 (B o7) e) (B o824)) (A o7 (A o696 (B o1208) e) (B o7))) (A o248 (A o8 (A o8 (B o8) e) (B o7)) (A o7 (B o760) (B o7))))))) (A o12 (A o20 (A o36 (A o68 (A o132 (A o260 (A o516 (B o1028) e) (B o7)) (A o388 (A o644 (B o1156) e) (B o900))) (A o196 (A o8 (A o8 (B o1092) e) (B o7)) (A o452 (A o8 (B o1220) e) (B o964)))) (A o100 (A o164 (A o292 (A o548 (B o1060) e) (B o804)) (A o8 (A o676 (B o1188) e) (B o932))) (A o7 (A o356 (A o612 (B o1124) e) (B o868)) (A o8 (B o69) (B o8))))) (A o52 (A o84 (A o7 (A o7 (A o532 (B o7) e) (B o788)) (A o163 (A o7 (B o7) e) (B o916))) (A o212 (A o7 (A o7 (B o1108) e) (B o852)) (A o7 (A o7 (B o8) e) (B o980)))) (A o116 (A o7 (A o308 (A o564 (B o1076) e) (B o820)) (A o7 (A o7 (B o7) e) (B o7))) (A o8 (A o372 (A o628 (B o1140) e) (B o7)) (A o7 (B o8) (B o7)))))) (A o28 (A o44 (A o8 (A o140 (A o7 (A o524 (B o1036) e) (B o780)) (A o7 (A o7 (B o7) e) (B o908))) (A o204 (A o332 (A o6 (B o1100) e) (B o8)) (A o460 (A o6 (B o1228) e) (B o972)))) (A o7 (A o172 (A o300 (A o556 (B o1068) e) (B o812)) (A o428 (A o684 (B o1196) e) (B o940))) (A o7 (A o364 (A o620 (B o1132) e) (B o876)) (A o492 (B o7) (B o1004))))) (A o60 (A o92 (A o8 (A o284 (A o540 (B o8) e) (B o796)) (A o8 (A o668 (B o1180) e) (B o924))) (A o220 (A o8 (A o8 (B o1116) e) (B o7)) (A o163 (A o732 (B o1244) e) (B o7)))) (A o124 (A o188 (A o7 (A o163 (B o7) e) (B o7)) (A o444 (A o7 (B o1212) e) (B o956))) (A o252 (A o380 (A o636 (B o1148) e) (B o892)) (A o508 (B o764) (B o1020)))))))) (A o6 (A o10 (A o18 (A o34 (A o66 (A o7 (A o20 (A o7 (B o7) e) (B o8)) (A o386 (A o642 (B o1154) e) (B o7))) (A o194 (A o322 (A o7 (B o1090) e) (B o834)) (A o7 (A o706 (B o7) e) (B o962)))) (A o98 (A o7 (A o7 (A o546 (B o7) e) (B o7)) (A o879 (A o7 (B o7) e) (B o930))) (A o226 (A o7 (A o7 (B o1122) e) (B o866)) (A o482 (B o738) (B o994))))) (A o7 (A o7 (A o146 (A o8 (A o530 (B o1042) e) (B o786)) (A o402 (A o8 (B o8) e) (B o914))) (A o7 (A o338 (A o594 (B o7) e) (B o7)) (A o466 (A o722 (B o1234) e) (B o978)))) (A o114 (A o8 (A o306 (A o562 (B o1074) e) (B o818)) (A o8 (A o690 (B o1202) e) (B o8))) (A o242 (A o370 (A o626 (B o7) e) (B o8)) (A o8 (B o754) (B o8)))))) (A o26 (A o42 (A o74 (A o138 (A o163 (A o522 (B o1034) e) (B o778)) (A o394 (A o650 (B o1162) e) (B o7))) (A o7 (A o7 (A o586 (B o7) e) (B o842)) (A o458 (A o714 (B o8) e) (B o7)))) (A o106 (A o7 (A o7 (A o7 (B o7) e) (B o810)) (A o7 (A o8 (B o1194) e) (B o7))) (A o234 (A o8 (A o618 (B o1130) e) (B o874)) (A o7 (B o746) (B o7))))) (A o58 (A o7 (A o154 (A o282 (A o538 (B o1050) e) (B o7)) (A o7 (A o666 (B o1178) e) (B o922))) (A o218 (A o346 (A o602 (B o1114) e) (B o8)) (A o474 (A o730 (B o1242) e) (B o986)))) (A o122 (A o186 (A o314 (A o570 (B o1082) e) (B o826)) (A o442 (A o698 (B o1210) e) (B o954))) (A o7 (A o7 (A o7 (B o7) e) (B o890)) (A o506 (B o7) (B o1018))))))) (A o14 (A o22 (A o38 (A o70 (A o7 (A o262 (A o518 (B o7) e) (B o774)) (A o8 (A o20 (B o8) e) (B o879))) (A o198 (A o7 (A o7 (B o1094) e) (B o838)) (A o7 (A o7 (B o1222) e) (B o966)))) (A o8 (A o166 (A o7 (A o550 (B o1062) e) (B o7)) (A o7 (A o7 (B o7) e) (B o934))) (A o230 (A o358 (A o614 (B o8) e) (B o870)) (A o7 (B o7) (B o7))))) (A o7 (A o86 (A o150 (A o278 (A o7 (B o1046) e) (B o790)) (A o7 (A o662 (B o1174) e) (B o7))) (A o7 (A o342 (A o598 (B o1110) e) (B o854)) (A o470 (A o726 (B o1238) e) (B o8)))) (A o118 (A o182 (A o8 (A o20 (B o8) e) (B o822)) (A o438 (A o694 (B o1206) e) (B o950))) (A o7 (A o374 (A o630 (B o1142) e) (B o886)) (A o502 (B o7) (B o1014)))))) (A o30 (A o46 (A o7 (A o8 (A o270 (A o526 (B o8) e) (B o782)) (A o398 (A o654 (B o1166) e) (B o7))) (A o7 (A o334 (A o8 (B o1102) e) (B o7)) (A o8 (A o8 (B o7) e) (B o7)))) (A o110 (A o174 (A o7 (A o7 (B o7) e) (B o8)) (A o430 (A o686 (B o8) e) (B o942))) (A o238 (A o366 (A o622 (B o1134) e) (B o878)) (A o494 (B o750) (B o1006))))) (A o8 (A o7 (A o7 (A o286 (A o542 (B o7) e) (B o798)) (A o7 (A o670 (B o1182) e) (B o926))) (A o20 (A o7 (A o7 (B o1118) e) (B o862)) (A o7 (B o734) (B o990)))) (A o126 (A o190 (A o318 (A o7 (B o1086) e) (B o830)) (A o446 (A o702 (B o1214) e) (B o958))) (A o254 (A o7 (A o7 (B o7) e) (B o894)) (A o510 (B o766) (B o1022)))))))))
def fY (P : Params) : Heap := ⟨#[o0 P,o1 P,o2 P,o3v0 P,o4 P,o5 P,o6 P,o7 P,o8 P,o9 P,o10 P,o11 P,o12 P,o13 P,o14 P,o15 P,o7 P,o17 P,o18 P,o19 P,o20 P,o21 P,o22 P,o23 P,o24 P,o25 P,o26 P,o27 P,o28 P,o29 P,o30 P,o31 P,o32 P,o33 P,o34 P,o7 P,o36 P,o37 P,o38 P,o39 P,o40 P,o41 P,o42 P,o43 P,o44 P,o45 P,o46 P,o20 P,o48 P,o49 P],{}⟩
def dE (P : Params) : Heap := ⟨#[o0 P,o1 P,o2 P,o3 P,o4 P,o5 P,o6 P,o7 P,o8 P,o9 P,o10 P,o11 P,o12 P,o13 P,o14 P,o15 P,o7 P,o17 P,o18 P,o19 P,o20 P,o21 P,o22 P,o23 P,o24 P,o25 P,o26 P,o27 P,o28 P,o29 P,o30 P,o31 P,o32 P,o33 P,o34 P,o7 P,o36 P,o37 P,o38 P,o39 P,o40 P,o41 P,o42 P,o43 P,o44 P,o45 P,o46 P,o20 P,o48 P,o49 P,o7 P,o51 P,o52 P,o53 P,o7 P,o8 P,o56 P,o7 P,o58 P,o59 P,o60 P,o7 P,o8 P,o63 P,o7 P,o65 P,o66 P,o67 P,o68 P,o69 P,o70 P,o7 P,o72 P,o73 P,o74 P,o7 P,o8 P,o77 P,o7 P,o79 P,o80 P,o81 P,o7 P,o83 P,o84 P,o85 P,o86 P,o87 P,o69 P,o89 P,o7 P,o91 P,o92 P,o93 P,o7 P,o8 P,o96 P,o7 P,o98 P,o99 P,o100 P,o7 P,o8 P,o103 P,o7 P,o105 P,o106 P,o107 P,o7 P,o8 P,o110 P,o7 P,o112 P,o113 P,o114 P,o7 P,o116 P,o117 P,o118 P,o119 P,o7 P,o8 P,o122 P,o7 P,o124 P,o125 P,o126 P,o7 P,o8 P,o129 P,o7 P,o131 P,o132 P,o133 P,o7 P,o8 P,o136 P,o7 P,o138 P,o139 P,o140 P,o7 P,o8 P,o143 P,o7 P,o145 P,o146 P,o147 P,o7 P,o8 P,o150 P,o7 P,o152 P,o153 P,o154 P,o7 P,o8 P,o157 P,o7 P,o159 P,o160 P,o161 P,o7 P,o163 P,o164 P,o7 P,o166 P,o167 P,o168 P,o7 P,o7 P,o8 P,o172 P,o7 P,o174 P,o175 P,o176 P,o7 P,o8 P,o179 P,o7 P,o181 P,o182 P,o183 P,o7 P,o8 P,o186 P,o7 P,o188 P,o189 P,o190 P,o7 P,o20 P,o193 P,o194 P,o195 P,o196 P,o197 P,o198 P,o7 P,o163 P,o201 P,o7 P,o203 P,o204 P,o205 P,o7 P,o7 P,o8 P,o209 P,o7 P,o211 P,o212 P,o213 P,o7 P,o8 P,o216 P,o7 P,o218 P,o219 P,o220 P,o7 P,o20 P,o223 P,o224 P,o225 P,o226 P,o227 P,o7 P,o163 P,o230 P,o7 P,o232 P,o233 P,o234 P,o7 P,o7 P,o8 P,o238 P,o7 P,o240 P,o241 P,o242 P,o7 P,o8 P,o245 P,o7 P,o247 P,o248 P,o249 P,o7 P,o8 P,o252 P,o7 P,o254 P,o255 P,o256 P,o7 P,o20 P,o259 P,o260 P,o261 P,o262 P,o263 P,o264 P,o265 P,o163 P,o267 P,o7 P,o269 P,o270 P,o271 P,o7 P,o7 P,o8 P,o275 P,o7 P,o277 P,o278 P,o279 P,o7 P,o20 P,o282 P,o283 P,o284 P,o285 P,o286 P,o287 P,o163 P,o289 P,o7 P,o291 P,o292 P,o293 P,o7 P,o7 P,o8 P,o297 P,o7 P,o299 P,o300 P,o301 P,o7 P,o8 P,o304 P,o7 P,o306 P,o307 P,o308 P,o7 P,o8 P,o311 P,o7 P,o313 P,o314 P,o315 P,o7 P,o8 P,o318 P,o7 P,o320 P,o321 P,o322 P,o7 P,o8 P,o325 P,o7 P,o327 P,o328 P,o329 P,o7 P,o8 P,o332 P,o7 P,o334 P,o335 P,o336 P,o337 P,o338 P,o6 P,o7 P,o8 P,o342 P,o343 P,o344 P,o345 P,o346 P,o7 P,o8 P,o349 P,o7 P,o351 P,o352 P,o353 P,o7 P,o8 P,o356 P,o7 P,o358 P,o359 P,o360 P,o7 P,o8 P,o363 P,o364 P,o365 P,o366 P,o367 P,o7 P,o8 P,o370 P,o371 P,o372 P,o373 P,o374 P,o7 P,o8 P,o377 P,o7 P,o379 P,o380 P,o381 P,o7 P,o8 P,o384 P,o7 P,o386 P,o387 P,o388 P,o7 P,o8 P,o391 P,o7 P,o393 P,o394 P,o395 P,o7 P,o20 P,o398 P,o399 P,o400 P,o401 P,o402 P,o287 P,o163 P,o405 P,o7 P,o407 P,o408 P,o409 P,o7 P,o7 P,o8 P,o413 P,o7 P,o415 P,o416 P,o417 P,o879 P,o7 P,o8 P,o421 P,o7 P,o423 P,o424 P,o425 P,o7 P,o8 P,o428 P,o7 P,o430 P,o431 P,o432 P,o7 P,o8 P,o435 P,o7 P,o437 P,o438 P,o439 P,o7 P,o8 P,o442 P,o7 P,o444 P,o445 P,o446 P,o7 P,o8 P,o449 P,o7 P,o451 P,o452 P,o453 P,o7 P,o8 P,o456 P,o7 P,o458 P,o459 P,o460 P,o7 P,o8 P,o463 P,o7 P,o465 P,o466 P,o467 P,o7 P,o20 P,o470 P,o471 P,o472 P,o473 P,o474 P,o475 P,o163 P,o477 P,o7 P,o479 P,o480 P,o481 P,o482 P,o7 P,o8 P,o485 P,o7 P,o487 P,o488 P,o489 P,o7 P,o8 P,o492 P,o7 P,o494 P,o495 P,o496 P,o7 P,o8 P,o499 P,o7 P,o501 P,o502 P,o503 P,o7 P,o8 P,o506 P,o7 P,o508 P,o509 P,o510 P,o7 P,o8 P,o513 P,o7 P,o515 P,o516 P,o517 P,o518 P,o519 P,o520 P,o521 P,o522 P,o523 P,o524 P,o525 P,o526 P,o163 P,o528 P,o7 P,o530 P,o531 P,o532 P,o7 P,o7 P,o8 P,o536 P,o7 P,o538 P,o539 P,o540 P,o541 P,o542 P,o6 P,o7 P,o8 P,o546 P,o7 P,o548 P,o549 P,o550 P,o7 P,o8 P,o553 P,o7 P,o555 P,o556 P,o557 P,o7 P,o8 P,o560 P,o7 P,o562 P,o563 P,o564 P,o7 P,o20 P,o567 P,o568 P,o569 P,o570 P,o526 P,o163 P,o573 P,o7 P,o575 P,o576 P,o577 P,o7 P,o7 P,o8 P,o581 P,o7 P,o583 P,o584 P,o585 P,o586 P,o587 P,o6 P,o7 P,o8 P,o591 P,o7 P,o593 P,o594 P,o595 P,o7 P,o8 P,o598 P,o7 P,o600 P,o601 P,o602 P,o7 P,o8 P,o605 P,o7 P,o607 P,o608 P,o609 P,o7 P,o20 P,o612 P,o613 P,o614 P,o615 P,o616 P,o163 P,o618 P,o7 P,o620 P,o621 P,o622 P,o7 P,o7 P,o8 P,o626 P,o7 P,o628 P,o629 P,o630 P,o7 P,o8 P,o633 P,o7 P,o635 P,o636 P,o637 P,o7 P,o8 P,o640 P,o7 P,o642 P,o643 P,o644 P,o7 P,o20 P,o647 P,o648 P,o649 P,o650 P,o879 P,o7 P,o8 P,o654 P,o655 P,o656 P,o7 P,o8 P,o659 P,o7 P,o661 P,o662 P,o663 P,o7 P,o8 P,o666 P,o7 P,o668 P,o669 P,o670 P,o7 P,o8 P,o673 P,o7 P,o675 P,o676 P,o677 P,o7 P,o69 P,o680 P,o7 P,o8 P,o683 P,o684 P,o7 P,o686 P,o687 P,o688 P,o689 P,o690 P,o691 P,o7 P,o69 P,o694 P,o7 P,o696 P,o697 P,o698 P,o699 P,o7 P,o8 P,o702 P,o7 P,o704 P,o705 P,o706 P,o7 P,o8 P,o709 P,o7 P,o711 P,o712 P,o713 P,o714 P,o715 P,o6 P,o7 P,o8 P,o719 P,o7 P,o721 P,o722 P,o723 P,o7 P,o8 P,o726 P,o7 P,o728 P,o729 P,o730 P,o731 P,o732 P,o733 P,o734 P,o735 P,o736 P,o737 P,o738 P,o7 P,o69 P,o741 P,o7 P,o743 P,o744 P,o745 P,o746 P,o747 P,o7 P,o8 P,o750 P,o7 P,o752 P,o753 P,o754 P,o7 P,o8 P,o757 P,o7 P,o759 P,o760 P,o761 P,o7 P,o8 P,o764 P,o7 P,o766 P,o767 P,o768 P,o7 P,o8 P,o771 P,o7 P,o773 P,o774 P,o775 P,o7 P,o8 P,o778 P,o7 P,o780 P,o781 P,o782 P,o783 P,o784 P,o785 P,o786 P,o787 P,o788 P,o789 P,o790 P,o7 P,o69 P,o793 P,o7 P,o795 P,o796 P,o797 P,o798 P,o7 P,o8 P,o801 P,o7 P,o803 P,o804 P,o805 P,o7 P,o8 P,o808 P,o7 P,o810 P,o811 P,o812 P,o7 P,o8 P,o815 P,o7 P,o817 P,o818 P,o819 P,o820 P,o821 P,o822 P,o823 P,o824 P,o825 P,o826 P,o827 P,o7 P,o69 P,o830 P,o7 P,o832 P,o833 P,o834 P,o835 P,o7 P,o8 P,o838 P,o7 P,o840 P,o841 P,o842 P,o7 P,o8 P,o845 P,o7 P,o847 P,o848 P,o849 P,o7 P,o8 P,o852 P,o7 P,o854 P,o855 P,o856 P,o7 P,o8 P,o859 P,o7 P,o861 P,o862 P,o863 P,o864 P,o865 P,o866 P,o867 P,o868 P,o869 P,o870 P,o871 P,o69 P,o873 P,o874 P,o7 P,o876 P,o877 P,o878 P,o879 P,o880 P,o881 P,o8 P,o883 P,o7 P,o885 P,o886 P,o887 P,o7 P,o8 P,o890 P,o7 P,o892 P,o893 P,o894 P,o7 P,o8 P,o897 P,o7 P,o899 P,o900 P,o901 P,o879 P,o7 P,o8 P,o905 P,o7 P,o907 P,o908 P,o909 P,o7 P,o8 P,o912 P,o7 P,o914 P,o915 P,o916 P,o879 P,o7 P,o8 P,o920 P,o7 P,o922 P,o923 P,o924 P,o925 P,o926 P,o6 P,o928 P,o880 P,o930 P,o8 P,o932 P,o7 P,o934 P,o935 P,o936 P,o937 P,o7 P,o8 P,o940 P,o7 P,o942 P,o943 P,o944 P,o7 P,o8 P,o947 P,o7 P,o949 P,o950 P,o951 P,o7 P,o8 P,o954 P,o7 P,o956 P,o957 P,o958 P,o880 P,o960 P,o8 P,o962 P,o7 P,o964 P,o965 P,o966 P,o7 P,o8 P,o969 P,o7 P,o971 P,o972 P,o973 P,o7 P,o8 P,o976 P,o977 P,o978 P,o979 P,o980 P,o7 P,o8 P,o983 P,o7 P,o985 P,o986 P,o987 P,o7 P,o8 P,o990 P,o991 P,o992 P,o993 P,o994 P,o7 P,o8 P,o997 P,o7 P,o999 P,o1000 P,o1001 P,o7 P,o8 P,o1004 P,o1005 P,o1006 P,o1007 P,o1008 P,o7 P,o8 P,o1011 P,o7 P,o1013 P,o1014 P,o1015 P,o7 P,o8 P,o1018 P,o7 P,o1020 P,o1021 P,o1022 P,o7 P,o8 P,o1025 P,o7 P,o1027 P,o1028 P,o1029 P,o7 P,o8 P,o1032 P,o7 P,o1034 P,o1035 P,o1036 P,o7 P,o8 P,o1039 P,o7 P,o1041 P,o1042 P,o1043 P,o7 P,o8 P,o1046 P,o7 P,o1048 P,o1049 P,o1050 P,o7 P,o8 P,o1053 P,o7 P,o1055 P,o1056 P,o1057 P,o7 P,o8 P,o1060 P,o1061 P,o1062 P,o7 P,o8 P,o1065 P,o7 P,o1067 P,o1068 P,o1069 P,o7 P,o8 P,o1072 P,o7 P,o1074 P,o1075 P,o1076 P,o7 P,o8 P,o1079 P,o7 P,o1081 P,o1082 P,o1083 P,o7 P,o8 P,o1086 P,o7 P,o1088 P,o1089 P,o1090 P,o7 P,o1092 P,o1093 P,o1094 P,o1095 P,o1096 P,o1097 P,o7 P,o69 P,o1100 P,o7 P,o1102 P,o1103 P,o1104 P,o1105 P,o7 P,o8 P,o1108 P,o7 P,o1110 P,o1111 P,o1112 P,o1113 P,o1114 P,o1115 P,o1116 P,o1117 P,o1118 P,o1119 P,o1120 P,o1121 P,o1122 P,o69 P,o1124 P,o7 P,o8 P,o1127 P,o1128 P,o7 P,o1130 P,o1131 P,o1132 P,o1133 P,o1134 P,o7 P,o69 P,o1137 P,o7 P,o1139 P,o1140 P,o1141 P,o1142 P,o7 P,o8 P,o1145 P,o7 P,o1147 P,o1148 P,o1149 P,o7 P,o8 P,o1152 P,o7 P,o1154 P,o1155 P,o1156 P,o7 P,o8 P,o1159 P,o7 P,o1161 P,o1162 P,o1163 P,o7 P,o8 P,o1166 P,o1167 P,o1168 P,o7 P,o8 P,o1171 P,o7 P,o1173 P,o1174 P,o1175 P,o7 P,o8 P,o1178 P,o7 P,o1180 P,o1181 P,o1182 P,o7 P,o8 P,o1185 P,o7 P,o1187 P,o1188 P,o1189 P,o7 P,o8 P,o1192 P,o7 P,o1194 P,o1195 P,o1196 P,o7 P,o8 P,o1199 P,o7 P,o1201 P,o1202 P,o1203 P,o7 P,o8 P,o1206 P,o7 P,o1208 P,o1209 P,o1210 P,o1211 P,o1212 P,o1213 P,o1214 P,o1215 P,o1216 P,o1217 P,o7 P,o8 P,o1220 P,o7 P,o1222 P,o1223 P,o1224 P,o7 P,o8 P,o1227 P,o1228 P,o1229 P,o7 P,o8 P,o1232 P,o1233 P,o1234 P,o7 P,o8 P,o1237 P,o1238 P,o1239 P,o7 P,o8 P,o1242 P,o1243 P,o1244 P],{}⟩
abbrev uQ (w : World) (os : OsState) : SharedT := ⟨mO w.params, 50, {}, #[], {}, 379, os⟩
abbrev im (w : World) (os : OsState) : SharedT := ⟨pQ w.params, 54, {}, #[], {}, 385, os⟩
abbrev oq (w : World) (os : OsState) : SharedT := ⟨pV w.params, 526, {}, #[], {}, 983, os⟩
abbrev op (w : World) (os : OsState) : SharedT := ⟨pU w.params, 1098, {}, #[], {}, 1763, os⟩
abbrev om (w : World) (os : OsState) : SharedT := ⟨pT w.params, 1245, {}, #[], {}, 1983, os⟩
end
end
end Mine
end
section
open PySem PySem.W PyProof.Rows PySem.Calls PySem.Spec
namespace Mine
def Aa := @wpAny_bind
def Ab := @wpAny_execs_cons
def Ac := @List.mem_singleton
def Ae := @wpAny_pure
def Ag := @Nat.le_trans
def Ah := @wpAny_execs_nil
def Ai := @List.length_map
def Aj := @wpAny_mono
def Ak := @spliced_more
def Al := @Bool.false_eq_true
def Am := @wpAny_truthy_bool
def An := @spliced_none
def Ao := @wpAny_isTrue_Compare1
def Ap := @List.mem_cons
def Aq := @wpAny_Assign_Name
def Ar := @List.mem_cons_self
def As := @Array.length_toList
def At := @wpAny_holding
def Au := @List.mem_append
def Av := @wpAny_Constant_int
def Aw := @Nat.le_refl
def Ay := @wpAny_assign_Name
def Az := @sizeLine_eq
def A0 := @List.mem_map
def A1 := @List.mem_cons_of_mem
def A2 := @List.map_cons
def A3 := @List.length_append
def A4 := @Heap.size_push
def A5 := @Heap.lt_size
def A6 := @List.foldl_cons
def A7 := @List.take_length
def A8 := @Heap.SameBut.update
def A9 := @Nat.lt_irrefl
def Ba := @List.map_append
def Bb := @plainObj_wpAny_Assign_Attribute
def Bc := @MethodCall_
def Bd := @List.mem_filter
def Be := @if_false
def Bf := @wpAny_call
def Bg := @wpAny_BinOp
def Bh := @Nat.le_of_lt
def Bi := @getMethod_builtin
def Bj := @List.length_cons
def Bk := @Option.some.inj
def Bl := @Nat.add_le_add_left
def Bm := @Attribute_name
def Bn := @PySem.F.plainAttrs_list
def Bo := @Int.toNat_natCast
def Bp := @Nat.not_lt
def Bq := @Nat.lt_of_lt_of_le
def Br := @List.nodup_cons
def Bs := @wpAny_Constant_none
def Bt := @PySem.W.Fast.te14364793385576792824
def Bu := @wpAny_Return_some
def Bv := @Nat.le_add_right
def Bw := @List.not_mem_nil
def Bx := @decide_eq_true_eq
def By := @List.mem_append_left
def Bz := @wpAny_standAt
def B0 := @wpAny_isTrue_value
def B1 := @builtinLookup_eq_fast
def B2 := @Nat.le_succ
def B3 := @Nat.ne_of_lt
def B4 := @Looks.of_pure
def B5 := @List.nodup_append
def B6 := @wpAny_of_eq
def B7 := @wpAny_If
def B8 := @looks_findIn
def B9 := @List.cons.injEq
def Db := @Nat.add_assoc
def Dc := @List.length_take
def Dd := @List.length_singleton
def De := @codeAny_call_builtin
def Df := @List.mem_of_mem_take
def Dg := @Option.map_some
def Dh := @Nat.add_comm
def Di := @Nat.mul_le_mul_left
def Dj := @wpAny_dictEntries
def Dk := @List.length_range
def Dl := @Subscript_
def Dm := @wpAny_list_append_plain
def Dn := @wpAny_Call_NameR
def Do := @Nat.lt_succ_self
def Dp := @wpAny_newObj_type
def Dq := @Nat.le_of_eq
def Dr := @List.take_add_one
def Ds := @List.filter_eq_nil_iff
def Dt := @wpAny_tests_one
def Du := @typeLookup_type
def Dv := @List.length_filter_le
def Dw := @List.mem_flatMap
def Dx := @Nat.ne_of_gt
def Dy := @BindsTo.of_eq
def Dz := @of_decide_eq_true
def D7 := @List.flatMap_cons
def D9 := @List.filter_sublist
def Ga := @wpAny_Assign_Subscript
def Gb := @callWith_method1
def Gc := @List.any_eq_true
def Gd := @wpAny_Constant_str
def Ge := @evalPart_none_step
def Gf := @Nat.lt_of_le_of_lt
def Gg := @Classical.byContradiction
def Gh := @List.length_nil
def Gi := @List.append_nil
def Gj := @Nat.lt_trans
def Gk := @Nat.add_left_comm
def Gl := @List.pairwise_append
def Gm := @wpAny_Expr
def Gn := @PySem.F.type_list_append
def Go := @PySem.F.slot_list_append
def Gp := @List.sum_cons
def Gq := @PySem.F.plainAttrs_dict
def Gs := @Looks.ld
def Gt := @Nat.le.dest
def Gu := @List.eq_nil_of_length_eq_zero
def Gv := @List.map_nil
def Gw := @List.count_pos_iff
def Gx := @Bool.false_ne_true
def Gy := @wpAny_AugAssign_AttributeAny
def Gz := @or_false
def G0 := @codeAny_builtin
def G6 := @wpAny_storeName_local
def G7 := @Array.toList_push
end Mine
end
section
open PySem PySem.W
namespace Mine
noncomputable section
def cE : Code := .body (behindTheImports pw) { scope := pw.main.scope, locals := mainNs, globals := mainNs, cells := [], code := .ref 52, frame := some 53 }
abbrev lW : Env := { scope := pw.main.scope, locals := mainNs, globals := mainNs, cells := [], code := .ref 52, frame := some 53 }
abbrev z : Pos := ⟨0, 0, 0, 0⟩
def sts (a k : Nat) : List Stmt := ((behindTheImports pw).drop a).take k
theorem lq {S : (String -> Option Builtin) -> Program -> World -> Nat -> Option Value -> Nat -> Nat -> SharedT -> Thread -> Option (Flow × SharedT × Code × Pos)} {tb' : String -> Option Builtin}
  (h1 : @segRunT = S) (h2 : treeTable = tb') {p : Program} {w : World} {n_0 : Nat} {ann : Option Value} {b n : Nat} {s : SharedT} {t : Thread} {r : Option (Flow × SharedT × Code × Pos)} (h : S tb' p w n_0 ann b n s t = r) : segRunT treeTable p w n_0 ann b n s t = r := by
 subst h1; subst h2; exact h
theorem qa (w : World) (os : OsState) : segRunT treeTable pw w 50 (some (.ref 6)) 1 4511 (im w os) (piecesOf (sts 0 26) lW cE ⟨0, 0, 0, 0⟩ [topFrame z]) = some (.next, oq w os, cE, ⟨232, 0, 252, 18⟩) :=
 lq PySem.W.Fast.te10110043849684766642 Bt (by kernel_rfl)
theorem p9 (w : World) (os : OsState) : segRunT treeTable pw w 50 (some (.ref 6)) 1 4943 (oq w os) (piecesOf (sts 26 17) lW cE ⟨232, 0, 252, 18⟩ [topFrame z]) = some (.next, op w os, cE, ⟨505, 0, 698, 36⟩) :=
 lq PySem.W.Fast.te10110043849684766642 Bt (by kernel_rfl)
theorem p8 (w : World) (os : OsState) : segRunT treeTable pw w 50 (some (.ref 6)) 1 1161 (op w os) (piecesOf (sts 43 12) lW cE ⟨505, 0, 698, 36⟩ [topFrame z]) = some (.next, om w os, cE, ⟨849, 0, 879, 85⟩) :=
 lq PySem.W.Fast.te10110043849684766642 Bt (by kernel_rfl)
end
noncomputable section
theorem nx {tb : String -> Option Builtin} {p : Program} {w : World} {n : Nat} {s s' : SharedT} {t : Thread}
  (h : (impGoT tb p w n s t).map (fun x => (x.1, x.2.atExitBegin)) = some (s', some [])) : importEnds tb p w (n + 1) s.abs t = some s'.abs := by
 obtain ⟨⟨s_1, t_1⟩, h1, h2⟩ := Option.map_eq_some_iff.mp h
 obtain ⟨rfl, h3⟩ := Prod.mk.inj h2
 refine imp_go (impGo_of h1) ?_
 unfold importEnds
 rw [h3]
theorem ul {S : (String -> Option Builtin) -> Program -> World -> Nat -> SharedT -> Thread -> Option (SharedT × Thread)} {tb' : String -> Option Builtin}
  (h1 : @impGoT = S) (h2 : treeTable = tb') {p : Program} {w : World} {n : Nat} {s : SharedT} {t : Thread} {r : Option (SharedT × Option (List (Value)))} {f : SharedT × Thread -> SharedT × Option (List Value)} (h : (S tb' p w n s t).map f = r) : (impGoT treeTable p w n s t).map f = r := by
 subst h1; subst h2; exact h
end
noncomputable section
abbrev os0 : OsState := (start (opening pw)).1.os
abbrev s_0 : SharedT := ⟨.nil, 0, {}, #[], {}, 1, os0⟩
theorem st0 : (start (opening pw)).1 = s_0.abs := by kernel_rfl
theorem imp (w : World) : (impGoT treeTable (opening pw) w 1377 s_0 (start (opening pw)).2).map (fun x => (x.1, x.2.atExitBegin)) = some (uQ w os0, some []) :=
 ul PySem.W.Fast.te14789777615569096658 Bt (by kernel_rfl)
theorem opn (w : World) : importEnds treeTable (opening pw) w 1378 (start (opening pw)).1 (start (opening pw)).2 = some ⟨absHeap (mO w.params) 50 {}, #[], {}, 379, os0⟩ := by
 have h := nx (imp w)
 rw [<- st0] at h
 exact h
end
noncomputable section
theorem eq1 {α : Sort _} {β : Sort _} {f g : α -> β} (h : f = g) {a : α} {r : β} (k : g a = r) : f a = r := by subst h; exact k
theorem oZ (w : World) (os : OsState) : (fenceModules? pw ⟨absHeap (mO w.params) 50 {}, #[], {}, 379, os⟩).map (fun s => (s.heap, s.gens, s.drawn, s.toks)) = some (fY w.params, #[], {}, 379) := by
 rw [show @fenceModules? = _ from PySem.W.Fast.te14289696077712309145]
 kernel_rfl
theorem qg (w : World) : (fencedOpening treeTable pw w 30000).map (fun s => (s.heap, s.gens, s.drawn, s.toks)) = some (fY w.params, #[], {}, 379) :=
 open_cut (He := fun P => absHeap (mO P) 50 {}) (H₀ := fY) opn (by decide) (fun w => funext fun os => oZ w os) w
theorem pY (w : World) : ((fY w.params).isNs mainGlobals && (#[] : Array GenState).size == 0, (fY w.params).objs.size, (fY w.params).nsMap mainGlobals "__annotations__") = (true, 50, some (.ref 6)) := by kernel_rfl
theorem p6 {S : (String -> Option Builtin) -> Program -> World -> Nat -> Option Value -> Nat -> Shared -> Thread -> Option Shared} {tb' : String -> Option Builtin}
  (h1 : @topRun = S) (h2 : treeTable = tb') {p : Program} {w : World} {n_0 : Nat} {ann : Option Value} {n : Nat} {s : Shared} {t : Thread} {r : Option Shared} (h : S tb' p w n_0 ann n s t = r) : topRun treeTable p w n_0 ann n s t = r := by
 subst h1; subst h2; exact h
theorem uC {S : (String -> Option Builtin) -> Program -> World -> Nat -> Option Value -> Nat -> Nat -> Shared -> Thread -> Option (Flow × Shared × Code × Pos)} {tb' : String -> Option Builtin}
  (h1 : @segRun = S) (h2 : treeTable = tb') {p : Program} {w : World} {n_0 : Nat} {ann : Option Value} {b n : Nat} {s : Shared} {t : Thread} {r : Option (Flow × Shared × Code × Pos)} (h : S tb' p w n_0 ann b n s t = r) : segRun treeTable p w n_0 ann b n s t = r := by
 subst h1; subst h2; exact h
theorem qd {S : (String -> Option Builtin) -> Program -> World -> Nat -> Option Value -> Nat -> Shared -> Thread -> Option (Shared × Thread)} {tb' : String -> Option Builtin} {D : (String -> Option Builtin) -> Code -> Sem Fin}
  (h1 : @topGo = S) (h2 : treeTable = tb') (h3 : @denote = D) {p : Program} {w : World} {n_0 : Nat} {ann : Option Value} {n : Nat} {s s' : Shared} {t : Thread} {c : Code} {pos : Pos} {B : List Frame}
  (h : S tb' p w n_0 ann n s t = some (s', ⟨D tb' c, c, pos, B⟩)) : topGo treeTable p w n_0 ann n s t = some (s', ⟨denote treeTable c, c, pos, B⟩) := by
 subst h1; subst h2; subst h3; exact h
theorem uT (w : World) (os : OsState) : topGo treeTable pw w 50 (some (.ref 6)) 12 ⟨fY w.params, #[], {}, 379, os⟩ (topStub pw) = some ((im w os).abs, ⟨denote treeTable cE, cE, z, [topFrame z]⟩) := by
 refine (qd PySem.W.Fast.te15667345088766844465 Bt PySem.W.Fast.te11892475500146522536 ?_)
 kernel_rfl
theorem pH (w : World) (os : OsState) : segRun treeTable pw w 50 (some (.ref 6)) 1 1 (im w os).abs (blockOf (behindTheImports pw) lW cE z [topFrame z]) = some (.next, (im w os).abs, cE, z) := by
 refine (uC PySem.W.Fast.te14374325043358763698 Bt ?_)
 kernel_rfl
theorem vR (w : World) (os : OsState) : topRun treeTable pw w 50 (some (.ref 6)) 2 (om w os).abs ⟨doneF .next, cE, ⟨849, 0, 879, 85⟩, [topFrame z]⟩ = some ⟨dE w.params, #[], {}, 1983, os⟩ := by
 refine (p6 PySem.W.Fast.te14082659384304107361 Bt ?_)
 kernel_rfl
end
noncomputable section
theorem uB : behindTheImports pw = sts 0 26 ++ (sts 26 17 ++ (sts 43 12 ++ [])) := by kernel_rfl
theorem qb (w : World) (os : OsState) : topRun treeTable pw w 50 (some (.ref 6)) (4511 + (4943 + (1161 + 2))) (im w os).abs (restOf (behindTheImports pw) lW cE z [topFrame z]) = some ⟨dE w.params, #[], {}, 1983, os⟩ := by
 rw [uB]
 exact piece_app (segRun_of (qa w os)) (piece_app (segRun_of (p9 w os)) (piece_app (segRun_of (p8 w os)) (piece_nil (vR w os))))
theorem uR (w : World) (os : OsState) : topRun treeTable pw w 50 (some (.ref 6)) (12 + (1 + (4511 + (4943 + (1161 + 2))))) ⟨fY w.params, #[], {}, 379, os⟩ (topStub pw) = some ⟨dE w.params, #[], {}, 1983, os⟩ :=
 go_top (uT w os) (piece_block (pH w os) (qb w os))
end
end Mine
end
section
open PySem PySem.W PyProof.Rows PySem.Calls
namespace Mine
noncomputable section
abbrev rw_ : OpenLaw := PySem.Challenge.rw_dn0070_12
def K (P : Params) : Frag := (nat_lit 2, o2 P) :: (nat_lit 3, o3 P) :: (nat_lit 66, o66 P) :: (nat_lit 67, o67 P) :: (nat_lit 83, o83 P) :: (nat_lit 84, o84 P) :: (nat_lit 99, o99 P) :: (nat_lit 100, o100 P) :: (nat_lit 116, o116 P) :: (nat_lit 117, o117 P) :: (nat_lit 153, o153 P) :: (nat_lit 154, o154 P) :: (nat_lit 466, o466 P) :: (nat_lit 467, o467 P) :: (nat_lit 470, o470 P) :: (nat_lit 471, o471 P) :: (nat_lit 874, o874 P) :: (nat_lit 879, o879 P) :: (nat_lit 886, o886 P) :: (nat_lit 887, o887 P) :: (nat_lit 928, o928 P) :: (nat_lit 935, o935 P) :: (nat_lit 936, o936 P) :: (nat_lit 937, o937 P) :: (nat_lit 943, o943 P) :: (nat_lit 944, o944 P) :: (nat_lit 1092, o1092 P) :: (nat_lit 1093, o1093 P) :: (nat_lit 1111, o1111 P) :: (nat_lit 1112, o1112 P) :: (nat_lit 1115, o1115 P) :: (nat_lit 1116, o1116 P) :: (nat_lit 1117, o1117 P) :: (nat_lit 1118, o1118 P) :: (nat_lit 1119, o1119 P) :: (nat_lit 1142, o1142 P) :: (nat_lit 1148, o1148 P) :: (nat_lit 1149, o1149 P) :: (nat_lit 1155, o1155 P) :: (nat_lit 1156, o1156 P) :: (nat_lit 1162, o1162 P) :: (nat_lit 1163, o1163 P) :: (nat_lit 1167, o1167 P) :: (nat_lit 1168, o1168 P) :: (nat_lit 1174, o1174 P) :: (nat_lit 1175, o1175 P) :: (nat_lit 1195, o1195 P) :: (nat_lit 1196, o1196 P) :: (nat_lit 1202, o1202 P) :: (nat_lit 1203, o1203 P) :: (nat_lit 1212, o1212 P) :: (nat_lit 1213, o1213 P) :: (nat_lit 1223, o1223 P) :: (nat_lit 1224, o1224 P) :: (nat_lit 1228, o1228 P) :: (nat_lit 1229, o1229 P) :: (nat_lit 1233, o1233 P) :: (nat_lit 1234, o1234 P) :: (nat_lit 1238, o1238 P) :: (nat_lit 1239, o1239 P) :: (nat_lit 1243, o1243 P) :: (nat_lit 1244, o1244 P) :: []
def Kas : List Addr := [2, 3, 66, 67, 83, 84, 99, 100, 116, 117, 153, 154, 466, 467, 470, 471, 874, 879, 886, 887, 928, 935, 936, 937, 943, 944, 1092, 1093, 1111, 1112, 1115, 1116, 1117, 1118, 1119, 1142, 1148, 1149, 1155, 1156, 1162, 1163, 1167, 1168, 1174, 1175, 1195, 1196, 1202, 1203, 1212, 1213, 1223, 1224, 1228, 1229, 1233, 1234, 1238, 1239, 1243, 1244]
theorem v7 : ∀ P, Kas = (K P).map (·.1) := fun _ => rfl
abbrev H : Hook := kHook K Kas v7
def qv : Program := view pw [0, 1, 56]
def ek : List Str := [q "_wall", q "_count_elements", q "ABCMeta", q "_ABCLike", q "_abc_plain_meta", q "_abc_has_iter", q "_abc_has_len", q "_abc_has_contains", q "_abc_is_mappingproxy", q "_abc_is_builtin_collection", q "Iterable", q "Sized", q "Container", q "Collection", q "Set", q "Mapping", q "MappingView", q "KeysView", q "ItemsView", q "ValuesView", q "nlargest", q "_is_int", q "_whole", q "_pull", q "_NotGiven", q "chain", q "repeat", q "starmap", q "itemgetter", q "Counter", q "_NODE_OUT", q "_NODE_DONE", q "_NodeInfo", q "CycleError", q "TopologicalSorter", q "_law_waits", q "_law_parts", q "_law_steps", q "_law_chains"]
abbrev oD : List Str := importedModules pw.main.body
abbrev Xt_ : Shared -> Bool := fun s => xlAt qv [] s && recOk (RowW.records rw_.row.toRowW) s
theorem ou {α β : Type} {a a' : α} {b b' : β} (h : a = a') (k : b = b') : (a, b) = (a', b') := by rw [h, k]
theorem uh (w : World) (os : OsState) : (staticsOk oD (fY w.params) (dE w.params) && namesBound pw (dE w.params) && gensDone ⟨dE w.params, #[], {}, 1983, os⟩ && laidKept (fY w.params) (dE w.params)) = true := by kernel_rfl
theorem oP {S : Program -> List Str -> List Str -> (Shared -> Bool) -> Bool -> Shared -> _} (h1 : @openSeen = S) {q : Program} {l m : List Str} {X : Shared -> Bool} {g : Bool} {s : Shared} {r : _} (h : S q l m X g s = r) : openSeen q l m X g s = r := by
 subst h1; exact h
theorem ug (w : World) (os : OsState) : openSeen qv ek oD Xt_ true ⟨dE w.params, #[], {}, 1983, os⟩ = openGood qv ek := by
 refine oP PySem.W.Fast.te4187177175401517315 ?_
 kernel_rfl
theorem uf (w : World) (os : OsState) : H.obs ⟨dE w.params, #[], {}, 1983, os⟩ = H.val w := by kernel_rfl
end
end Mine
end
section
namespace Mine
theorem ao {p q : Prop} {G : Prop} (h : p ∧ q) (K : p -> q -> G) : G := And.elim K h
theorem cG {p q r : Prop} {G : Prop} (h : p ∧ q ∧ r) (K : p -> q -> r -> G) : G := And.elim (fun h0 h => ao h (K h0)) h
theorem dh {p q r s : Prop} {G : Prop} (h : p ∧ q ∧ r ∧ s) (K : p -> q -> r -> s -> G) : G := And.elim (fun h0 h => cG h (K h0)) h
theorem ce {p q r s t : Prop} {G : Prop} (h : p ∧ q ∧ r ∧ s ∧ t) (K : p -> q -> r -> s -> t -> G) : G := And.elim (fun h0 h => dh h (K h0)) h
theorem fW {p q r s t u : Prop} {G : Prop} (h : p ∧ q ∧ r ∧ s ∧ t ∧ u) (K : p -> q -> r -> s -> t -> u -> G) : G := And.elim (fun h0 h => ce h (K h0)) h
theorem pM {p q r s t u v : Prop} {G : Prop} (h : p ∧ q ∧ r ∧ s ∧ t ∧ u ∧ v) (K : p -> q -> r -> s -> t -> u -> v -> G) : G := And.elim (fun h0 h => fW h (K h0)) h
theorem kU {p q r s t u v a : Prop} {G : Prop} (h : p ∧ q ∧ r ∧ s ∧ t ∧ u ∧ v ∧ a) (K : p -> q -> r -> s -> t -> u -> v -> a -> G) : G := And.elim (fun h0 h => pM h (K h0)) h
theorem mF {p q r s t u v a b : Prop} {G : Prop} (h : p ∧ q ∧ r ∧ s ∧ t ∧ u ∧ v ∧ a ∧ b) (K : p -> q -> r -> s -> t -> u -> v -> a -> b -> G) : G := And.elim (fun h0 h => kU h (K h0)) h
theorem oG {p q r s t u v a b c : Prop} {G : Prop} (h : p ∧ q ∧ r ∧ s ∧ t ∧ u ∧ v ∧ a ∧ b ∧ c) (K : p -> q -> r -> s -> t -> u -> v -> a -> b -> c -> G) : G := And.elim (fun h0 h => mF h (K h0)) h
theorem uL {p q r s t u v a b c d : Prop} {G : Prop} (h : p ∧ q ∧ r ∧ s ∧ t ∧ u ∧ v ∧ a ∧ b ∧ c ∧ d) (K : p -> q -> r -> s -> t -> u -> v -> a -> b -> c -> d -> G) : G := And.elim (fun h0 h => oG h (K h0)) h
theorem mG {p q r s t u v a b c d e : Prop} {G : Prop} (h : p ∧ q ∧ r ∧ s ∧ t ∧ u ∧ v ∧ a ∧ b ∧ c ∧ d ∧ e) (K : p -> q -> r -> s -> t -> u -> v -> a -> b -> c -> d -> e -> G) : G := And.elim (fun h0 h => uL h (K h0)) h
theorem ah {α0 : Sort _} {p : α0 -> Prop} {G : Prop} (h : ∃ x, p x) (K : ∀ x, p x -> G) : G := h.elim fun x h => K x h
theorem ag {α0 : Sort _} {p q : α0 -> Prop} {G : Prop} (h : ∃ x, p x ∧ q x) (K : ∀ x, p x -> q x -> G) : G := h.elim fun x h => ao h (K x)
theorem aZ {α0 : Sort _} {p q r : α0 -> Prop} {G : Prop} (h : ∃ x, p x ∧ q x ∧ r x) (K : ∀ x, p x -> q x -> r x -> G) : G := h.elim fun x h => cG h (K x)
theorem cC {α0 : Sort _} {p q r s : α0 -> Prop} {G : Prop} (h : ∃ x, p x ∧ q x ∧ r x ∧ s x) (K : ∀ x, p x -> q x -> r x -> s x -> G) : G := h.elim fun x h => dh h (K x)
theorem gb {α0 : Sort _} {p q r s t : α0 -> Prop} {G : Prop} (h : ∃ x, p x ∧ q x ∧ r x ∧ s x ∧ t x) (K : ∀ x, p x -> q x -> r x -> s x -> t x -> G) : G := h.elim fun x h => ce h (K x)
theorem eK {α0 : Sort _} {p q r s t u : α0 -> Prop} {G : Prop} (h : ∃ x, p x ∧ q x ∧ r x ∧ s x ∧ t x ∧ u x) (K : ∀ x, p x -> q x -> r x -> s x -> t x -> u x -> G) : G := h.elim fun x h => fW h (K x)
theorem jI {α0 : Sort _} {p q r s t u v : α0 -> Prop} {G : Prop} (h : ∃ x, p x ∧ q x ∧ r x ∧ s x ∧ t x ∧ u x ∧ v x) (K : ∀ x, p x -> q x -> r x -> s x -> t x -> u x -> v x -> G) : G := h.elim fun x h => pM h (K x)
theorem wo {α0 : Sort _} {p q r s t u v a : α0 -> Prop} {G : Prop} (h : ∃ x, p x ∧ q x ∧ r x ∧ s x ∧ t x ∧ u x ∧ v x ∧ a x) (K : ∀ x, p x -> q x -> r x -> s x -> t x -> u x -> v x -> a x -> G) : G := h.elim fun x h => kU h (K x)
theorem wm {α0 : Sort _} {p q r s t u v a b : α0 -> Prop} {G : Prop} (h : ∃ x, p x ∧ q x ∧ r x ∧ s x ∧ t x ∧ u x ∧ v x ∧ a x ∧ b x) (K : ∀ x, p x -> q x -> r x -> s x -> t x -> u x -> v x -> a x -> b x -> G) : G := h.elim fun x h => mF h (K x)
theorem mE {α0 : Sort _} {p q r s t u v a b c : α0 -> Prop} {G : Prop} (h : ∃ x, p x ∧ q x ∧ r x ∧ s x ∧ t x ∧ u x ∧ v x ∧ a x ∧ b x ∧ c x) (K : ∀ x, p x -> q x -> r x -> s x -> t x -> u x -> v x -> a x -> b x -> c x -> G) : G := h.elim fun x h => oG h (K x)
theorem aB {α0 : Sort _} {α1 : Sort _} {p : α0 -> α1 -> Prop} {G : Prop} (h : ∃ x y, p x y) (K : ∀ x y, p x y -> G) : G := h.elim fun x h => ah h (K x)
theorem aG {α0 : Sort _} {α1 : Sort _} {p q : α0 -> α1 -> Prop} {G : Prop} (h : ∃ x y, p x y ∧ q x y) (K : ∀ x y, p x y -> q x y -> G) : G := h.elim fun x h => ag h (K x)
theorem db {α0 : Sort _} {α1 : Sort _} {p q r : α0 -> α1 -> Prop} {G : Prop} (h : ∃ x y, p x y ∧ q x y ∧ r x y) (K : ∀ x y, p x y -> q x y -> r x y -> G) : G := h.elim fun x h => aZ h (K x)
theorem dv {α0 : Sort _} {α1 : Sort _} {p q r s : α0 -> α1 -> Prop} {G : Prop} (h : ∃ x y, p x y ∧ q x y ∧ r x y ∧ s x y) (K : ∀ x y, p x y -> q x y -> r x y -> s x y -> G) : G := h.elim fun x h => cC h (K x)
theorem nZ {α0 : Sort _} {α1 : Sort _} {p q r s t : α0 -> α1 -> Prop} {G : Prop} (h : ∃ x y, p x y ∧ q x y ∧ r x y ∧ s x y ∧ t x y) (K : ∀ x y, p x y -> q x y -> r x y -> s x y -> t x y -> G) : G := h.elim fun x h => gb h (K x)
theorem mD {α0 : Sort _} {α1 : Sort _} {p q r s t u : α0 -> α1 -> Prop} {G : Prop} (h : ∃ x y, p x y ∧ q x y ∧ r x y ∧ s x y ∧ t x y ∧ u x y) (K : ∀ x y, p x y -> q x y -> r x y -> s x y -> t x y -> u x y -> G) : G := h.elim fun x h => eK h (K x)
theorem wl {α0 : Sort _} {α1 : Sort _} {p q r s t u v : α0 -> α1 -> Prop} {G : Prop} (h : ∃ x y, p x y ∧ q x y ∧ r x y ∧ s x y ∧ t x y ∧ u x y ∧ v x y) (K : ∀ x y, p x y -> q x y -> r x y -> s x y -> t x y -> u x y -> v x y -> G) : G := h.elim fun x h => jI h (K x)
theorem nY {α0 : Sort _} {α1 : Sort _} {p q r s t u v a : α0 -> α1 -> Prop} {G : Prop} (h : ∃ x y, p x y ∧ q x y ∧ r x y ∧ s x y ∧ t x y ∧ u x y ∧ v x y ∧ a x y) (K : ∀ x y, p x y -> q x y -> r x y -> s x y -> t x y -> u x y -> v x y -> a x y -> G) : G := h.elim fun x h => wo h (K x)
theorem wk {α0 : Sort _} {α1 : Sort _} {p q r s t u v a b : α0 -> α1 -> Prop} {G : Prop} (h : ∃ x y, p x y ∧ q x y ∧ r x y ∧ s x y ∧ t x y ∧ u x y ∧ v x y ∧ a x y ∧ b x y) (K : ∀ x y, p x y -> q x y -> r x y -> s x y -> t x y -> u x y -> v x y -> a x y -> b x y -> G) : G := h.elim fun x h => wm h (K x)
theorem mC {α0 : Sort _} {α1 : Sort _} {α2 : Sort _} {p : α0 -> α1 -> α2 -> Prop} {G : Prop} (h : ∃ x y z, p x y z) (K : ∀ x y z, p x y z -> G) : G := h.elim fun x h => aB h (K x)
theorem mB {α0 : Sort _} {α1 : Sort _} {α2 : Sort _} {p q : α0 -> α1 -> α2 -> Prop} {G : Prop} (h : ∃ x y z, p x y z ∧ q x y z) (K : ∀ x y z, p x y z -> q x y z -> G) : G := h.elim fun x h => aG h (K x)
theorem jH {α0 : Sort _} {α1 : Sort _} {α2 : Sort _} {p q r : α0 -> α1 -> α2 -> Prop} {G : Prop} (h : ∃ x y z, p x y z ∧ q x y z ∧ r x y z) (K : ∀ x y z, p x y z -> q x y z -> r x y z -> G) : G := h.elim fun x h => db h (K x)
theorem uK {α0 : Sort _} {α1 : Sort _} {α2 : Sort _} {p q r s : α0 -> α1 -> α2 -> Prop} {G : Prop} (h : ∃ x y z, p x y z ∧ q x y z ∧ r x y z ∧ s x y z) (K : ∀ x y z, p x y z -> q x y z -> r x y z -> s x y z -> G) : G := h.elim fun x h => dv h (K x)
theorem jG {α0 : Sort _} {α1 : Sort _} {α2 : Sort _} {p q r s t : α0 -> α1 -> α2 -> Prop} {G : Prop} (h : ∃ x y z, p x y z ∧ q x y z ∧ r x y z ∧ s x y z ∧ t x y z) (K : ∀ x y z, p x y z -> q x y z -> r x y z -> s x y z -> t x y z -> G) : G := h.elim fun x h => nZ h (K x)
theorem wj {α0 : Sort _} {α1 : Sort _} {α2 : Sort _} {p q r s t u v : α0 -> α1 -> α2 -> Prop} {G : Prop} (h : ∃ x y z, p x y z ∧ q x y z ∧ r x y z ∧ s x y z ∧ t x y z ∧ u x y z ∧ v x y z) (K : ∀ x y z, p x y z -> q x y z -> r x y z -> s x y z -> t x y z -> u x y z -> v x y z -> G) : G := h.elim fun x h => wl h (K x)
theorem wi {α0 : Sort _} {α1 : Sort _} {α2 : Sort _} {p q r s t u v a : α0 -> α1 -> α2 -> Prop} {G : Prop} (h : ∃ x y z, p x y z ∧ q x y z ∧ r x y z ∧ s x y z ∧ t x y z ∧ u x y z ∧ v x y z ∧ a x y z) (K : ∀ x y z, p x y z -> q x y z -> r x y z -> s x y z -> t x y z -> u x y z -> v x y z -> a x y z -> G) : G := h.elim fun x h => nY h (K x)
theorem wh {α0 : Sort _} {α1 : Sort _} {α2 : Sort _} {p q r s t u v a b : α0 -> α1 -> α2 -> Prop} {G : Prop} (h : ∃ x y z, p x y z ∧ q x y z ∧ r x y z ∧ s x y z ∧ t x y z ∧ u x y z ∧ v x y z ∧ a x y z ∧ b x y z) (K : ∀ x y z, p x y z -> q x y z -> r x y z -> s x y z -> t x y z -> u x y z -> v x y z -> a x y z -> b x y z -> G) : G := h.elim fun x h => wk h (K x)
theorem pL {α0 : Sort _} {α1 : Sort _} {α2 : Sort _} {α3 : Sort _} {p : α0 -> α1 -> α2 -> α3 -> Prop} {G : Prop} (h : ∃ x y z w, p x y z w) (K : ∀ x y z w, p x y z w -> G) : G := h.elim fun x h => mC h (K x)
theorem wg {α0 : Sort _} {α1 : Sort _} {α2 : Sort _} {α3 : Sort _} {p q r s : α0 -> α1 -> α2 -> α3 -> Prop} {G : Prop} (h : ∃ x y z w, p x y z w ∧ q x y z w ∧ r x y z w ∧ s x y z w) (K : ∀ x y z w, p x y z w -> q x y z w -> r x y z w -> s x y z w -> G) : G := h.elim fun x h => uK h (K x)
theorem nX {α0 : Sort _} {α1 : Sort _} {α2 : Sort _} {α3 : Sort _} {p q r s t : α0 -> α1 -> α2 -> α3 -> Prop} {G : Prop} (h : ∃ x y z w, p x y z w ∧ q x y z w ∧ r x y z w ∧ s x y z w ∧ t x y z w) (K : ∀ x y z w, p x y z w -> q x y z w -> r x y z w -> s x y z w -> t x y z w -> G) : G := h.elim fun x h => jG h (K x)
theorem wf {α0 : Sort _} {α1 : Sort _} {α2 : Sort _} {α3 : Sort _} {p q r s t u v : α0 -> α1 -> α2 -> α3 -> Prop} {G : Prop} (h : ∃ x y z w, p x y z w ∧ q x y z w ∧ r x y z w ∧ s x y z w ∧ t x y z w ∧ u x y z w ∧ v x y z w) (K : ∀ x y z w, p x y z w -> q x y z w -> r x y z w -> s x y z w -> t x y z w -> u x y z w -> v x y z w -> G) : G := h.elim fun x h => wj h (K x)
theorem we {α0 : Sort _} {α1 : Sort _} {α2 : Sort _} {α3 : Sort _} {p q r s t u v a : α0 -> α1 -> α2 -> α3 -> Prop} {G : Prop} (h : ∃ x y z w, p x y z w ∧ q x y z w ∧ r x y z w ∧ s x y z w ∧ t x y z w ∧ u x y z w ∧ v x y z w ∧ a x y z w) (K : ∀ x y z w, p x y z w -> q x y z w -> r x y z w -> s x y z w -> t x y z w -> u x y z w -> v x y z w -> a x y z w -> G) : G := h.elim fun x h => wi h (K x)
theorem wd {α0 : Sort _} {α1 : Sort _} {α2 : Sort _} {α3 : Sort _} {p q r s t u v a b : α0 -> α1 -> α2 -> α3 -> Prop} {G : Prop} (h : ∃ x y z w, p x y z w ∧ q x y z w ∧ r x y z w ∧ s x y z w ∧ t x y z w ∧ u x y z w ∧ v x y z w ∧ a x y z w ∧ b x y z w) (K : ∀ x y z w, p x y z w -> q x y z w -> r x y z w -> s x y z w -> t x y z w -> u x y z w -> v x y z w -> a x y z w -> b x y z w -> G) : G := h.elim fun x h => wh h (K x)
theorem uJ {α0 : Sort _} {α1 : Sort _} {α2 : Sort _} {α3 : Sort _} {α4 : Sort _} {p q r s t : α0 -> α1 -> α2 -> α3 -> α4 -> Prop} {G : Prop} (h : ∃ x y z w x1, p x y z w x1 ∧ q x y z w x1 ∧ r x y z w x1 ∧ s x y z w x1 ∧ t x y z w x1) (K : ∀ x y z w x1, p x y z w x1 -> q x y z w x1 -> r x y z w x1 -> s x y z w x1 -> t x y z w x1 -> G) : G := h.elim fun x h => nX h (K x)
theorem uI {α0 : Sort _} {α1 : Sort _} {α2 : Sort _} {α3 : Sort _} {α4 : Sort _} {p q r s t u v a : α0 -> α1 -> α2 -> α3 -> α4 -> Prop} {G : Prop} (h : ∃ x y z w x1, p x y z w x1 ∧ q x y z w x1 ∧ r x y z w x1 ∧ s x y z w x1 ∧ t x y z w x1 ∧ u x y z w x1 ∧ v x y z w x1 ∧ a x y z w x1) (K : ∀ x y z w x1, p x y z w x1 -> q x y z w x1 -> r x y z w x1 -> s x y z w x1 -> t x y z w x1 -> u x y z w x1 -> v x y z w x1 -> a x y z w x1 -> G) : G := h.elim fun x h => we h (K x)
theorem uH {α0 : Sort _} {α1 : Sort _} {α2 : Sort _} {α3 : Sort _} {α4 : Sort _} {p q r s t u v a b : α0 -> α1 -> α2 -> α3 -> α4 -> Prop} {G : Prop} (h : ∃ x y z w x1, p x y z w x1 ∧ q x y z w x1 ∧ r x y z w x1 ∧ s x y z w x1 ∧ t x y z w x1 ∧ u x y z w x1 ∧ v x y z w x1 ∧ a x y z w x1 ∧ b x y z w x1) (K : ∀ x y z w x1, p x y z w x1 -> q x y z w x1 -> r x y z w x1 -> s x y z w x1 -> t x y z w x1 -> u x y z w x1 -> v x y z w x1 -> a x y z w x1 -> b x y z w x1 -> G) : G := h.elim fun x h => wd h (K x)
theorem wc {α0 : Sort _} {α1 : Sort _} {α2 : Sort _} {α3 : Sort _} {α4 : Sort _} {α5 : Sort _} {p q r s t : α0 -> α1 -> α2 -> α3 -> α4 -> α5 -> Prop} {G : Prop} (h : ∃ x y z w x1 y1, p x y z w x1 y1 ∧ q x y z w x1 y1 ∧ r x y z w x1 y1 ∧ s x y z w x1 y1 ∧ t x y z w x1 y1) (K : ∀ x y z w x1 y1, p x y z w x1 y1 -> q x y z w x1 y1 -> r x y z w x1 y1 -> s x y z w x1 y1 -> t x y z w x1 y1 -> G) : G := h.elim fun x h => uJ h (K x)
theorem wb {α0 : Sort _} {α1 : Sort _} {α2 : Sort _} {α3 : Sort _} {α4 : Sort _} {α5 : Sort _} {p q r s t u v a : α0 -> α1 -> α2 -> α3 -> α4 -> α5 -> Prop} {G : Prop} (h : ∃ x y z w x1 y1, p x y z w x1 y1 ∧ q x y z w x1 y1 ∧ r x y z w x1 y1 ∧ s x y z w x1 y1 ∧ t x y z w x1 y1 ∧ u x y z w x1 y1 ∧ v x y z w x1 y1 ∧ a x y z w x1 y1) (K : ∀ x y z w x1 y1, p x y z w x1 y1 -> q x y z w x1 y1 -> r x y z w x1 y1 -> s x y z w x1 y1 -> t x y z w x1 y1 -> u x y z w x1 y1 -> v x y z w x1 y1 -> a x y z w x1 y1 -> G) : G := h.elim fun x h => uI h (K x)
theorem cB {α0 : Sort _} {α1 : Sort _} {α2 : Sort _} {α3 : Sort _} {α4 : Sort _} {α5 : Sort _} {p q r s t u v a b : α0 -> α1 -> α2 -> α3 -> α4 -> α5 -> Prop} {G : Prop} (h : ∃ x y z w x1 y1, p x y z w x1 y1 ∧ q x y z w x1 y1 ∧ r x y z w x1 y1 ∧ s x y z w x1 y1 ∧ t x y z w x1 y1 ∧ u x y z w x1 y1 ∧ v x y z w x1 y1 ∧ a x y z w x1 y1 ∧ b x y z w x1 y1) (K : ∀ x y z w x1 y1, p x y z w x1 y1 -> q x y z w x1 y1 -> r x y z w x1 y1 -> s x y z w x1 y1 -> t x y z w x1 y1 -> u x y z w x1 y1 -> v x y z w x1 y1 -> a x y z w x1 y1 -> b x y z w x1 y1 -> G) : G := h.elim fun x h => uH h (K x)
theorem v9 {α0 : Sort _} {α1 : Sort _} {α2 : Sort _} {α3 : Sort _} {α4 : Sort _} {α5 : Sort _} {α6 : Sort _} {p q r s t : α0 -> α1 -> α2 -> α3 -> α4 -> α5 -> α6 -> Prop} {G : Prop} (h : ∃ x y z w x1 y1 z1, p x y z w x1 y1 z1 ∧ q x y z w x1 y1 z1 ∧ r x y z w x1 y1 z1 ∧ s x y z w x1 y1 z1 ∧ t x y z w x1 y1 z1) (K : ∀ x y z w x1 y1 z1, p x y z w x1 y1 z1 -> q x y z w x1 y1 z1 -> r x y z w x1 y1 z1 -> s x y z w x1 y1 z1 -> t x y z w x1 y1 z1 -> G) : G := h.elim fun x h => wc h (K x)
theorem v8 {α0 : Sort _} {α1 : Sort _} {α2 : Sort _} {α3 : Sort _} {α4 : Sort _} {α5 : Sort _} {α6 : Sort _} {α7 : Sort _} {p q r s t : α0 -> α1 -> α2 -> α3 -> α4 -> α5 -> α6 -> α7 -> Prop} {G : Prop} (h : ∃ x y z w x1 y1 z1 w1, p x y z w x1 y1 z1 w1 ∧ q x y z w x1 y1 z1 w1 ∧ r x y z w x1 y1 z1 w1 ∧ s x y z w x1 y1 z1 w1 ∧ t x y z w x1 y1 z1 w1) (K : ∀ x y z w x1 y1 z1 w1, p x y z w x1 y1 z1 w1 -> q x y z w x1 y1 z1 w1 -> r x y z w x1 y1 z1 w1 -> s x y z w x1 y1 z1 w1 -> t x y z w x1 y1 z1 w1 -> G) : G := h.elim fun x h => v9 h (K x)
theorem EI2 {α0 : Sort _} {α1 : Sort _} {p : α0 -> α1 -> Prop} (x : α0) (y : α1) (h : p x y) : ∃ x y, p x y := ⟨x, y, h⟩
theorem EI3 {α0 : Sort _} {α1 : Sort _} {α2 : Sort _} {p : α0 -> α1 -> α2 -> Prop} (x : α0) (y : α1) (z : α2) (h : p x y z) : ∃ x y z, p x y z := ⟨x, y, z, h⟩
theorem EI4 {α0 : Sort _} {α1 : Sort _} {α2 : Sort _} {α3 : Sort _} {p : α0 -> α1 -> α2 -> α3 -> Prop} (x : α0) (y : α1) (z : α2) (w : α3) (h : p x y z w) : ∃ x y z w, p x y z w := ⟨x, y, z, w, h⟩
theorem EI5 {α0 : Sort _} {α1 : Sort _} {α2 : Sort _} {α3 : Sort _} {α4 : Sort _} {p : α0 -> α1 -> α2 -> α3 -> α4 -> Prop} (x : α0) (y : α1) (z : α2) (w : α3) (x1 : α4) (h : p x y z w x1) : ∃ x y z w x1, p x y z w x1 := ⟨x, y, z, w, x1, h⟩
theorem EI6 {α0 : Sort _} {α1 : Sort _} {α2 : Sort _} {α3 : Sort _} {α4 : Sort _} {α5 : Sort _} {p : α0 -> α1 -> α2 -> α3 -> α4 -> α5 -> Prop} (x : α0) (y : α1) (z : α2) (w : α3) (x1 : α4) (y1 : α5) (h : p x y z w x1 y1) : ∃ x y z w x1 y1, p x y z w x1 y1 := ⟨x, y, z, w, x1, y1, h⟩
end Mine
end
section
open PySem
namespace Mine
theorem ad {α : Type} {M : Model} {A : Around} {t : Sem α} {Q : α -> Shared -> Prop} {E : Value -> Shared -> Prop} {s : Shared} (h : let Q' := Q; wpAny M A t Q' E s) : wpAny M A t Q E s := h
end Mine
end
section
namespace Mine
section
variable {a b c d e f g : Nat}
theorem om0 (h0 : a = b) (h1 : c < a) : c < b := h0 ▸ h1
theorem om1 (h0 : a + 1 ≤ b) : a < b := by subst_vars; assumption
theorem om2 (h0 : a < b) : a + 1 ≤ b := by assumption
theorem om3 (h0 : a < b) : b - (a + 1) < b - a := Nat.pred_lt (Nat.sub_ne_zero_of_lt h0)
theorem om4 : (0 : Int) ≤ (a : Int) := Int.natCast_nonneg _
theorem om5 : -(1000 : Int) ≤ (a : Int) := by subst_vars; simp
theorem om6 : a ≤ a + 1 := B2 _
theorem om7 (h0 : a = b) (h1 : c < b) : c < a := by subst_vars; assumption
theorem om8 (h0 : a ≤ b) (h1 : ¬(a < b)) : a = b := by omega
theorem om9 (h0 : a ≤ b) (h1 : c = a) : c ≤ b := by subst_vars; assumption
theorem m0 (h0 : a ≤ 10) : a ≤ 100 := Ag (by assumption) (by decide)
theorem mZ (h0 : a ≤ 100) : a ≤ 16777216 := Ag (by assumption) (by decide)
theorem oT (h0 : a ≤ 32) : a ≤ 16777216 := Ag h0 (by decide)
theorem oS (h0 : a < Int.toNat ((b : Int) - (0 : Int))) : a < b := by rw [Int.sub_zero, Bo] at h0; exact h0
theorem oR (h0 : a = b + 1) : a - 1 < a := by subst_vars; exact Aw _
theorem oQ (h0 : a ≤ 100) (h1 : b = a) : b ≤ 16777216 := by subst_vars; exact Ag (by assumption) (by decide)
theorem sG (h0 : a ≤ b) (h1 : c ≤ d) : c + a ≤ d + b := Nat.add_le_add h1 h0
theorem lA (h0 : (a = 3) ∨ ((a = 4) ∨ (a = 5))) : a ≤ 5 := by rcases h0 with rfl | rfl | rfl <;> decide
theorem rZ (h0 : 0 < a) : (0 : Int) < (a : Int) := Int.ofNat_lt.mpr (by assumption)
theorem rM (h0 : a ≠ 0) : 0 < a := Nat.pos_of_ne_zero (by assumption)
theorem rz (h0 : a ≤ 4) : a ≤ 16777216 := by subst_vars; exact Ag (by assumption) (by decide)
theorem rh (h0 : a ≤ 5) : a ≤ 100 := by subst_vars; exact Ag (by assumption) (by decide)
theorem qY (h0 : a ≤ 80) : a ≤ 100 := by subst_vars; exact Ag (by assumption) (by decide)
theorem qL : (a : Int) = (0 : Int) + (a : Int) := by subst_vars; simp
theorem vI : a + 1 ≤ a + 10 := by simp
theorem qI : a ≤ ((a + 1) + 1) + 1 := by omega
theorem qH : a ≤ (a + 1) + 1 := by subst_vars; omega
theorem qG : ¬(((a + 1) + 1) + 1 < a) := by omega
theorem qF : ¬((a + 1) + 1 < a) := by subst_vars; omega
theorem qE : ¬(a + 5 < 5) := by subst_vars; simp
theorem qD (h0 : a + 1 ≤ b) : a ≤ b := Bh (by assumption)
theorem qA (h0 : a < b) (h1 : b < a) : False := A9 _ <| Gj h1 h0
theorem qz (h0 : a < b) : a ≤ b := Nat.le_of_succ_le (by assumption)
theorem qy (h0 : a < b) : b - a = (b - (a + 1)) + 1 := (Nat.succ_pred_eq_of_pos (Nat.sub_pos_of_lt h0)).symm
theorem qx (h0 : a ≤ 10) (h1 : b = a) : b ≤ 16777216 := by subst_vars; exact Ag (by assumption) (by decide)
theorem qw (h0 : a ≤ b) : a + 1 ≤ b + 1 := Nat.succ_le_succ (by assumption)
theorem qu (h0 : a ≤ b) : a ≤ b + 1 := Nat.le_succ_of_le (by assumption)
theorem qt (h0 : ¬(a < b)) (h1 : a < b + 1) : a = b := by subst_vars; omega
theorem qs (h0 : ¬(a < b)) (h1 : b ≠ a) : b < a := by omega
theorem qp {a b : Nat} {c : Int} (h0 : a = b) (h1 : c < (b : Int)) : c < (a : Int) := by subst_vars; omega
theorem qo (h0 : a = b) (h1 : c < b) : c - 1 < a := h0 ▸ Gf (Nat.sub_le c 1) h1
theorem qn (h0 : a + b ≤ c) (h1 : d + 1 ≤ b) : (a + 1) + d ≤ c := Ag (by rw [Db, Dh 1 d]; exact Bl h1 a) h0
theorem vH (h0 : a + b ≤ c) (h1 : d ≤ a) : d + b ≤ c := by subst_vars; omega
theorem qm (h0 : a = b) (h1 : b < c) (h2 : a + d = c) : (0 : Int) < (d : Int) := by subst_vars; omega
theorem qk (h0 : a = b) (h1 : c < b) (h2 : d < c) : d < a := by subst_vars; omega
theorem vG (h0 : a = b) (h1 : c = a) (h2 : c ≤ d) : b ≤ d := by subst_vars; omega
theorem qj (h0 : a ≤ 100) (h1 : b ≤ c) (h2 : c + d ≤ a) : b ≤ 16777216 := Ag h1 (Ag (Bv c d) (Ag h2 (Ag h0 (by decide))))
theorem vF (h0 : a = b) (h1 : c < a) (h2 : (d + e) + f ≤ g) : d + e ≤ g := by obtain ⟨k, rfl⟩ := Gt h2; simp [Db, Dh, Gk]
theorem qh {a c : Nat} {b : Int} (h0 : (0 : Int) + (a : Int) = b) (h1 : c = a) : b = (c : Int) := by subst_vars; simp
theorem vE : 0 < 1 := Aw _
theorem vD {a : Int} (h0 : (0 : Int) ≤ a) : (3 : Int) + a = (3 + (Int.toNat a) : Int) := by omega
theorem vC {a : Int} (h0 : (1 : Int) ≤ a) (h1 : a < (5 : Int)) : (a = (1 : Int)) ∨ ((a = (2 : Int)) ∨ ((a = (3 : Int)) ∨ (a = (4 : Int)))) := by
 obtain ⟨k, rfl⟩ := Int.eq_ofNat_of_zero_le (Int.le_trans (by decide) h0)
 exact (by decide : ∀ k : Fin 5, (1 : Int) ≤ (k.val : Int) -> (k.val : Int) = 1 ∨ (k.val : Int) = 2 ∨ (k.val : Int) = 3 ∨ (k.val : Int) = 4) ⟨k, Int.ofNat_lt.mp h1⟩ h0
theorem vB {a : Int} (h0 : (1 : Int) ≤ a) : (0 : Int) ≤ a := by omega
theorem vA {a : Int} (h0 : (1 : Int) ≤ a) : (Int.toNat a : Int) = a := Int.toNat_of_nonneg (Int.le_trans (by decide) h0)
theorem vz {a : Int} (h0 : (1 : Int) ≤ a) : 1 ≤ Int.toNat a := by subst_vars; omega
theorem vy {a : Int} (h0 : a - (1 : Int) = (0 : Int)) : a = (1 : Int) := by subst_vars; omega
theorem vw {a : Int} (h0 : a < (3 : Int)) : (3 + (Int.toNat a) = 3) ∨ ((3 + (Int.toNat a) = 4) ∨ (3 + (Int.toNat a) = 5)) := (by decide : ∀ k : Fin 3, 3 + k.val = 3 ∨ 3 + k.val = 4 ∨ 3 + k.val = 5) ⟨Int.toNat a, Nat.lt_succ_of_le (Int.toNat_le.mpr (Int.le_of_lt_add_one h0))⟩
theorem vu {a : Int} (h0 : a < (4 : Int)) : Int.toNat ((a - (1 : Int)) - (0 : Int)) ≤ 2 := by rw [Int.sub_zero]; exact Int.toNat_le.mpr (Int.sub_right_le_of_le_add (Int.le_of_lt_add_one h0))
theorem vt {a : Int} : a + ((0 : Int) * (1 : Int)) = a := by simp
theorem vq {a : Int} : a = a + (0 : Int) := by subst_vars; simp
theorem vp (h0 : (a : Int) = (0 : Int)) : a = 0 := by rcases h0 with rfl | rfl | rfl <;> decide
theorem mY (h0 : (a = 3) ∨ ((a = 4) ∨ (a = 5))) : (a : Int) ≤ (1000 : Int) := by rcases h0 with rfl | rfl | rfl <;> decide
theorem vo (h0 : (a = 3) ∨ ((a = 4) ∨ (a = 5))) : Int.toNat ((a : Int) - (1 : Int)) ≤ 16777216 := by rcases h0 with rfl | rfl | rfl <;> decide
theorem vn (h0 : 1 ≤ a) : ¬(a = 0) := by obtain ⟨k, rfl⟩ := Gt h0; simp
theorem vm (h0 : a + 1 ≤ a) : False := by subst_vars; omega
theorem vk (h0 : a = 1) : a ≤ 1 := Dq h0
theorem vj (h0 : a > 0) : a - 1 < a := by obtain ⟨k, rfl⟩ := Gt h0; simp [Db, Dh, Gk]
theorem vi (h0 : a ≤ 100) : a ≤ 100 + 0 := by subst_vars; omega
theorem vh (h0 : a ≤ 100) : a ≤ 1000 := Ag h0 (by decide)
theorem vg (h0 : a ≤ 1000) : a ≤ 16777216 := Ag h0 (by decide)
theorem vd (h0 : a ≤ 16) : a ≤ 16777216 := by subst_vars; exact Ag (by assumption) (by decide)
theorem vc (h0 : a ≤ 4) : a ≤ 16777215 := by subst_vars; exact Ag (by assumption) (by decide)
theorem vb (h0 : a ≤ 5) : a ≤ 6 := Nat.le_succ_of_le (by assumption)
theorem va (h0 : a ≤ 63) : (a : Int) ≤ (1000 : Int) := Int.ofNat_le.mpr (Ag (by assumption) (by decide))
theorem u9 (h0 : a ≤ 64) : a + a ≤ 16777216 := by subst_vars; omega
theorem u8 (h0 : a ≤ 64) : a ≤ 16777216 := by subst_vars; exact Ag (by assumption) (by decide)
theorem u7 (h0 : a ≤ 99) : a + 1 ≤ 16777216 := by omega
theorem u6 (h0 : a ≤ 99) : a ≤ 16777215 := Ag (by assumption) (by decide)
theorem u5 : (a + 1 : Int) = (1 : Int) + (a : Int) := by subst_vars; omega
theorem u3 : (a + 1) + 1 ≠ a := by subst_vars; omega
theorem u2 : 1 + a = a + 1 := by omega
theorem u1 : 1 ≤ a + 1 := Nat.le_add_left _ _
theorem u0 : a + 1 ≠ (a + 1) + 1 := B3 (Do _)
theorem uZ : a + 1 ≠ a := by subst_vars; simp
theorem uY : a + 2 ≤ a + 3 := B2 _
theorem uX : a + 4 ≤ a + 10 := by subst_vars; simp
theorem uW : a + a = 2 * a := by omega
theorem uV : a ≠ (((a + 1) + 1) + 1) + 1 := by subst_vars; omega
theorem uU : a ≠ (a + 1) + 1 := by omega
theorem tY : a ≠ a + 1 := B3 (Do _)
theorem tX : a ≤ (((a + 1) + 1) + 1) + 1 := by omega
theorem tW : a ≤ (a - 1) + 1 := by subst_vars; omega
theorem tV {a : Nat} {b : Int} (h0 : (0 : Int) + (a : Int) = b) : b = (a : Int) := by subst_vars; simp
theorem tU {a : Nat} {b : Int} (h0 : (a + 1 : Int) ≤ b) (h1 : b - (1 : Int) = (0 : Int)) (h2 : 0 < a) : False := by subst_vars; omega
theorem tT {a : Nat} {b : Int} (h0 : (a + 1 : Int) ≤ b) : (a : Int) ≤ b - (1 : Int) := by subst_vars; omega
theorem iE {a : Nat} {b : Int} (h0 : (a = 3) ∨ ((a = 4) ∨ (a = 5))) (h1 : b < (a : Int)) : b < (5 : Int) := Int.lt_of_lt_of_le h1 (Int.le_trans (Int.ofNat_le.mpr (lA h0)) (by decide))
theorem tS {a : Nat} {b : Int} (h0 : (a = 3) ∨ ((a = 4) ∨ (a = 5))) (h1 : (1 : Int) ≤ b) (h2 : b < (a : Int)) : (-(9223372036854775808 : Int) ≤ b - (1 : Int)) ∧ (b - (1 : Int) < (9223372036854775808 : Int)) := ⟨Int.le_trans (by decide) (Int.sub_le_sub_right h1 1), Int.lt_trans (Int.sub_lt_self b (by decide)) (Int.lt_trans (iE h0 h2) (by decide))⟩
theorem tR {a : Nat} {b : Int} (h0 : (a = 3) ∨ ((a = 4) ∨ (a = 5))) (h1 : (1 : Int) ≤ b) (h2 : b < (a : Int)) : (-(9223372036854775808 : Int) ≤ b) ∧ (b < (9223372036854775808 : Int)) := ⟨Int.le_trans (by decide) h1, Int.lt_trans (iE h0 h2) (by decide)⟩
theorem tQ {a : Nat} {b : Int} (h0 : (a = 3) ∨ ((a = 4) ∨ (a = 5))) (h1 : (1 : Int) ≤ b) (h2 : b < (a : Int)) : (b = (1 : Int)) ∨ ((b = (2 : Int)) ∨ ((b = (3 : Int)) ∨ (b = (4 : Int)))) := vC h1 (iE h0 h2)
theorem tP {a b : Int} : ((Int.toNat (a - b) : Int)) - (0 : Int) = (Int.toNat (a - b) : Int) := by rfl
theorem tO (h0 : (a : Int) = (b : Int) + (0 : Int)) (h1 : b = 0) : a = 0 := by cases h0; omega
theorem tN (h0 : (a : Int) = (b : Int) + (0 : Int)) (h1 : ¬(b = 0)) : ¬(a = 0) := by rcases h0 with rfl | rfl | rfl <;> omega
theorem tM (h0 : (a : Int) = (b : Int)) : a = b := by rcases h0 with rfl | rfl | rfl <;> omega
theorem tL (h0 : (a < b) ∨ (b + 7 < a)) : (¬(a = b)) ∧ ((¬(a = b + 1)) ∧ ((¬(a = b + 2)) ∧ ((¬(a = b + 3)) ∧ ((¬(a = b + 4)) ∧ ((¬(a = b + 5)) ∧ ((¬(a = b + 6)) ∧ (¬(a = b + 7)))))))) := by
 have k : ∀ i, i ≤ 7 -> ¬ a = b + i := fun i hi e => h0.elim (fun q => Bp.mpr (Bv b i) (e ▸ q)) fun q => Bp.mpr (Bl hi b) (e ▸ q)
 exact ⟨k 0 (by decide), k 1 (by decide), k 2 (by decide), k 3 (by decide), k 4 (by decide), k 5 (by decide), k 6 (by decide), k 7 (by decide)⟩
theorem oB (h0 : (a = 3) ∨ ((a = 4) ∨ (a = 5))) (h1 : b = a) : b ≤ 5 := h1 ▸ lA h0
theorem tK (h0 : (a = 3) ∨ ((a = 4) ∨ (a = 5))) (h1 : b ≤ Int.toNat ((a : Int) - (1 : Int))) : b ≤ 100 := by rcases h0 with rfl | rfl | rfl <;> exact Ag h1 (by decide)
theorem tJ (h0 : a + (16 * (b + 1)) < 9000) : (a + 1) + (16 * b) < 9000 := Gf (by rw [Db]; exact Bl (by rw [Dh, Nat.mul_add]; exact Bl (by decide) _) a) h0
theorem tI (h0 : a + (16 * (b + 1)) < 9000) : (a + 3) + (16 * b) < 9000 := Gf (by rw [Db]; exact Bl (by rw [Dh, Nat.mul_add]; exact Bl (by decide) _) a) h0
theorem tH (h0 : a + (16 * b) < 9000) : a + 64 < 9900 := Gf (Nat.add_le_add_right (Ag (Bv a _) (Bh h0)) 64) (by decide)
theorem tG (h0 : a + (b + 1) < 900) : (a + 1) + b < 900 := by omega
theorem tF (h0 : a + (b + 1) < 900) : a + b < 900 := Nat.le_of_succ_le (by assumption)
theorem tD (h0 : a + 1 < b + 1) : a < b := by omega
theorem tC (h0 : a + 2 < b) : a + 1 < b := Nat.le_of_succ_le (by assumption)
theorem tB (h0 : a + 2 < b) : a ≤ b := by obtain ⟨k, rfl⟩ := Gt h0; simp [Db, Dh, Gk]
theorem tr (h0 : a + 64 < b) : a < b := by obtain ⟨k, rfl⟩ := Gt h0; simp [Db, Dh, Gk]
theorem tq (h0 : a + b < 900) : a < 1000 := by omega
theorem oA (h0 : a < 5) (h1 : b ≤ 2 * (Int.toNat ((a : Int) - (0 : Int)))) : b ≤ 8 := by rw [Int.sub_zero, Bo] at h1; exact Ag h1 (Di 2 (Nat.le_of_lt_succ h0))
theorem tj (h0 : a < Int.toNat ((b : Int) - (1 : Int))) : ((1 : Int) ≤ (1 : Int) + (a : Int)) ∧ ((1 : Int) + (a : Int) < (b : Int)) := by omega
theorem th (h0 : a < b) (h1 : a = b) : False := by subst_vars; omega
theorem tg (h0 : a < b) (h1 : b ≤ a) : False := A9 _ <| Bq h0 h1
theorem te (h0 : a < b) : a - 1 < b := Gf (Nat.sub_le a 1) h0
theorem td (h0 : a < b) : a < b := by subst_vars; omega
theorem ta (h0 : a = 1) (h1 : b ≤ 6) : b + a ≤ 16777216 := by subst_vars; omega
theorem sZ (h0 : a = Int.toNat ((b : Int) - (0 : Int))) : a = b := by rw [h0, Int.sub_zero, Bo]
theorem sY (h0 : a = b) (h1 : b ≤ 15) : a ≤ 16777216 := by subst_vars; exact Ag (by assumption) (by decide)
theorem sX (h0 : a = b) (h1 : b ≤ 8) : a ≤ 16777216 := by subst_vars; exact Ag (by assumption) (by decide)
theorem sW (h0 : a = b) : a ≤ b := Dq h0
theorem sV (h0 : a ≤ 0 + b) : a ≤ b := by subst_vars; omega
theorem sU (h0 : a ≤ 100 + b) : a + 1 ≤ 100 + (b + 1) := by rw [<- Db]; exact Nat.add_le_add_right h0 1
theorem sT (h0 : a ≤ 100 + b) : a ≤ 100 + (b + 1) := Ag h0 (Bl (B2 b) 100)
theorem sS (h0 : a ≤ 100) (h1 : a = b) : b ≤ 16777216 + 1 := by subst_vars; exact Ag (by assumption) (by decide)
theorem sR (h0 : a ≤ 100) (h1 : b ≤ 0 + a) : ¬(b > 16777216) := by subst_vars; omega
theorem sQ (h0 : a ≤ 100) (h1 : b ≤ 100 * a) : b ≤ 16777216 := Ag h1 (Ag (Di 100 h0) (by decide))
theorem sP (h0 : a ≤ 100) (h1 : b ≤ a + 1) : b ≤ 101 := by subst_vars; omega
theorem sO (h0 : a ≤ 1000) (h1 : b = a) : b ≤ 1000 := by subst_vars; assumption
theorem sN (h0 : a ≤ 1000) (h1 : b = a) : b ≤ 16777216 := by subst_vars; exact Ag (by assumption) (by decide)
theorem sM (h0 : a ≤ 200) (h1 : b ≤ a) : b ≤ 16777216 + 1 := Ag h1 (Ag h0 (by decide))
theorem sL (h0 : a ≤ 32) (h1 : b ≤ 0 + a) : b ≤ 32 := by omega
theorem sJ (h0 : a ≤ 5) (h1 : b ≤ 100 * a) : b ≤ 16777216 := Ag h1 (Ag (Di 100 h0) (by decide))
theorem sI (h0 : a ≤ 5) : ¬(b + 5 < a) := by omega
theorem sH (h0 : a ≤ 8) (h1 : b = a) : b ≤ 100 := by subst_vars; exact Ag (by assumption) (by decide)
theorem sE (h0 : a ≤ 8) (h1 : b = a) : b ≤ 8 := by subst_vars; assumption
theorem sB (h0 : a ≤ b) : 0 + a ≤ b := by obtain ⟨k, rfl⟩ := Gt h0; simp
theorem sy (h0 : ¬(a < b)) (h1 : ¬(b = a)) : b < a := by omega
theorem oy (h0 : a ≤ b) (h1 : b ≤ a + 7) : (b = a) ∨ ((b = a + 1) ∨ ((b = a + 2) ∨ ((b = a + 3) ∨ ((b = a + 4) ∨ ((b = a + 5) ∨ ((b = a + 6) ∨ (b = a + 7))))))) := by
 obtain ⟨k, rfl⟩ := Gt h0
 have h : k ≤ 7 := Nat.le_of_add_le_add_left h1
 exact match k, h with
 | 0, _ => .inl rfl
 | 1, _ => .inr (.inl rfl)
 | 2, _ => .inr (.inr (.inl rfl))
 | 3, _ => .inr (.inr (.inr (.inl rfl)))
 | 4, _ => .inr (.inr (.inr (.inr (.inl rfl))))
 | 5, _ => .inr (.inr (.inr (.inr (.inr (.inl rfl)))))
 | 6, _ => .inr (.inr (.inr (.inr (.inr (.inr (.inl rfl))))))
 | 7, _ => .inr (.inr (.inr (.inr (.inr (.inr (.inr rfl))))))
 | _ + 8, h => absurd h (Nat.not_le.mpr (Bq (by decide) (Nat.le_add_left 8 _)))
theorem sx (h0 : ¬(a = b)) (h1 : ¬(a = b + 1)) (h2 : ¬(a = b + 2)) (h3 : ¬(a = b + 3)) (h4 : ¬(a = b + 4)) (h5 : ¬(a = b + 5)) (h6 : ¬(a = b + 6)) (h7 : ¬(a = b + 7)) : (a < b) ∨ (b + 7 < a) := by
 refine (Nat.lt_or_ge a b).imp id fun g => ?_
 refine Nat.lt_of_not_le fun q => ?_
 rcases oy g q with e | e | e | e | e | e | e | e
 ·exact h0 e
 ·exact h1 e
 ·exact h2 e
 ·exact h3 e
 ·exact h4 e
 ·exact h5 e
 ·exact h6 e
 ·exact h7 e
theorem sw : a + ((0 * (0 + 1)) / 2) ≤ a + (b / 2) := Bv _ _
theorem sv {a b : Nat} {c : Int} (h0 : (a : Int) = (b : Int) + (0 : Int)) : c + (b : Int) = c + (a : Int) := by omega
theorem sr {a b : Nat} {c : Int} (h0 : (a : Int) = (b : Int) + (1 : Int)) (h1 : b = 0) : c + (1 : Int) = c + (a : Int) := by subst_vars; omega
theorem sq {a b : Nat} {c : Int} (h0 : (a : Int) = (b : Int) + (1 : Int)) : (c + (1 : Int)) + (b : Int) = c + (a : Int) := by rw [h0, Int.add_comm (b : Int) 1, Int.add_assoc]
theorem sp {a b : Nat} {c : Int} (h0 : a = b) (h1 : c < (b : Int)) : c - (1 : Int) < (a : Int) := by subst_vars; omega
theorem sn {a b c : Int} : (a + b) + c = a + (b + c) := (Int.add_assoc _ _ _)
theorem sm (h0 : (a : Int) = (b : Int)) (h1 : c + b = a) : c = 0 := by subst_vars; omega
theorem sk (h0 : 0 < a) (h1 : b = a) (h2 : c = b) : (c : Int) ≠ (0 : Int) := by subst_vars; omega
theorem sj (h0 : a + b = c) (h1 : a = Int.toNat ((c : Int) - (0 : Int))) : b = 0 := by rw [Int.sub_zero, Bo] at h1; exact Nat.add_left_cancel (n := a) (h0.trans (h1.symm.trans (Nat.add_zero a).symm))
theorem si (h0 : a + b = c) (h1 : b = 0) : a = c := by subst_vars; simp
theorem sh (h0 : a + b = c) : (b : Int) ≤ (c : Int) := by subst_vars; omega
theorem sd (h0 : a + b = c) : (c : Int) - (b : Int) = (a : Int) := by subst_vars; simp
theorem sc (h0 : a + b = c) : a + (b + 1) = c + 1 := by rw [<- h0, Db]
theorem sa (h0 : a + b ≤ c) : a + b ≤ c + 1 := Nat.le_succ_of_le (by assumption)
theorem r0 (h0 : a + b ≤ c) : a ≤ c := by obtain ⟨k, rfl⟩ := Gt h0; simp [Db, Dh, Gk]
theorem rY (h0 : a < b) (h1 : c ≤ a) : c ≤ b := by subst_vars; omega
theorem rX (h0 : a = 0) (h1 : a + b = c) : (c : Int) = (b : Int) := by subst_vars; simp
theorem rW (h0 : a = b) (h1 : c < b) : c ≤ a := by subst_vars; omega
theorem rV (h0 : a = b) (h1 : ¬(c < b)) (h2 : ¬(c = b)) : (c - 1) - a < c - a := by subst_vars; omega
theorem rU (h0 : a ≤ (b + 1) + c) : a ≤ b + (c + 1) := by omega
theorem rS (h0 : a ≤ 1) (h1 : b ≤ c) : b + a ≤ c + 1 := Nat.add_le_add h1 h0
theorem rR (h0 : a ≤ 10) (h1 : b ≤ c) (h2 : c ≤ 8 * a) : b ≤ 100 := Ag h1 (Ag h2 (Ag (Di 8 h0) (by decide)))
theorem rQ (h0 : a ≤ 100) (h1 : b + c ≤ a) : b + 1 < 4096 := by subst_vars; omega
theorem rP (h0 : a ≤ 100) (h1 : b ≤ 0 + c) (h2 : c ≤ a) : b ≤ 16777216 := Ag h1 (by rw [Nat.zero_add]; exact Ag h2 (Ag h0 (by decide)))
theorem rO (h0 : a ≤ 101 + b) (h1 : c ≤ a + 1) : c ≤ 101 + (b + 1) := Ag h1 (by rw [<- Db]; exact Nat.add_le_add_right h0 1)
theorem rL (h0 : a ≤ 5 * b) (h1 : b ≤ c) : a ≤ c * 5 := Ag h0 (by rw [Nat.mul_comm]; exact Nat.mul_le_mul_right 5 h1)
theorem rK (h0 : a ≤ 8) (h1 : b ≤ 101 + c) (h2 : c < a) : b ≤ 1000 := Ag h1 (Ag (Bl (Ag (Bh h2) h0) 101) (by decide))
theorem rJ (h0 : a ≤ b) (h1 : b ≤ 625) (h2 : c ≤ 5 * a) : c ≤ 16777216 := Ag h2 (Ag (Di 5 (Ag h0 h1)) (by decide))
theorem rH (h0 : a ≤ b) (h1 : c + (16 * b) < 9000) : c + (16 * a) < 9000 := Gf (Bl (Di 16 h0) c) h1
theorem rG (h0 : a ≤ b) (h1 : c + 1 ≤ a + 1) : c + 1 ≤ b + 1 := by omega
theorem rF (h0 : a ≤ b) (h1 : c + 1 ≤ a) : c + 1 ≤ b := Bq h1 h0
theorem rE (h0 : a ≤ b) (h1 : c + b < 900) : c + a < 900 := by omega
theorem rC (h0 : a ≤ b) (h1 : c < a) : c < b := Bq h1 h0
theorem rB (h0 : a ≤ b) (h1 : c = b) : a ≤ c := by subst_vars; omega
theorem rA (h0 : a ≤ b) : a + c ≤ c + b := by obtain ⟨k, rfl⟩ := Gt h0; simp [Db, Dh, Gk]
theorem ry {a b c : Nat} {d : Int} (h0 : a = b) (h1 : c = a) (h2 : d < (b : Int)) : d < (c : Int) := by subst_vars; omega
theorem rv (h0 : a + (b + 1) ≤ c) : a + (d + ((b - 0) + 0)) < c + d := by obtain ⟨k, rfl⟩ := Gt h0; simp [Db, Dh, Gk]
theorem ru (h0 : a + b = c) : (a + d) + b = c + d := by rw [<- h0, Nat.add_right_comm]
theorem rt (h0 : a + b = c) : d + a ≤ d + c := by subst_vars; simp
theorem rq (h0 : a = b) (h1 : c + d ≤ b) : c + d ≤ a := by subst_vars; assumption
theorem rp (h0 : a ≤ 10) (h1 : b ≤ c) (h2 : c ≤ 8 * d) (h3 : d ≤ a) : b ≤ 80 := Ag h1 (Ag h2 (Di 8 (Ag h3 h0)))
theorem ro (h0 : a ≤ 100) (h1 : b ≤ 100 + c) (h2 : c < a) (h3 : d = b) : d ≤ 16777216 := h3 ▸ Ag h1 (Ag (Bl (Ag (Bh h2) h0) 100) (by decide))
theorem rk (h0 : a ≤ 100) (h1 : b ≤ c) (h2 : c + d ≤ a) : b ≤ 100 := Ag h1 (Ag (Bv c d) (Ag h2 h0))
theorem rj (h0 : a ≤ 8) (h1 : b < a) (h2 : c = d) (h3 : d ≤ 100 + b) : c ≤ 16777216 := h2 ▸ Ag h3 (Ag (Bl (Ag (Bh h1) h0) 100) (by decide))
theorem rf (h0 : a ≤ b) (h1 : c = a) (h2 : c = d) : d ≤ b := by subst_vars; omega
theorem re {a b c d : Nat} {e : Int} (h0 : a = b) (h1 : b < c) (h2 : a + d = c) (h3 : e < (d : Int)) : Int.toNat e < d := by subst_vars; omega
theorem rc {a b c d e : Int} (h0 : a = b + c) : (d + e) + a = (d + b) + (e + c) := by omega
theorem q9 (h0 : a + b ≤ c) (h1 : d = a) (h2 : e = b) : d + e ≤ c := h1 ▸ h2 ▸ h0
theorem q8 (h0 : a < b) : c + (d + ((b - (a + 1)) + 0)) < c + ((d + ((b - a) + 0)) + e) := by omega
theorem q7 (h0 : a = b) (h1 : b < c) (h2 : a + d = c) (h3 : e = d) : (e : Int) ≠ (0 : Int) := by subst_vars; omega
theorem q6 (h0 : a ≤ 1) (h1 : b ≤ ((c + a) + d) + e) (h2 : d = 0) : b ≤ c + (e + 1) := by subst h2; exact Ag h1 (by rw [Nat.add_zero, Db, Dh a e]; exact Bl (Bl h0 e) c)
theorem q5 (h0 : a ≤ 10) (h1 : b ≤ 10) (h2 : c ≤ b) (h3 : d = c) (h4 : e = a) : d + e ≤ 16777216 := Ag (Nat.add_le_add (h3 ▸ Ag h2 h1) (h4 ▸ h0)) (by decide)
theorem q0 (h0 : a ≤ 100) (h1 : b ≤ c) (h2 : c + d ≤ a) (h3 : e + 1 ≤ d) : b + 1 ≤ 100 := Ag (Nat.add_le_add h1 (Ag (Nat.le_add_left 1 e) h3)) (Ag h2 h0)
theorem qZ (h0 : a ≤ 100) (h1 : b ≤ c) (h2 : c + d ≤ a) (h3 : e = b) : e ≤ 16777216 := h3 ▸ Ag h1 (Ag (Bv c d) (Ag h2 (Ag h0 (by decide))))
theorem qX (h0 : a ≤ b) (h1 : c = d) (h2 : d ≤ e) (h3 : e ≤ a) : c ≤ b := by subst_vars; omega
theorem qW (h0 : a ≤ b) (h1 : c = d) (h2 : e + c ≤ a) : e ≤ b - d := Nat.le_sub_of_add_le (h1 ▸ Ag h2 h0)
theorem qV (h0 : a + b ≤ c) (h1 : d = a + e) (h2 : e ≤ f) (h3 : f ≤ b) : d ≤ c := h1 ▸ Ag (Bl (Ag h2 h3) a) h0
theorem qU {a c d e f g : Nat} {b i : Int} (h0 : (a : Int) + b = (a + c : Int)) (h1 : d + e = c) (h2 : f = e) (h3 : g < e) (h4 : (0 : Int) ≤ i) : -(1000 : Int) ≤ i - (1 : Int) := by omega
theorem qT {a c d e f g : Nat} {b i : Int} (h0 : (a : Int) + b = (a + c : Int)) (h1 : d + e = c) (h2 : f = e) (h3 : g < e) (h4 : i < (4 : Int)) : i - (1 : Int) ≤ (1000 : Int) := by omega
theorem qQ {b : Nat} {a : Int} (h0 : (1 : Int) ≤ a) : -(b : Int) ≤ a := by omega
theorem qP {b : Nat} {a : Int} (h0 : (1 : Int) ≤ a) : -(b : Int) ≤ a - (1 : Int) := by omega
theorem qO {b : Nat} {a : Int} (h0 : a - (1 : Int) = (b : Int)) : a = (1 : Int) + (b : Int) := by omega
theorem qN {b : Nat} {a : Int} (h0 : a = (1 : Int) + (b : Int)) : a - (1 : Int) = (b : Int) := by subst_vars; omega
theorem qM {b : Nat} {a : Int} (h0 : ¬(a - (1 : Int) = (0 : Int))) (h1 : a = (1 : Int) + (b : Int)) : b ≠ 0 := by subst_vars; omega
theorem qK {b : Nat} {a : Int} : (a - (1 : Int)) - (b : Int) = a - ((1 : Int) + (b : Int)) := by omega
theorem qJ {b : Nat} {a : Int} : a - (b : Int) = a - ((0 : Int) + (b : Int)) := by simp
end
end Mine
end
section
open PySem PySem.W PyProof.Rows PySem.Calls
namespace Mine
section
def Ext (h h' : Heap) : Prop := ∀ b o, h.get? b = some o -> h'.get? b = some o
theorem Ext.refl (h : Heap) : Ext h h := fun _ _ e => e
theorem Ext.trans {a b c : Heap} (x : Ext a b) (y : Ext b c) : Ext a c := fun i o e => y i o (x i o e)
theorem ac (h : Heap) (o : Obj) : Ext h (h.push o) := fun _ _ e => Heap.get?_push_of_some _ e
theorem aA {h h' : Heap} {g : Heap} {a : Addr} (x : Ext g h) (hs : Heap.SameBut a h h') (ha : g.get? a = none) : Ext g h' := fun b o e =>
 (hs.2 b (fun q => by rw [q, ha] at e; cases e)).trans (x b o e)
theorem ae (h : Heap) : h.get? h.objs.size = none := by
 cases e : h.get? h.objs.size with
 | none => rfl
 | some o => exact absurd (A5 e) (A9 _)
theorem av {h : Heap} {a : Addr} (x : h.objs.size ≤ a) : h.get? a = none := by
 cases e : h.get? a with
 | none => rfl
 | some o => exact absurd (A5 e) (Bp.mpr x)
theorem ay {s : Shared} {h' : Heap} {tk : Nat} (x : Ext s.heap h') : Keeps s { s with heap := h', toks := tk } := ⟨h', tk, rfl, x⟩
theorem aq (s : Shared) : Keeps s s := ⟨s.heap, s.toks, rfl, fun _ _ e => e⟩
theorem kz (A : Around) : A.mark none = A := rfl
structure ak (A : Around) (k : Nat) : Prop where
 h : A.handled = none
 d : A.depth + k < 900
 u : A.units + 16 * k < 9000
theorem ak.le {A : Around} {k j : Nat} (x : ak A k) (h : j ≤ k) : ak A j := ⟨x.h, by have := x.d; exact rE h this, by have := x.u; exact rH h this⟩
theorem ak.depth {A : Around} {k : Nat} (x : ak A k) : A.depth < recursionLimit := by have := x.d; simp only [recursionLimit]; exact tq this
theorem ak.units {A : Around} {k : Nat} (x : ak A k) : A.units + 64 < cLine := by have := x.u; simp only [cLine]; exact tH this
theorem ak.deeper {A : Around} {k : Nat} (x : ak A (k + 1)) (env : Env) : ak (A.deeper env) k :=
 ⟨x.h, by have := x.d; show A.depth + 1 + k < 900; exact tG this, by have := x.u; show A.units + 3 + 16 * k < 9000; exact tI this⟩
theorem ak.in1 {A : Around} {k : Nat} (x : ak A (k + 1)) : ak A.in1 k := ⟨x.h, by have := x.d; show A.depth + k < 900; exact tF this, by have := x.u; show A.units + 1 + 16 * k < 9000; exact tJ this⟩
def sOf : Value -> Option Str
 | .str x _ => some x
 | _ => none
def iOf : Value -> Option Int
 | .int i _ => some i
 | _ => none
theorem ai {v : Value} {x : Str} (h : sOf v = some x) : ∃ t, v = .str x t := by
 cases v <;> simp only [sOf] at h <;> first | (cases h; exact ⟨_, rfl⟩) | cases h
theorem aF {v : Value} {x : Int} (h : iOf v = some x) : ∃ t, v = .int x t := by
 cases v <;> simp only [iOf] at h <;> first | (cases h; exact ⟨_, rfl⟩) | cases h
def ab (x : Str) : List Str := x.cps.toList.map fun c => ⟨#[c]⟩
section
variable {prog : Program} {w : World} {A : Around} {E : Value -> Shared -> Prop} {s : Shared}
def bk {α : Type} (prog : Program) (w : World) (A : Around) (src : List Addr) (k : Value -> Option α) (cs : List α) (s_1 : Shared) (it : Value) (s_2 : Shared) : Prop :=
 ∃ I fp wr n P St, it = .ref I ∧ Walks prog w A I fp wr n P St ∧ n = cs.length ∧ St 0 s_2.heap ∧ (∀ b ∈ fp, b < s_2.heap.objs.size) ∧ (∀ i v, P i v -> i < n -> k v = cs[i]?) ∧ (∀ b ∈ wr, s_1.heap.get? b = none) ∧ (∀ b ∈ fp, b ∈ src ∨ s_1.heap.get? b = none) ∧ Keeps s_1 s_2
theorem bT {x : Str} {t : Tok} (hA : A.handled = none) : wpAny (model prog w) A (pyIter (.str x t)) (bk prog w A [] sOf (ab x) s) E s := by
 refine wpAny_pyIter_str fun o St W hst => ?_
 refine EI6 _ _ _ _ _ St ⟨rfl, W A hA, by simp [ab], hst, ?_, ?_, ?_, ?_, ay (ac _ _)⟩
 ·intro b hb; rw [Ac.mp hb]; rw [A4]; exact Do _
 ·intro i v X1 _
  refine aG X1 ?_
  clear X1
  rintro c u hc rfl
  simp only [sOf, ab, List.getElem?_map, Array.getElem?_toList, hc, Dg]
 ·intro b hb; rw [Ac.mp hb]; exact ae _
 ·intro b hb; rw [Ac.mp hb]; exact .inr (ae _)
theorem aL {α : Type} {k : Value -> Option α} {cs : List α} {l : Addr} {items : Array Value} (hA : A.handled = none) (hl : s.heap.IsList l items) (hk : items.toList.map k = cs.map some) :
  wpAny (model prog w) A (pyIter (.ref l)) (bk prog w A [l] k cs s) E s := by
 refine wpAny_pyIter_list hl ?_
 refine ag (id hl) fun o ho r => ?_
 have hne : l ≠ s.heap.objs.size := B3 (A5 ho)
 have hlen := congrArg List.length hk
 simp only [Ai, As] at hlen
 refine EI6 _ _ _ _ _ _ ⟨rfl, Walks.list hA s.heap.objs.size l hne items, hlen, ⟨⟨_, Heap.get?_push_size _ rfl, rfl, rfl⟩, hl.push _⟩, ?_, ?_, ?_, ?_, ay (ac _ _)⟩
 ·intro b hb
  rw [A4]
  rcases Ap.mp hb with rfl | hb
  ·exact Do _
  ·rw [Ac.mp hb]; exact Nat.lt_succ_of_lt (A5 ho)
 ·intro i v hv _
  have := congrArg (fun l => l[i]?) hk
  simp only [List.getElem?_map, Array.getElem?_toList, hv, Dg] at this
  cases h : cs[i]? with
  | none => rw [h] at this; cases this
  | some c => rw [h] at this; simpa using this
 ·intro b hb; rw [Ac.mp hb]; exact ae _
 ·intro b hb
  rcases Ap.mp hb with rfl | hb
  ·exact .inr (ae _)
  ·exact .inl hb
theorem dY {α : Type} {k : Value -> Option α} {cs : List α} {l : Addr} {items : Array Value} (hA : A.handled = none) (hl : s.heap.IsTuple l items) (hk : items.toList.map k = cs.map some) :
  wpAny (model prog w) A (pyIter (.ref l)) (bk prog w A [l] k cs s) E s := by
 refine wpAny_pyIter_tuple hl ?_
 refine ag (id hl) fun o ho r => ?_
 have hne : l ≠ s.heap.objs.size := B3 (A5 ho)
 have hlen := congrArg List.length hk
 simp only [Ai, As] at hlen
 refine EI6 _ _ _ _ _ _ ⟨rfl, Walks.tuple hA s.heap.objs.size l hne items, hlen, ⟨⟨_, Heap.get?_push_size _ rfl, rfl, rfl⟩, hl.at fun o e => ac _ _ _ _ e⟩, ?_, ?_, ?_, ?_, ay (ac _ _)⟩
 ·intro b hb
  rw [A4]
  rcases Ap.mp hb with rfl | hb
  ·exact Do _
  ·rw [Ac.mp hb]; exact Nat.lt_succ_of_lt (A5 ho)
 ·intro i v hv _
  have := congrArg (fun l => l[i]?) hk
  simp only [List.getElem?_map, Array.getElem?_toList, hv, Dg] at this
  cases h : cs[i]? with
  | none => rw [h] at this; cases this
  | some c => rw [h] at this; simpa using this
 ·intro b hb; rw [Ac.mp hb]; exact ae _
 ·intro b hb
  rcases Ap.mp hb with rfl | hb
  ·exact .inr (ae _)
  ·exact .inl hb
theorem ik {d : Addr} {kvs : List (Str × Value)} {ep : Nat} (hA : A.handled = none) (hd : (d == sysModules) = false) (hm : s.heap.DictAt (strKind prog w) d kvs ep) :
  wpAny (model prog w) A (pyIter (.ref d)) (bk prog w A [d] sOf (kvs.map (·.1)) s) E s := by
 refine wpAny_pyIter_dict hd hm ?_
 refine aG (id hm) fun o es ho r => ?_
 have hne : d ≠ s.heap.objs.size := B3 (A5 ho)
 refine EI6 _ _ _ _ _ _ ⟨rfl, Walks.dictKeys hA s.heap.objs.size d hne kvs ep, by simp, ⟨⟨_, Heap.get?_push_size _ rfl, rfl, rfl⟩, hm.at' fun o e => ac _ _ _ _ e⟩, ?_, ?_, ?_, ?_, ay (ac _ _)⟩
 ·intro b hb
  rw [A4]
  rcases Ap.mp hb with rfl | hb
  ·exact Do _
  ·rw [Ac.mp hb]; exact Nat.lt_succ_of_lt (A5 ho)
 ·intro i v X2 _
  refine aG X2 fun k x hx hk => ?_
  clear X2
  refine ah (Value.isStrOf_shape hk) ?_
  rintro t rfl
  simp [sOf, hx]
 ·intro b hb; rw [Ac.mp hb]; exact ae _
 ·intro b hb
  rcases Ap.mp hb with rfl | hb
  ·exact .inr (ae _)
  ·exact .inl hb
theorem fo {α β : Type} {k : Value -> Option α} {k' : Value -> Option β} {g : α -> β} : ∀ {vs ys : List Value} {cs : List α}, vs.map k = cs.map some -> Paired (fun v y => k' y = (k v).map g) vs ys -> ys.map k' = (cs.map g).map some
 | [], _, [], _, .nil => rfl
 | v :: vs, _, c :: cs, e, .cons h t => by
  simp only [A2, B9] at e ⊢
  exact ⟨by rw [h, e.1]; rfl, fo e.2 t⟩
theorem dq {α : Type} {k : Value -> Option α} {test : α -> Bool} : ∀ {vs : List Value} {cs : List α}, vs.map k = cs.map some -> (vs.filter fun v => ((k v).map test).getD false).map k = (cs.filter test).map some
 | [], [], _ => rfl
 | v :: vs, c :: cs, e => by
  simp only [A2, B9] at e
  have ih := dq (test := test) e.2
  simp only [List.filter_cons, e.1, Dg, Option.getD_some]
  cases test c <;> simp [ih, e.1]
theorem LC {α β : Type} {k : Value -> Option α} {k' : Value -> Option β} {env : Env} {elt iter : Expr} {x : Str} {px : Pos} {ifs : List Expr} {scope : Scope} {cl : List (Str × Addr)} {pos : Pos} {Q : Value -> Shared -> Prop}
  (cs : Shared -> List α) (test : α -> Bool) (g : α -> β)
  (hclos : closureFor scope env = pure cl) (hcell : ∀ y ∈ scope.names, y.2 ≠ .cell) (hkind : scope.kind = .function)
  (hnames : ∀ y ∈ scope.names, y.2 = .local -> scope.names.lookup y.1 = some .local) (hx : scope.names.lookup x = some .local)
  (h : wpAny (model prog w) A (eval iter env) (fun xv s_1 => (∃ src, wpAny (model prog w) A (pyIter xv) (bk prog w A src k (cs s_1) s_1) E s_1) ∧ (cs s_1).length ≤ sizeLine ∧
   (∀ C v c s_3 m_3 E', s_1.heap.get? C = none -> k v = some c -> c ∈ cs s_1 -> s_3.heap.Ns C m_3 -> m_3 x = some v -> Ext s_1.heap s_3.heap ->
    wpAny (model prog w) A (forIn ifs true fun c r => if r = true then do let ok <- isTrue c (compEnvC scope cl C env) (eval c (compEnvC scope cl C env)); pure (ForInStep.yield ok) else pure (ForInStep.yield r))
     (fun ok s_4 => ok = test c ∧ Keeps s_3 s_4) E' s_3) ∧
   (∀ C v c s_3 m_3 E', s_1.heap.get? C = none -> k v = some c -> c ∈ cs s_1 -> test c = true -> s_3.heap.Ns C m_3 -> m_3 x = some v -> Ext s_1.heap s_3.heap ->
    wpAny (model prog w) A (eval elt (compEnvC scope cl C env)) (fun y s_4 => k' y = some (g c) ∧ Keeps s_3 s_4) E' s_3) ∧
   (∀ D h' tk ys, s_1.heap.get? D = none -> h'.PlainList D ys -> ys.toList.map k' = (((cs s_1).filter test).map g).map some -> Ext s_1.heap h' -> Q (.ref D) { s_1 with heap := h', toks := tk })) E s)
  (hs : ∀ x, foldedSetIterable iter env x = pure x := by intro _; rfl) :
  wpAny (model prog w) A (eval (.ListComp elt [⟨.Name x px, iter, ifs, 0⟩] scope pos) env) Q E s := by
 refine wpAny_ListComp_free (fun v => ((k v).map test).getD false) (fun v y => k' y = (k v).map g) hclos hcell hkind hnames hx (Aj h (fun xv s_1 h_1 => ?_) fun _ _ e => e) hs
 refine ce h_1 ?_
 clear h_1
 rintro ⟨src, hsrc⟩ hsz ht he hQ
 refine ad ?_
 intro Qb
 refine Aj hsrc (fun it s_2 h_2 => ?_) fun _ _ e => e
 refine cB h_2 ?_
 clear h_2
 rintro I fp wr n P St rfl W hn hst hfp hP hwr _ Z5
 refine aG Z5 ?_
 clear Z5
 rintro h2 tk2 rfl k2
 have out : ∀ b o, s_1.heap.get? b = some o -> b ∉ wr := fun b o e hb => by rw [hwr b hb] at e; cases e
 have W' : Walks prog w A I fp wr n (fun i v => P i v ∧ i < n) St :=
  ⟨W.sub, W.frame, fun i s Q E hi st hQ => W.item i s Q E hi st fun v h' tk hp => hQ v h' tk ⟨hp, hi⟩, W.done, W.self⟩
 have out : ∀ b o, s_1.heap.get? b = some o -> b ∉ wr := fun b o e hb => by rw [hwr b hb] at e; cases e
 have item : ∀ i v, P i v ∧ i < n -> ∃ c, k v = some c ∧ c ∈ cs s_1 ∧ (cs s_1)[i]? = some c := fun i v hv => by
  have hkv := hP i v hv.1 hv.2
  have hl := hv.2
  rw [hn] at hl
  rw [List.getElem?_eq_getElem hl] at hkv
  exact ⟨_, hkv, List.getElem_mem hl, List.getElem?_eq_getElem hl⟩
 have low : ∀ C, h2.objs.size ≤ C -> s_1.heap.get? C = none := fun C hC => by
  cases e : s_1.heap.get? C with
  | none => rfl
  | some o => exact absurd (A5 (k2 C o e)) (Bp.mpr hC)
 refine EI6 I fp wr n _ St ⟨rfl, W', (om9 hsz hn), hst, hfp, ⟨?_, ?_⟩, ?_⟩
 ·intro C i v s_3 m_3 E' hC hv hns hm hk _
  refine aZ (item i v hv) fun c hkv hc _ => ?_
  exact Aj (ht C v c s_3 m_3 E' (low C hC) hkv hc hns hm fun b o e => hk b o (out b o e) (k2 b o e)) (fun ok s_4 h => ⟨by rw [h.1, hkv]; rfl, h.2⟩) fun _ _ e => e
 ·intro C i v s_3 m_3 E' hC hv hpv hns hm hk _
  refine aZ (item i v hv) fun c hkv hc _ => ?_
  rw [hkv] at hpv
  exact Aj (he C v c s_3 m_3 E' (low C hC) hkv hc hpv hns hm fun b o e => hk b o (out b o e) (k2 b o e)) (fun y s_4 h => ⟨by rw [h.1, hkv]; rfl, h.2⟩) fun _ _ e => e
 ·intro D h' tk ys vs hD _ hpl hlen hPv hF hk
  have hv : vs.map k = (cs s_1).map some := by
   refine List.ext_getElem? fun j => ?_
   rw [List.getElem?_map, List.getElem?_map]
   cases hj : vs[j]? with
   | none =>
    have : (cs s_1)[j]? = none := by rw [List.getElem?_eq_none_iff] at hj ⊢; exact vG hn hlen hj
    rw [this]; rfl
   | some v =>
    refine aZ (item j v (hPv j v hj)) fun c hkv _ hc => ?_
    rw [hc, Dg, Dg, hkv]
  have hD' : s_1.heap.get? D = none := by
   cases e : s_1.heap.get? D with
   | none => rfl
   | some o => exact absurd (k2 D o e) (by rw [hD]; exact fun x => by cases x)
  exact hQ D h' tk ys hD' hpl (fo (dq hv) hF) fun b o e => hk b o (out b o e) (k2 b o e)
end
end
section
abbrev MK (w : World) : Model := model pw w
structure Gr (w : World) (g : Heap) : Prop where
 K : (K w.params).In g
 T : ∃ p loose mg mb, TopRead p loose mg mb g
theorem Gr.ext {w : World} {g h : Heap} (G : Gr w g) (x : Ext g h) : Gr w h := ⟨G.K.keeps x, let ⟨p, l, a, b, T⟩ := G.T; ⟨p, l, a, b, T.keeps x⟩⟩
theorem Gr.lim {w : World} {g : Heap} (G : Gr w g) : g.NoLimit := let ⟨_, _, _, _, T⟩ := G.T; T.nolimit
section
variable {w : World} {A : Around} {E : Value -> Shared -> Prop} {s : Shared} {g : Heap} {env : Env} {x : Str} {pos : Pos} {v : Value} {Q : Value -> Shared -> Prop}
theorem nmL {L : Addr} {m : Str -> Option Value} (hn : s.heap.Ns L m) (hv : m x = some v) (h : Q v s) (hL : env.locals = L := by rfl) (hk : env.scope.kind = .function := by rfl) (hl : env.kindOf x = some .local := by rfl) (hd : (x == ("__debug__" : Str)) = false := by decide) :
  wpAny (MK w) A (eval (.Name x pos) env) Q E s := by subst hL; exact wpAny_Name (wpAny_loadName_local hk hl hn hv h) hd
theorem stL {L : Addr} {m : Str -> Option Value} {Q : Unit -> Shared -> Prop} (hn : s.heap.Ns L m) (h : ∀ h', h'.Ns L (fun y => if y = x then some v else m y) -> Heap.SameBut L s.heap h' -> Q () { s with heap := h', toks := s.toks + 1 })
  (hL : env.locals = L := by rfl) (hl : env.kindOf x = some .local := by rfl) (hp : (env.scope.kind == .class || (env.scope.kind == .module && env.locals != env.globals)) = false := by rfl) : wpAny (MK w) A (storeName env x v) Q E s := by
 subst hL; exact G6 hl hn h hp
theorem stC {c : Addr} {v_0 : Option Value} {Q : Unit -> Shared -> Prop} (hv : s.heap.IsCell c v_0) (h : ∀ h', h'.IsCell c (some v) -> Heap.SameBut c s.heap h' -> Q () { s with heap := h' })
  (hk : env.scope.kind = .function := by rfl) (hl : env.kindOf x = some .cell := by rfl) (hc : env.cells.lookup x = some c := by rfl) : wpAny (MK w) A (storeName env x v) Q E s := wpAny_storeName_cell hk hl hc hv h
theorem nmC {c : Addr} (hv : s.heap.IsCell c (some v)) (h : Q v s) (hk : env.scope.kind = .function := by rfl) (hl : env.kindOf x = some .cell := by rfl) (hc : env.cells.lookup x = some c := by rfl) (hd : (x == ("__debug__" : Str)) = false := by decide) :
  wpAny (MK w) A (eval (.Name x pos) env) Q E s := wpAny_Name (wpAny_loadName_cell hk hl hc hv h) hd
theorem nmG (G : Gr w s.heap) (e : nsIn (K w.params) mainGlobals x = some (some v)) (h : Q v s) (hk : env.scope.kind = .function := by rfl) (hg : env.globals = mainGlobals := by rfl) (hl : env.kindOf x = some .globalImplicit := by rfl) (hd : (x == ("__debug__" : Str)) = false := by decide) :
  wpAny (MK w) A (eval (.Name x pos) env) Q E s := by
 refine pL G.T fun p l mg mb T => ?_
 exact Name_function_global hk hl (loadGlobal_global (by rw [hg]; exact T.g) (mg_of G.K T.g e) h) hd
theorem nmB (G : Gr w s.heap) (e : nsIn (K w.params) mainGlobals x = some none) (hv : bootBuiltins x = some v) (h : Q v s) (hn : x ≠ "__name__" := by decide) (hk : env.scope.kind = .function := by rfl) (hg : env.globals = mainGlobals := by rfl)
  (hb : env.builtins = builtinsNs := by rfl) (hl : env.kindOf x = some .globalImplicit := by rfl) (hd : (x == ("__debug__" : Str)) = false := by decide) :
  wpAny (MK w) A (eval (.Name x pos) env) Q E s := by
 refine pL G.T fun p l mg mb T => ?_
 exact Name_function_global hk hl (loadGlobal_builtin (by rw [hg]; exact T.g) (mg_none_of G.K T.g e) (by rw [hb]; exact T.b) ((T.builtins x hn).trans hv) h) hd
end
section
variable {w : World} {A : Around} {E : Value -> Shared -> Prop} {s : Shared} {Q : Value -> Shared -> Prop}
theorem jZ {f : Addr} {o : Obj} {fd : FuncData} {body : List Stmt} {vals : List Value} {binds : List (Str × Value)} {k : Nat}
  (R : ak A k) (G : Gr w s.heap) (ho : (K w.params).lookup f = some o) (hdata : o.data = .func fd) (hcd : codeIn (K w.params) (fd.code) fd.qualname = true)
  (hbody : fd.body = .stmts body) (hbind : bindArgs fd ⟨vals, []⟩ = pure binds) (hclo : fd.closure = [])
  (hkind : (binds.all fun y => fd.scope.names.lookup y.1 == some .local || fd.scope.names.lookup y.1 == some .cell) = true)
  (h : ∀ s_1, InCallC s s.heap.objs.size (bindL (callEnvC fd s.heap.objs.size f).kindOf binds fun _ => none) (callEnvC fd s.heap.objs.size f).cells
    (bindC (callEnvC fd s.heap.objs.size f).kindOf binds fun _ => none) s_1 ->
   wpAny (MK w) (A.deeper (callEnvC fd s.heap.objs.size f)) (execs body (callEnvC fd s.heap.objs.size f)) (fun fl s' => Q (match fl with | .ret v => v | _ => .none) s') (fun _ _ => False) s_1)
  (hco : fd.scope.isCoroutine = false := by rfl) (hgen : fd.scope.isGenerator = false := by rfl) (hk : fd.scope.kind = .function := by rfl) :
  wpAny (MK w) A (call (.ref f) vals []) Q E s :=
 Bf (codeAny_call_cells R.depth (G.K _ _ ho) hdata G.lim (codeRec_of G.K hcd) hbody hbind hclo (kindsX hkind _) (fun s_1 x => Aj (h s_1 x) (fun _ _ q => q) fun _ _ e => e.elim) hco hgen hk)
end
end
section
abbrev hz (s : Shared) : Nat := s.heap.objs.size
theorem gJ {M : Model} {Γ : Ctx} {p : Pos} {t : Sem Fin} {fs : List Frame} {s s' : Shared} {e : End} (h : Runs M Γ p t fs s e s') : hz s ≤ hz s' := by
 induction h <;> (try simp only [Shared.setGen, hz, Heap.size_after_update, A4] at *) <;> omega
theorem ja {M : Model} {Γ : Ctx} {p : Pos} {s s' : Shared} {r : Result} (h : Returns M Γ p s r s') : hz s ≤ hz s' := gJ h
theorem kW {M : Model} {Γ : Ctx} {p : Pos} {g : Nat} {r : Resume} {s s' : Shared} {res : GenResult} (h : Wakes M Γ p g r s res s') : hz s ≤ hz s' := by
 unfold Wakes at h
 split at h
 ·exact h.elim
 ·split at h
  ·obtain ⟨e_1, s_1, hr, _, _, rfl⟩ := h; exact (gJ hr : hz (s.setGen g .running) ≤ hz s_1)
  ·rw [h.2]; exact Aw _
  ·rw [h.2]; exact Aw _
 ·obtain ⟨e_1, s_1, hr, _, _, rfl⟩ := h; exact (gJ hr : hz (s.setGen g .running) ≤ hz s_1)
 ·rw [h.2]; exact Aw _
 ·rw [h.2]; exact Aw _
open Sem in
theorem pN {α : Type} (M : Model) (Γ : Ctx) (n : Nat) (t : Sem α) : ∀ (Q : α -> Pos -> Shared -> Prop) (E : Value -> Pos -> Shared -> Prop) (p : Pos) (s : Shared), n ≤ hz s -> Sem.wp M Γ t Q E p s ->
  Sem.wp M Γ t (fun a p' s' => n ≤ hz s' ∧ Q a p' s') (fun e p' s' => n ≤ hz s' ∧ E e p' s') p s := by
 induction t with
 | pure a => intro Q E p s hn h; exact ⟨hn, h⟩
 | raise e => intro Q E p s hn h; exact ⟨hn, h⟩
 | unsupported _ => intro Q E p s _ h; exact h
 | finish _ => intro Q E p s _ h; exact h
 | rule _ k ih => intro Q E p s hn h; exact ih () Q E p s hn h
 | «at» p' k ih => intro Q E p s hn h; exact ih () Q E p' s hn h
 | load a _ k ih => intro Q E p s hn h; obtain ⟨o, ho, h⟩ := h; exact ⟨o, ho, ih o Q E p s hn h⟩
 | update a _ f k ih => intro Q E p s hn h; exact ⟨h.1, ih () Q E p _ (by simpa only [hz, Heap.size_after_update] using hn) h.2⟩
 | loadIfAlive a k ih => intro Q E p s hn h; exact ih _ Q E p s hn h
 | point _ k ih => intro Q E p s hn h; exact ih () Q E p s hn h
 | register _ _ => intro Q E p s _ h; exact h
 | alloc o k ih => intro Q E p s hn h; exact ih _ Q E p _ (by simp only [hz, A4] at hn ⊢; omega) h
 | fresh k ih => intro Q E p s hn h; exact ih _ Q E p _ hn h
 | ask k ih => intro Q E p s hn h; exact ih _ Q E p s hn h
 | choose src m k ih => intro Q E p s hn h; exact ⟨h.1, ih _ Q E p _ hn h.2⟩
 | os q _ k ih => intro Q E p s hn h; exact ih _ Q E p _ hn h
 | call c hd _ _ k ih => intro Q E p s hn h; obtain ⟨r, s', hr, h⟩ := h; exact ⟨r, s', hr, ih r Q E p s' (Ag hn (ja hr)) h⟩
 | handled own k ih => intro Q E p s hn h; exact ih _ Q E p s hn h
 | genState g k ih => intro Q E p s hn h; obtain ⟨st, hs, h⟩ := h; exact ⟨st, hs, ih _ Q E p s hn h⟩
 | newGen c k ih => intro Q E p s hn h; exact ih _ Q E p _ hn h
 | resume g r _ k ih => intro Q E p s hn h; obtain ⟨res, s', hw, h⟩ := h; exact ⟨res, s', hw, ih res Q E p s' (Ag hn (kW hw)) h⟩
 | yield _ _ _ _ => intro Q E p s _ h; exact h
 | stack k ih => intro Q E p s hn h; exact ih _ Q E p s hn h
 | fork _ _ => intro Q E p s _ h; exact h
 | thread k ih => intro Q E p s hn h; exact ih _ Q E p s hn h
 | await _ _ _ _ _ => intro Q E p s _ h; exact h
section
variable {α : Type} {M : Model} {A : Around} {s : Shared}
theorem cz {t : Sem α} {Q : α -> Shared -> Prop} {E : Value -> Shared -> Prop} {n : Nat} (hn : n ≤ hz s) (h : wpAny M A t (fun a s' => n ≤ hz s' -> Q a s') (fun e s' => n ≤ hz s' -> E e s') s) : wpAny M A t Q E s :=
 Aj (fun Γ p hΓ => pN M Γ n t _ _ p s hn (h Γ p hΓ) : wpAny M A t (fun a s' => n ≤ hz s' ∧ (n ≤ hz s' -> Q a s')) (fun e s' => n ≤ hz s' ∧ (n ≤ hz s' -> E e s')) s) (fun _ _ x => x.2 x.1) fun _ _ x => x.2 x.1
end
end
section
structure Slo (F : List Addr) (h h' : Heap) : Prop where
 keep : ∀ b o, b ∉ F -> h.get? b = some o -> h'.get? b = some o
 up : h.UpToSlots h'
theorem Slo.trans {F : List Addr} {a b c : Heap} (x : Slo F a b) (y : Slo F b c) : Slo F a c := ⟨fun b o n e => y.keep b o n (x.keep b o n e), x.up.trans y.up⟩
theorem Slo.of_ext {F : List Addr} {a b : Heap} (x : Ext a b) : Slo F a b := ⟨fun b o _ e => x b o e, .of_keeps x⟩
theorem Slo.of {F : List Addr} {a h h' : Heap} (x : Slo F a h) (k : ∀ c o, a.get? c ≠ none -> h.get? c = some o -> h'.get? c = some o) : Slo F a h' := by
 refine ⟨fun b o n e => k b o (by rw [e]; simp) (x.keep b o n e), fun b o e d => ?_⟩
 refine ah (x.up b o e d) fun sl q => ?_
 exact ⟨sl, k b _ (by rw [e]; simp) q⟩
def SKp (F : List Addr) (s s' : Shared) : Prop := ∃ h tk, s' = { s with heap := h, toks := tk } ∧ Slo F s.heap h
section
variable {prog : Program} {w : World} {A : Around} {E : Value -> Shared -> Prop} {R : Result -> Shared -> Prop} {s : Shared}
abbrev lc2 (elt it1 it2 : Expr) (x y : Str) (px py : Pos) (ifs : List Expr) (scope : Scope) (pos : Pos) : Expr := .ListComp elt [⟨.Name x px, it1, [], 0⟩, ⟨.Name y py, it2, ifs, 0⟩] scope pos
variable {elt it1 it2 : Expr} {x y : Str} {px py : Pos} {ifs : List Expr} {scope : Scope} {pos : Pos}
theorem pP (it acc : Value) (env : Env) : compTurn (lc2 elt it1 it2 x y px py ifs scope pos) 0 it acc env = (do
  standAt it1.pos
  match <- pyNext it with
  | none => pure (.done .next)
  | some v =>
   letOwnedTupleGo (.Name x px) it v
   assign (.Name x px) env v
   let xv <- eval it2 env
   standAt it2.pos
   let xv <- foldedSetIterable it2 env xv
   let _ <- runOwn (.compStart (lc2 elt it1 it2 x y px py ifs scope pos) 1 (<- holding [xv] (pyIter xv)) acc env) env
   again (.compLoop (lc2 elt it1 it2 x y px py ifs scope pos) 0 it acc env)) := by rfl
theorem pO (it acc : Value) (env : Env) : compTurn (lc2 elt it1 it2 x y px py ifs scope pos) 1 it acc env = (do
  standAt it2.pos
  match <- pyNext it with
  | none => pure (.done .next)
  | some v =>
   letOwnedTupleGo (.Name y py) it v
   assign (.Name y py) env v
   let mut ok := true
   for c in ifs do
    if ok then ok <- isTrue c env (eval c env)
   if ok then
    (do let _ <- call (.builtin "list.append") [acc, <- eval elt env])
   again (.compLoop (lc2 elt it1 it2 x y px py ifs scope pos) 1 it acc env)) := by rfl
theorem oN {it acc : Value} {env : Env}
  (h0 : codeAny (model prog w) A (.compLoop (lc2 elt it1 it2 x y px py ifs scope pos) 1 it acc env) R s)
  (h : wpAny (model prog w) A (pyIter it) (fun it' s' => codeAny (model prog w) A (.compLoop (lc2 elt it1 it2 x y px py ifs scope pos) 1 it' acc env) R s')
   (notedBy (model prog w) A env fun x s' => R (.error x) s') s) :
  codeAny (model prog w) A (.compStart (lc2 elt it1 it2 x y px py ifs scope pos) 1 it acc env) R s := by
 refine codeAny_of_tree ?_
 show wpAny _ _ ((compStart (lc2 elt it1 it2 x y px py ifs scope pos) 1 it acc env).onRaise (fun x => do noteFrame x env; standAt theWindowsPlace)) _ _ s
 refine wpAny_notedAt ?_
 unfold compStart
 show wpAny _ _ (ask >>= _) _ _ s
 refine Aa (wpAny_askSetting (wpAny_ite ?_))
 split
 ·first
   | exact Aa (Ae (Ae (And.intro rfl h0)))
   | exact Ae (And.intro rfl h0)
 ·(refine Aa (wpAny_rule ?_); show wpAny _ _ (standAt it2.pos >>= _) _ _ s; exact Aa (Bz (Aa (Aj h (fun it' s' h' => Ae (And.intro rfl h')) fun _ _ x => x))))
theorem ue {β γ : Type} {k : Value -> Option β} {k' : Value -> Option γ} {cs : List β} {zs : List γ} {I D : Addr} {fp wr : List Addr} {n : Nat} {P : Nat -> Value -> Prop} {St : Nat -> Heap -> Prop} {cenv : Env} {m : Str -> Option Value} {ys0 : Array Value}
  (W : Walks prog w A I fp wr n P St) (hn : n = cs.length) (hP : ∀ i v, P i v -> i < n -> k v = cs[i]?) (test : β -> Bool) (g : β -> γ)
  (hy : cenv.kindOf y = some .local) (hp : (cenv.scope.kind == .class || (cenv.scope.kind == .module && cenv.locals != cenv.globals)) = false)
  (hDC : D ≠ cenv.locals) (hDf : D ∉ fp) (hCf : cenv.locals ∉ fp) (hst : St 0 s.heap) (hacc : s.heap.PlainList D ys0) (hk0 : ys0.toList.map k' = zs.map some) (hns : s.heap.Ns cenv.locals m)
  (hsz : zs.length + cs.length ≤ sizeLine)
  (htests : ∀ v c s_2 m_2 E', k v = some c -> c ∈ cs -> s_2.heap.Ns cenv.locals m_2 -> m_2 y = some v -> (∀ z, z ≠ y -> m_2 z = m z) -> (∀ b o, b ≠ cenv.locals -> b ∉ wr -> b ≠ D -> s.heap.get? b = some o -> s_2.heap.get? b = some o) ->
   wpAny (model prog w) A (forIn ifs true fun c r => if r = true then do let ok <- isTrue c cenv (eval c cenv); pure (ForInStep.yield ok) else pure (ForInStep.yield r))
    (fun ok s_3 => ok = test c ∧ Keeps s_2 s_3) E' s_2)
  (helt : ∀ v c s_2 m_2 E', k v = some c -> c ∈ cs -> test c = true -> s_2.heap.Ns cenv.locals m_2 -> m_2 y = some v -> (∀ z, z ≠ y -> m_2 z = m z) -> (∀ b o, b ≠ cenv.locals -> b ∉ wr -> b ≠ D -> s.heap.get? b = some o -> s_2.heap.get? b = some o) ->
   wpAny (model prog w) A (eval elt cenv) (fun u s_3 => k' u = some (g c) ∧ Keeps s_2 s_3) E' s_2)
  (hR : ∀ h' tk m' ys, h'.Ns cenv.locals m' -> (∀ z, z ≠ y -> m' z = m z) -> h'.PlainList D ys -> ys.toList.map k' = (zs ++ (cs.filter test).map g).map some ->
   (∀ b o, b ≠ cenv.locals -> b ∉ wr -> b ≠ D -> s.heap.get? b = some o -> h'.get? b = some o) -> R (.ok .next) { s with heap := h', toks := tk }) :
  codeAny (model prog w) A (.compLoop (lc2 elt it1 it2 x y px py ifs scope pos) 1 (.ref I) (.ref D) cenv) R s := by
 have hCw : cenv.locals ∉ wr := fun h => hCf (W.sub _ h)
 have hDw : D ∉ wr := fun h => hDf (W.sub _ h)
 refine codeAny_loop rfl (fun j s' => ∃ h' tk m' ys i, s' = { s with heap := h', toks := tk } ∧ St i h' ∧ h'.PlainList D ys ∧ h'.Ns cenv.locals m' ∧ (∀ z, z ≠ y -> m' z = m z) ∧
   ys.toList.map k' = (zs ++ ((cs.take i).filter test).map g).map some ∧ i ≤ n ∧ j = n - i ∧
   (∀ b o, b ≠ cenv.locals -> b ∉ wr -> b ≠ D -> s.heap.get? b = some o -> h'.get? b = some o)) (fun j s' hI => ?_) n
  ⟨s.heap, s.toks, m, ys0, 0, rfl, hst, hacc, hns, fun _ _ => rfl, by simpa using hk0, Nat.zero_le _, rfl, fun _ _ _ _ _ e => e⟩
 show wpAny _ A ((compTurn (lc2 elt it1 it2 x y px py ifs scope pos) 1 (.ref I) (.ref D) cenv).onRaise (fun x => do noteFrame x cenv; theTreesLotGoes x)) _ _ s'
 refine wpAny_noted ?_
 rw [pO]
 refine uH hI ?_
 clear hI
 rintro H tk m' ys i rfl hst' hacc' hn' hm' hF hi rfl hk
 refine Aa (Bz (Aa ?_))
 by_cases hlt : i < n
 ·refine W.item i _ _ _ hlt hst' fun v h_1 tkL hPv hstB hkB => ?_
  have hkv := hP i v hPv hlt
  rw [List.getElem?_eq_getElem ((om0 hn hlt))] at hkv
  have hcm : cs[i]'((om0 hn hlt)) ∈ cs := List.getElem_mem _
  have htake : cs.take (i + 1) = cs.take i ++ [cs[i]'((om0 hn hlt))] := by rw [Dr, List.getElem?_eq_getElem ((om0 hn hlt))]; rfl
  generalize cs[i]'((om0 hn hlt)) = c at hkv hcm htake
  refine Aa (Ae (Aa ?_))
  refine Ay (G6 hy (hn'.at' fun o e => hkB _ o hCw e) (fun h_2 hnC hsC => ?_) hp)
  have upC : ∀ b o, b ≠ cenv.locals -> b ∉ wr -> H.get? b = some o -> h_2.get? b = some o := fun b o hbC hbf e => hsC.extBut b o hbC (hkB b o hbf e)
  have hstC : St (i + 1) h_2 := W.frame _ _ _ hstB fun b hb o e => hsC.extBut b o (fun h => hCf (h ▸ hb)) e
  have hmC : ∀ z, z ≠ y -> (if z = y then some v else m' z) = m z := fun z hz => by rw [if_neg hz]; exact hm' z hz
  refine Aa (Aj (htests v c _ _ (notedBy (model prog w) A cenv fun e s' => R (.error e) s') hkv hcm hnC (by simp) hmC (fun b o hbC hbf hbD e => upC b o hbC hbf (hk b o hbC hbf hbD e))) (fun ok s_3 h_3 => ?_) fun _ _ e => e)
  refine ao h_3 ?_
  clear h_3
  rintro rfl Z32
  refine aG Z32 ?_
  clear Z32
  rintro h_3 tkD rfl hkD
  have hstD : St (i + 1) h_3 := W.frame _ _ _ hstC fun b _ o e => hkD b o e
  have haccD : h_3.PlainList D ys := hacc'.at fun o e => hkD _ o (upC D o hDC hDw e)
  have hnD := hnC.keeps hkD
  cases hpv : test c with
  | false =>
   simp only [Al, Be]
   refine Ae ⟨rfl, n - (i + 1), (om3 hlt), h_3, tkD, _, ys, i + 1, rfl, hstD, haccD, hnD, hmC, ?_, (om2 hlt), rfl, fun b o hbC hbf hbD e => hkD b o (upC b o hbC hbf (hk b o hbC hbf hbD e))⟩
   rw [htake, List.filter_append]; simpa [hpv] using hF
  | true =>
   simp only [if_true]
   refine Aa (Aa (Aj (helt v c _ _ (notedBy (model prog w) A cenv fun e s' => R (.error e) s') hkv hcm hpv hnD (by simp) hmC (fun b o hbC hbf hbD e => hkD b o (upC b o hbC hbf (hk b o hbC hbf hbD e)))) (fun u s_4 h_4 => ?_) fun _ _ e => e))
   refine ao h_4 fun hu Z33 => ?_
   clear h_4
   refine aG Z33 ?_
   clear Z33
   rintro h_4 tkO rfl hkE
   have hys : ys.size ≤ sizeLine := by
    have e1 := congrArg List.length hF
    simp only [Ai, As, A3] at e1
    have e2 : ((cs.take i).filter test).length ≤ (cs.take i).length := Dv _ _
    have e3 : (cs.take i).length ≤ cs.length := by rw [Dc]; omega
    exact qV hsz e1 e2 e3
   refine Aa (Dm (hsz := hys) (haccD.at fun o e => hkE _ o e) fun h_5 hlF hsP => ?_)
   refine Ae (Ae ⟨rfl, n - (i + 1), (om3 hlt), h_5, tkO, _, ys.push u, i + 1, rfl, ?_, hlF, (hnD.keeps hkE).sameBut hsP (Ne.symm hDC), hmC, ?_, (om2 hlt), rfl,
    fun b o hbC hbf hbD e => hsP.extBut b o hbD (hkE b o (hkD b o (upC b o hbC hbf (hk b o hbC hbf hbD e))))⟩)
   ·exact W.frame _ _ h_5 hstD fun b hb o e => hsP.extBut b o (fun h => hDf (h ▸ hb)) (hkE b o e)
   ·rw [htake, List.filter_append]
    simp only [G7, Ba, hF, A2, Gv, hu]
    simp [hpv]
 ·have hin : i = n := (om8 hi hlt)
  subst hin
  refine W.done _ _ _ hst' fun h_1 tkL hkB => ?_
  refine Ae (hR h_1 tkL m' ys (hn'.at' fun o e => hkB _ o hCw e) hm' (hacc'.at fun o e => hkB _ o hDw e) ?_ fun b o hbC hbf hbD e => hkB b o hbf (hk b o hbC hbf hbD e))
  rw [hF, hn, A7]
theorem ap {h h' : Heap} (x : Ext h h') {a : Addr} (e : h'.get? a = none) : h.get? a = none := by
 cases q : h.get? a with
 | none => rfl
 | some o => rw [x a o q] at e; cases e
theorem iW {α β γ : Type} {k : Value -> Option α} {k2 : Value -> Option β} {k' : Value -> Option γ} {env : Env} {cl : List (Str × Addr)} {src : List Addr} {s_1 s_2 : Shared} {it : Value} {RR : Value -> Addr -> Result -> Shared -> Prop}
  (F : List Addr) (hF : ∀ b ∈ F, s_1.heap.get? b ≠ none) (hsF : ∀ b ∈ src, b ∉ F) (cs : List α) (inner : α -> List β) (test : α -> β -> Bool) (g : α -> β -> γ)
  (hcell : ∀ y ∈ scope.names, y.2 ≠ .cell) (hkind : scope.kind = .function)
  (hx : scope.names.lookup x = some .local) (hy : scope.names.lookup y = some .local) (hxy : x ≠ y)
  (h_2 : bk prog w A src k cs s_1 it s_2) (hsz : (cs.flatMap inner).length ≤ sizeLine)
  (hin : ∀ C D u c s_3 m_3 E', s_1.heap.get? C = none -> s_1.heap.get? D = none -> C ≠ D -> (∃ o, s_3.heap.get? D = some o) -> k u = some c -> c ∈ cs -> s_3.heap.Ns C m_3 -> m_3 x = some u -> Slo F s_1.heap s_3.heap ->
    wpAny (model prog w) A (eval it2 (compEnvC scope cl C env)) (fun xv s_4 => SKp F s_3 s_4 ∧ ∃ src2, D ∉ src2 ∧ C ∉ src2 ∧ wpAny (model prog w) A (pyIter xv) (bk prog w A src2 k2 (inner c) s_4) E' s_4) E' s_3)
  (ht : ∀ C u v c b s_3 m_3 E', s_1.heap.get? C = none -> k u = some c -> c ∈ cs -> k2 v = some b -> b ∈ inner c -> s_3.heap.Ns C m_3 -> m_3 x = some u -> m_3 y = some v -> Slo F s_1.heap s_3.heap ->
    wpAny (model prog w) A (forIn ifs true fun c r => if r = true then do let ok <- isTrue c (compEnvC scope cl C env) (eval c (compEnvC scope cl C env)); pure (ForInStep.yield ok) else pure (ForInStep.yield r))
     (fun ok s_4 => ok = test c b ∧ Keeps s_3 s_4) E' s_3)
  (he : ∀ C u v c b s_3 m_3 E', s_1.heap.get? C = none -> k u = some c -> c ∈ cs -> k2 v = some b -> b ∈ inner c -> test c b = true -> s_3.heap.Ns C m_3 -> m_3 x = some u -> m_3 y = some v -> Slo F s_1.heap s_3.heap ->
    wpAny (model prog w) A (eval elt (compEnvC scope cl C env)) (fun z s_4 => k' z = some (g c b) ∧ Keeps s_3 s_4) E' s_3)
  (hRR : ∀ D C h' tk m' ys, hz s_2 ≤ D -> s_1.heap.get? D = none -> s_1.heap.get? C = none -> D ≠ C -> h'.Ns C m' -> h'.PlainList D ys -> ys.toList.map k' = (cs.flatMap fun c => ((inner c).filter (test c)).map (g c)).map some -> Slo F s_1.heap h' ->
   RR (.ref D) C (.ok .next) { s_1 with heap := h', toks := tk })
  (hs2 : ∀ C x, foldedSetIterable it2 (compEnvC scope cl C env) x = pure x := by intro _ _; rfl) :
  wpAny (model prog w) A (newList []) (fun acc s_3 => wpAny (model prog w) A (newFunctionEnv scope env.globals cl [] env.qual none .none (some env)) (fun cenv s_4 =>
   codeAny (model prog w) A (.compStart (lc2 elt it1 it2 x y px py ifs scope pos) 0 it acc { cenv with scope := relabel scope env }) (RR acc cenv.locals) s_4) E s_3) E s_2 := by
 refine cB h_2 ?_
 clear h_2
 rintro I fp wr n P St rfl W hn hst hfp hP hwr hsc Z38
 refine aG Z38 ?_
 clear Z38
 rintro h2 tk2 rfl k2e
 have fpF : ∀ b ∈ fp, b ∉ F := fun b hb hm => (hsc b hb).elim (fun q => hsF b q hm) fun e => hF b hm e
 have out : ∀ b o, s_1.heap.get? b = some o -> b ∉ wr := fun b o e hb => by rw [hwr b hb] at e; cases e
 refine Dp (wpAny_newFunctionEnv hcell (by intro y hy; simp at hy) (fun h_1 hnsB hsbB => ?_) hkind)
 dsimp only at hnsB hsbB hst hfp ⊢
 generalize hH2 : h2.push { cls := .type "list", dict := none, data := .seq ([] : List Value).toArray } = H2 at hnsB hsbB ⊢
 have hC : H2.objs.size = h2.objs.size + 1 := by rw [<- hH2, A4]
 have hDC : h2.objs.size ≠ H2.objs.size := by rw [hC]; exact B3 (Do _)
 have hDf : h2.objs.size ∉ fp := fun hm => A9 _ (hfp _ hm)
 have hCf : H2.objs.size ∉ fp := fun hm => by have := hfp _ hm; rw [hC] at this; exact A9 _ (Nat.lt_of_succ_lt this)
 have below : ∀ b, b < h2.objs.size -> b ≠ H2.objs.size ∧ b ≠ h2.objs.size := fun b hb => ⟨by rw [hC]; exact B3 (Nat.lt_succ_of_lt hb), B3 hb⟩
 have old : Ext h2 h_1 := fun b o e => hsbB.extBut b o (below b (A5 e)).1 (Heap.get?_push_of_some _ (hH2 ▸ Heap.get?_push_of_some _ e))
 have hacc : h_1.PlainList h2.objs.size #[] := ⟨_, hsbB.extBut _ _ hDC (Heap.get?_push_of_some _ (hH2 ▸ Heap.get?_push_size _ rfl))⟩
 have hstB : St 0 h_1 := W.frame _ _ _ hst fun b _ o e => old b o e
 have f2 : ∀ a, h2.objs.size ≤ a -> s_1.heap.get? a = none := fun a ha => ap k2e (av ha)
 have fD : s_1.heap.get? h2.objs.size = none := f2 _ (Aw _)
 have fC : s_1.heap.get? H2.objs.size = none := f2 _ (by rw [hC]; exact B2 _)
 generalize hDn : h2.objs.size = D at *
 generalize hCn : H2.objs.size = C at *
 have DF : D ∉ F := fun hm => hF D hm fD
 have CF : C ∉ F := fun hm => hF C hm fC
 have hDw : D ∉ wr := fun h => hDf (W.sub _ h)
 have hCw : C ∉ wr := fun h => hCf (W.sub _ h)
 have loop : ∀ s_3 : Shared, s_3 = { s_1 with heap := h_1, toks := tk2 + ([] : List (Str × Value)).length } ->
   codeAny (model prog w) A (.compLoop (lc2 elt it1 it2 x y px py ifs scope pos) 0 (.ref I) (.ref D) (compEnvC scope cl C env)) (RR (.ref D) C) s_3 := by
  rintro s_3 rfl
  refine codeAny_loop rfl (fun j s' => ∃ h' tk m' ys i, s' = { s_1 with heap := h', toks := tk } ∧ St i h' ∧ h'.PlainList D ys ∧ h'.Ns C m' ∧
    ys.toList.map k' = ((cs.take i).flatMap fun c => ((inner c).filter (test c)).map (g c)).map some ∧ i ≤ n ∧ j = n - i ∧ Slo F s_1.heap h') (fun j s' hI => ?_) n
   ⟨h_1, _, _, #[], 0, rfl, hstB, hacc, hnsB, by simp, Nat.zero_le _, rfl, .of_ext (Ext.trans k2e old)⟩
  show wpAny _ A ((compTurn (lc2 elt it1 it2 x y px py ifs scope pos) 0 (.ref I) (.ref D) (compEnvC scope cl C env)).onRaise (fun x => do noteFrame x (compEnvC scope cl C env); theTreesLotGoes x)) _ _ s'
  refine wpAny_noted ?_
  rw [pP]
  refine uI hI ?_
  clear hI
  rintro H tk m' ys i rfl hst' hacc' hn' hF hi rfl hk
  refine Aa (Bz (Aa ?_))
  by_cases hlt : i < n
  ·refine W.item i _ _ _ hlt hst' fun u h_2 tkC hPv hstC hkC => ?_
   have hkv := hP i u hPv hlt
   rw [List.getElem?_eq_getElem ((om0 hn hlt))] at hkv
   have hcm : cs[i]'((om0 hn hlt)) ∈ cs := List.getElem_mem _
   have htake : cs.take (i + 1) = cs.take i ++ [cs[i]'((om0 hn hlt))] := by rw [Dr, List.getElem?_eq_getElem ((om0 hn hlt))]; rfl
   have hsub : ((cs.take i).flatMap inner).length + (inner (cs[i]'((om0 hn hlt)))).length ≤ sizeLine := by
    have e1 : (((cs.take (i + 1)) ++ cs.drop (i + 1)).flatMap inner).length ≤ sizeLine := by rw [List.take_append_drop]; exact hsz
    rw [htake] at e1
    simp only [List.flatMap_append, A3, D7, List.flatMap_nil, Gi] at e1
    exact vF hn hlt e1
   generalize cs[i]'((om0 hn hlt)) = c at hkv hcm htake hsub
   refine Aa (Ae (Aa ?_))
   refine Ay (G6 (lookup_relabel_local hx) (hn'.at' fun o e => hkC _ o hCw e) (fun h_3 hnD hsD => ?_) (by simp [compEnvC, relabel, hkind]))
   replace hsD : Heap.SameBut C h_2 h_3 := hsD
   replace hnD : h_3.Ns C _ := hnD
   have upD : ∀ b o, b ≠ C -> b ∉ wr -> H.get? b = some o -> h_3.get? b = some o := fun b o hbC hbf e => hsD.extBut b o hbC (hkC b o hbf e)
   have hstD : St (i + 1) h_3 := W.frame _ _ _ hstC fun b hb o e => hsD.extBut b o (fun h => hCf (h ▸ hb)) e
   have haccD : h_3.PlainList D ys := hacc'.at fun o e => upD D o hDC hDw e
   have extD : Slo F s_1.heap h_3 := hk.of fun b o hb e => upD b o (fun q => hb (q ▸ fC)) (fun hw => hb (hwr b hw)) e
   refine Aa (Aj (hin C D u c _ _ (notedBy (model prog w) A (compEnvC scope cl C env) fun e s' => RR (.ref D) C (.error e) s') fC fD (Ne.symm hDC) (let ⟨n, e⟩ := haccD; ⟨_, e⟩) hkv hcm hnD (by simp) extD) (fun xv s_4 h_4 => ?_) fun _ _ e => e)
   refine ao h_4 ?_
   clear h_4
   rintro ⟨h_4, tkO, rfl, hkE⟩ Z39
   refine aZ Z39 fun src2 hD2 hC2 h_4' => ?_
   clear Z39
   refine Aa (Bz (Aa (B6 (hs2 C xv) (Aa (At (Aj h_4' (fun it s_5 h_5 => ?_) fun _ _ e => e))))))
   refine cB h_5 ?_
   clear h_5
   rintro I2 fp2 wr2 n2 P2 St2 rfl W2 hn2 hst2 hfp2 hP2 hwr2 hsrc2 Z40
   refine aG Z40 ?_
   clear Z40
   rintro h_5 tkF rfl hkF
   have hstF : St (i + 1) h_5 := W.frame _ _ _ hstD fun b hb o e => hkF b o (hkE.keep b o (fpF b hb) e)
   have haccF : h_5.PlainList D ys := haccD.at fun o e => hkF _ o (hkE.keep _ o DF e)
   have hnF := (hnD.at' fun o e => hkE.keep _ o CF e).keeps hkF
   have extE : Slo F s_1.heap h_4 := extD.trans hkE
   have hDf2 : D ∉ fp2 := fun hb => (hsrc2 D hb).elim hD2 fun e => by obtain ⟨n, q⟩ := haccD; have q' := hkE.keep _ _ DF q; rw [show h_4.get? D = none from e] at q'; cases q'
   have hCf2 : C ∉ fp2 := fun hb => (hsrc2 C hb).elim hC2 fun e => by obtain ⟨o, es, ep, q, _⟩ := hnD; have q' : h_4.get? C = some o := hkE.keep C o CF q; rw [show h_4.get? C = none from e] at q'; cases q'
   have wr2_4 : ∀ b ∈ wr2, h_4.get? b = none := hwr2
   have hDw2 : D ∉ wr2 := fun h => hDf2 (W2.sub _ h)
   have hCw2 : C ∉ wr2 := fun h => hCf2 (W2.sub _ h)
   have run : codeAny (model prog w) A (.compLoop (lc2 elt it1 it2 x y px py ifs scope pos) 1 (.ref I2) (.ref D) (compEnvC scope cl C env)) (fun r s' => match r with
     | .ok _ => ∃ h' tk m' ys, s' = { s_1 with heap := h', toks := tk } ∧ h'.Ns C m' ∧ h'.PlainList D ys ∧ ys.toList.map k' = ((cs.take (i + 1)).flatMap fun c => ((inner c).filter (test c)).map (g c)).map some ∧
       (∀ b o, b ≠ C -> b ≠ D -> h_4.get? b = some o -> h'.get? b = some o)
     | .error _ => False) { s_1 with heap := h_5, toks := tkF } := by
    refine ue (cenv := compEnvC scope cl C env) W2 hn2 hP2 (test c) (g c) (lookup_relabel_local hy) (by simp [compEnvC, relabel, hkind]) (by exact hDC) hDf2 (by exact hCf2) hst2 haccF hF hnF ?_ ?_ ?_ ?_
    ·have := hsub
     have e1 : ∀ l : List α, (l.flatMap fun c => ((inner c).filter (test c)).map (g c)).length ≤ (l.flatMap inner).length := fun l => by
      induction l with
      | nil => simp
      | cons a l ih =>
       simp only [D7, A3, Ai]
       have := Dv (test a) (inner a)
       exact sG ih this
     have := e1 (cs.take i)
     exact vH hsub this
    ·intro v b s_6 m_6 E' hv hb hnG hmG hz hkG
     refine ht C u v c b s_6 m_6 E' fC hkv hcm hv hb hnG (by rw [hz x hxy]; simp) hmG (extE.of fun a o ha e => ?_)
     exact hkG a o (fun q => ha (by rw [show a = C from q]; exact fC)) (fun q => by have := wr2_4 a q; rw [e] at this; cases this) (fun q => ha (by rw [q]; exact fD)) (hkF a o e)
    ·intro v b s_6 m_6 E' hv hb htb hnG hmG hz hkG
     refine he C u v c b s_6 m_6 E' fC hkv hcm hv hb htb hnG (by rw [hz x hxy]; simp) hmG (extE.of fun a o ha e => ?_)
     exact hkG a o (fun q => ha (by rw [show a = C from q]; exact fC)) (fun q => by have := wr2_4 a q; rw [e] at this; cases this) (fun q => ha (by rw [q]; exact fD)) (hkF a o e)
    ·intro h' tk m' ys' hnG _ hpl hys hkG
     try dsimp only
     refine EI4 h' tk m' ys' ⟨rfl, hnG, hpl, ?_, fun b o hbC hbD e => hkG b o hbC (fun q => by have := wr2_4 b q; rw [e] at this; cases this) hbD (hkF b o e)⟩
     rw [hys, htake, List.flatMap_append]; simp
   have fin : ∀ h' tk m' ys', h'.Ns C m' -> h'.PlainList D ys' -> ys'.toList.map k' = ((cs.take (i + 1)).flatMap fun c => ((inner c).filter (test c)).map (g c)).map some ->
     (∀ b o, b ≠ C -> b ≠ D -> h_4.get? b = some o -> h'.get? b = some o) ->
     ∃ m, m < n - i ∧ ∃ h'' tk' m'' ys'' i', ({ s_1 with heap := h', toks := tk } : Shared) = { s_1 with heap := h'', toks := tk' } ∧ St i' h'' ∧ h''.PlainList D ys'' ∧ h''.Ns C m'' ∧
      ys''.toList.map k' = ((cs.take i').flatMap fun c => ((inner c).filter (test c)).map (g c)).map some ∧ i' ≤ n ∧ m = n - i' ∧ Slo F s_1.heap h'' := fun h' tk m' ys' hnG hpl hys hkG =>
    ⟨n - (i + 1), (om3 hlt), h', tk, m', ys', i + 1, rfl, W.frame _ _ _ hstD (fun b hb o e => hkG b o (fun q => hCf (q ▸ hb)) (fun q => hDf (q ▸ hb)) (hkE.keep b o (fpF b hb) e)), hpl, hnG, hys, (om2 hlt), rfl,
     extE.of fun b o hb e => hkG b o (fun q => hb (q ▸ fC)) (fun q => hb (q ▸ fD)) e⟩
   refine Aa (wpAny_runOwn (h := none) ?_)
   rw [kz]
   have run' := oN run (W2.self 0 _ _ _ hst2 run)
   refine codeAny_mono run' fun r s' hr => ?_
   cases r with
   | error e => exact hr.elim
   | ok f =>
    refine nX hr ?_
    clear hr
    rintro h' tk m' ys' rfl hnG hpl hys hkG
    exact Ae ⟨rfl, fin h' tk m' ys' hnG hpl hys hkG⟩
  ·have hin' : i = n := (om8 hi hlt)
   subst hin'
   refine W.done _ _ _ hst' fun h_3 tkD hkD => ?_
   refine Ae (hRR D C h_3 tkD m' ys (Dq hDn) fD fC hDC (hn'.at' fun o e => hkD _ o hCw e) (hacc'.at fun o e => hkD _ o hDw e) ?_ (hk.of fun b o hb e => hkD b o (fun hw => hb (hwr b hw)) e))
   rw [hF, hn, A7]
 exact codeAny_compStart_list (loop _ rfl) (W.self 0 _ _ _ hstB (loop _ rfl))
theorem iV {α β γ : Type} {k : Value -> Option α} {k2 : Value -> Option β} {k' : Value -> Option γ} {env : Env} {cl : List (Str × Addr)} {src : List Addr} {s_1 s_2 : Shared} {it : Value} {RR : Value -> Addr -> Result -> Shared -> Prop}
  (cs : List α) (inner : α -> List β) (test : α -> β -> Bool) (g : α -> β -> γ)
  (hcell : ∀ y ∈ scope.names, y.2 ≠ .cell) (hkind : scope.kind = .function)
  (hx : scope.names.lookup x = some .local) (hy : scope.names.lookup y = some .local) (hxy : x ≠ y)
  (h_2 : bk prog w A src k cs s_1 it s_2) (hsz : (cs.flatMap inner).length ≤ sizeLine)
  (hin : ∀ C D u c s_3 m_3 E', s_1.heap.get? C = none -> s_1.heap.get? D = none -> C ≠ D -> (∃ o, s_3.heap.get? D = some o) -> k u = some c -> c ∈ cs -> s_3.heap.Ns C m_3 -> m_3 x = some u -> Ext s_1.heap s_3.heap ->
    wpAny (model prog w) A (eval it2 (compEnvC scope cl C env)) (fun xv s_4 => Keeps s_3 s_4 ∧ ∃ src2, D ∉ src2 ∧ C ∉ src2 ∧ wpAny (model prog w) A (pyIter xv) (bk prog w A src2 k2 (inner c) s_4) E' s_4) E' s_3)
  (ht : ∀ C u v c b s_3 m_3 E', s_1.heap.get? C = none -> k u = some c -> c ∈ cs -> k2 v = some b -> b ∈ inner c -> s_3.heap.Ns C m_3 -> m_3 x = some u -> m_3 y = some v -> Ext s_1.heap s_3.heap ->
    wpAny (model prog w) A (forIn ifs true fun c r => if r = true then do let ok <- isTrue c (compEnvC scope cl C env) (eval c (compEnvC scope cl C env)); pure (ForInStep.yield ok) else pure (ForInStep.yield r))
     (fun ok s_4 => ok = test c b ∧ Keeps s_3 s_4) E' s_3)
  (he : ∀ C u v c b s_3 m_3 E', s_1.heap.get? C = none -> k u = some c -> c ∈ cs -> k2 v = some b -> b ∈ inner c -> test c b = true -> s_3.heap.Ns C m_3 -> m_3 x = some u -> m_3 y = some v -> Ext s_1.heap s_3.heap ->
    wpAny (model prog w) A (eval elt (compEnvC scope cl C env)) (fun z s_4 => k' z = some (g c b) ∧ Keeps s_3 s_4) E' s_3)
  (hRR : ∀ D C h' tk m' ys, hz s_2 ≤ D -> s_1.heap.get? D = none -> s_1.heap.get? C = none -> D ≠ C -> h'.Ns C m' -> h'.PlainList D ys -> ys.toList.map k' = (cs.flatMap fun c => ((inner c).filter (test c)).map (g c)).map some -> Ext s_1.heap h' ->
   RR (.ref D) C (.ok .next) { s_1 with heap := h', toks := tk })
  (hs2 : ∀ C x, foldedSetIterable it2 (compEnvC scope cl C env) x = pure x := by intro _ _; rfl) :
  wpAny (model prog w) A (newList []) (fun acc s_3 => wpAny (model prog w) A (newFunctionEnv scope env.globals cl [] env.qual none .none (some env)) (fun cenv s_4 =>
   codeAny (model prog w) A (.compStart (lc2 elt it1 it2 x y px py ifs scope pos) 0 it acc { cenv with scope := relabel scope env }) (RR acc cenv.locals) s_4) E s_3) E s_2 :=
 have ext : ∀ {h h' : Heap}, Slo [] h h' -> Ext h h' := fun sl b o e => sl.keep b o (fun q => nomatch q) e
 iW (RR := RR) [] (fun b q => nomatch q) (fun b _ q => nomatch q) cs inner test g hcell hkind hx hy hxy h_2 hsz
  (fun C D u c s_3 m_3 E' a1 a2 a3 a4 a5 a6 a7 a8 sl => Aj (hin C D u c s_3 m_3 E' a1 a2 a3 a4 a5 a6 a7 a8 (ext sl)) (fun _ _ z => ⟨z.1.elim fun h z => z.elim fun t z => ⟨h, t, z.1, .of_ext z.2⟩, z.2⟩) fun _ _ e => e)
  (fun C u v c b s_3 m_3 E' a1 a2 a3 a4 a5 a6 a7 a8 sl => ht C u v c b s_3 m_3 E' a1 a2 a3 a4 a5 a6 a7 a8 (ext sl))
  (fun C u v c b s_3 m_3 E' a1 a2 a3 a4 a5 a6 a7 a8 a9 sl => he C u v c b s_3 m_3 E' a1 a2 a3 a4 a5 a6 a7 a8 a9 (ext sl))
  (fun D C h' tk m' ys a1 a2 a3 a4 a5 a6 a7 sl => hRR D C h' tk m' ys a1 a2 a3 a4 a5 a6 a7 (ext sl)) hs2
theorem LC2 {α β γ : Type} {k : Value -> Option α} {k2 : Value -> Option β} {k' : Value -> Option γ} {env : Env} {cl : List (Str × Addr)} {Q : Value -> Shared -> Prop}
  (cs : Shared -> List α) (inner : α -> List β) (test : α -> β -> Bool) (g : α -> β -> γ)
  (hclos : closureFor scope env = pure cl) (hcell : ∀ y ∈ scope.names, y.2 ≠ .cell) (hkind : scope.kind = .function)
  (hnames : ∀ y ∈ scope.names, y.2 = .local -> scope.names.lookup y.1 = some .local) (hx : scope.names.lookup x = some .local) (hy : scope.names.lookup y = some .local) (hxy : x ≠ y)
  (h : wpAny (model prog w) A (eval it1 env) (fun xv s_1 => (∃ src, wpAny (model prog w) A (pyIter xv) (bk prog w A src k (cs s_1) s_1) E s_1) ∧ ((cs s_1).flatMap inner).length ≤ sizeLine ∧
   (∀ C D u c s_3 m_3 E', s_1.heap.get? C = none -> s_1.heap.get? D = none -> C ≠ D -> (∃ o, s_3.heap.get? D = some o) -> k u = some c -> c ∈ cs s_1 -> s_3.heap.Ns C m_3 -> m_3 x = some u -> Ext s_1.heap s_3.heap ->
    wpAny (model prog w) A (eval it2 (compEnvC scope cl C env)) (fun xv s_4 => Keeps s_3 s_4 ∧ ∃ src2, D ∉ src2 ∧ C ∉ src2 ∧ wpAny (model prog w) A (pyIter xv) (bk prog w A src2 k2 (inner c) s_4) E' s_4) E' s_3) ∧
   (∀ C u v c b s_3 m_3 E', s_1.heap.get? C = none -> k u = some c -> c ∈ cs s_1 -> k2 v = some b -> b ∈ inner c -> s_3.heap.Ns C m_3 -> m_3 x = some u -> m_3 y = some v -> Ext s_1.heap s_3.heap ->
    wpAny (model prog w) A (forIn ifs true fun c r => if r = true then do let ok <- isTrue c (compEnvC scope cl C env) (eval c (compEnvC scope cl C env)); pure (ForInStep.yield ok) else pure (ForInStep.yield r))
     (fun ok s_4 => ok = test c b ∧ Keeps s_3 s_4) E' s_3) ∧
   (∀ C u v c b s_3 m_3 E', s_1.heap.get? C = none -> k u = some c -> c ∈ cs s_1 -> k2 v = some b -> b ∈ inner c -> test c b = true -> s_3.heap.Ns C m_3 -> m_3 x = some u -> m_3 y = some v -> Ext s_1.heap s_3.heap ->
    wpAny (model prog w) A (eval elt (compEnvC scope cl C env)) (fun z s_4 => k' z = some (g c b) ∧ Keeps s_3 s_4) E' s_3) ∧
   (∀ D h' tk ys, s_1.heap.get? D = none -> h'.PlainList D ys -> ys.toList.map k' = ((cs s_1).flatMap fun c => ((inner c).filter (test c)).map (g c)).map some -> Ext s_1.heap h' -> Q (.ref D) { s_1 with heap := h', toks := tk })) E s)
  (hs : ∀ x, foldedSetIterable it1 env x = pure x := by intro _; rfl) (hs2 : ∀ C x, foldedSetIterable it2 (compEnvC scope cl C env) x = pure x := by intro _ _; rfl) :
  wpAny (model prog w) A (eval (lc2 elt it1 it2 x y px py ifs scope pos) env) Q E s := by
 rw [eval_ListComp]
 refine wpAny_comprehension_free (use := none) rfl hs hclos hkind hnames (Aj h (fun xv s_1 h_1 => ?_) fun _ _ e => e)
 refine fW h_1 ?_
 clear h_1
 rintro ⟨src, hsrc⟩ hsz hin ht he hQ
 refine Aj hsrc (fun it s_2 h_2 => ?_) fun _ _ e => e
 refine iV (RR := fun acc C => compPost (model prog w) A E none Q acc C) (cs s_1) inner test g hcell hkind hx hy hxy h_2 hsz hin ht he ?_ hs2
 intro D C h' tk m' ys _ fD fC hDC hn hpl hys hk
 exact ⟨m', hn, fun h'' hs'' => hQ D h'' tk ys fD (hpl.extBut hs''.extBut hDC) hys fun b o e => hs''.extBut b o (fun q => by rw [q, fC] at e; cases e) (hk b o e)⟩
theorem vZ {α β γ : Type} {k : Value -> Option α} {k2 : Value -> Option β} {k' : Value -> Option γ} {env : Env} {cl : List (Str × Addr)} {Q : Value -> Shared -> Prop}
  (cs : Shared -> List α) (inner : α -> List β) (test : α -> β -> Bool) (g : α -> β -> γ)
  (hclos : closureFor scope env = pure cl) (hcell : ∀ y ∈ scope.names, y.2 ≠ .cell) (hkind : scope.kind = .function)
  (hnames : ∀ y ∈ scope.names, y.2 = .local -> scope.names.lookup y.1 = some .local) (hx : scope.names.lookup x = some .local) (hy : scope.names.lookup y = some .local) (hxy : x ≠ y)
  (h : wpAny (model prog w) A (eval it1 env) (fun xv s_1 => (∃ src, wpAny (model prog w) A (pyIter xv) (bk prog w A src k (cs s_1) s_1) E s_1) ∧ ((cs s_1).flatMap inner).length ≤ sizeLine ∧
   (∀ C D u c s_3 m_3 E', s_1.heap.get? C = none -> s_1.heap.get? D = none -> C ≠ D -> (∃ o, s_3.heap.get? D = some o) -> k u = some c -> c ∈ cs s_1 -> s_3.heap.Ns C m_3 -> m_3 x = some u -> Ext s_1.heap s_3.heap ->
    wpAny (model prog w) A (eval it2 (compEnvC scope cl C env)) (fun xv s_4 => Keeps s_3 s_4 ∧ ∃ src2, D ∉ src2 ∧ C ∉ src2 ∧ wpAny (model prog w) A (pyIter xv) (bk prog w A src2 k2 (inner c) s_4) E' s_4) E' s_3) ∧
   (∀ C u v c b s_3 m_3 E', s_1.heap.get? C = none -> k u = some c -> c ∈ cs s_1 -> k2 v = some b -> b ∈ inner c -> s_3.heap.Ns C m_3 -> m_3 x = some u -> m_3 y = some v -> Ext s_1.heap s_3.heap ->
    wpAny (model prog w) A (forIn ifs true fun c r => if r = true then do let ok <- isTrue c (compEnvC scope cl C env) (eval c (compEnvC scope cl C env)); pure (ForInStep.yield ok) else pure (ForInStep.yield r))
     (fun ok s_4 => ok = test c b ∧ Keeps s_3 s_4) E' s_3) ∧
   (∀ C u v c b s_3 m_3 E', s_1.heap.get? C = none -> k u = some c -> c ∈ cs s_1 -> k2 v = some b -> b ∈ inner c -> test c b = true -> s_3.heap.Ns C m_3 -> m_3 x = some u -> m_3 y = some v -> Ext s_1.heap s_3.heap ->
    wpAny (model prog w) A (eval elt (compEnvC scope cl C env)) (fun z s_4 => k' z = some (g c b) ∧ Keeps s_3 s_4) E' s_3) ∧
   (∀ D h' tk ys, hz s_1 ≤ D -> s_1.heap.get? D = none -> h'.PlainList D ys -> ys.toList.map k' = ((cs s_1).flatMap fun c => ((inner c).filter (test c)).map (g c)).map some -> Ext s_1.heap h' -> Q (.ref D) { s_1 with heap := h', toks := tk })) E s)
  (hs : ∀ x, foldedSetIterable it1 env x = pure x := by intro _; rfl) (hs2 : ∀ C x, foldedSetIterable it2 (compEnvC scope cl C env) x = pure x := by intro _ _; rfl) :
  wpAny (model prog w) A (eval (lc2 elt it1 it2 x y px py ifs scope pos) env) Q E s := by
 rw [eval_ListComp]
 refine wpAny_comprehension_free (use := none) rfl hs hclos hkind hnames (Aj h (fun xv s_1 h_1 => ?_) fun _ _ e => e)
 refine fW h_1 ?_
 clear h_1
 rintro ⟨src, hsrc⟩ hsz hin ht he hQ
 refine cz (Aw (hz s_1)) (Aj hsrc (fun it s_2 h_2 hzz => ?_) fun _ _ e _ => e)
 refine iV (RR := fun acc C => compPost (model prog w) A E none Q acc C) (cs s_1) inner test g hcell hkind hx hy hxy h_2 hsz hin ht he ?_ hs2
 intro D C h' tk m' ys hzD fD fC hDC hn hpl hys hk
 exact ⟨m', hn, fun h'' hs'' => hQ D h'' tk ys (Ag hzz hzD) fD (hpl.extBut hs''.extBut hDC) hys fun b o e => hs''.extBut b o (fun q => by rw [q, fC] at e; cases e) (hk b o e)⟩
end
end
end Mine
end
section
open PySem PySem.W PyProof.Rows PySem.Calls PySem.Spec
namespace Mine
section
def IsL {α : Type} (k : Value -> Option α) (h : Heap) (a : Addr) (cs : List α) : Prop := ∃ items, h.PlainList a items ∧ items.toList.map k = cs.map some
section
variable {α : Type} {k : Value -> Option α} {h h' : Heap} {a b : Addr} {cs : List α}
theorem IsL.ext (x : IsL k h a cs) (e : Ext h h') : IsL k h' a cs := let ⟨i, p, q⟩ := x; ⟨i, p.at fun o z => e a o z, q⟩
theorem IsL.ex (x : IsL k h a cs) : ∃ o, h.get? a = some o := let ⟨_, ⟨_, e⟩, _⟩ := x; ⟨_, e⟩
theorem IsL.out (x : IsL k h a cs) {g : Heap} (e : Ext h g) (hb : g.get? b = none) : a ≠ b := fun q => by obtain ⟨o, z⟩ := x.ex; rw [q] at z; rw [e b o z] at hb; cases hb
end
theorem ig : ∀ {vs : List Value} {ss : List Str}, vs.map sOf = ss.map some -> StrsAre vs ss
 | [], [], _ => .nil
 | v :: vs, c :: cs, e => by
  simp only [A2, B9] at e
  refine ah (ai e.1) ?_
  rintro t rfl
  exact .cons _ _ (ig e.2)
theorem IsL.list {h : Heap} {a : Addr} {ss : List Str} (x : IsL sOf h a ss) : ∃ vs : List Value, h.IsList a vs.toArray ∧ StrsAre vs ss := let ⟨i, p, q⟩ := x; ⟨i.toList, by simpa using p.isList, ig q⟩
section
variable {w : World} {A : Around} {E : Value -> Shared -> Prop} {s : Shared} {Q : Value -> Shared -> Prop}
theorem nv {a : Addr} {ss : List Str} {x : Str} {t : Tok} (ha : IsL sOf s.heap a ss) (h : Q (.bool (ss.any (· == x))) s) : wpAny (MK w) A (compareOp .In (.str x t) (.ref a)) Q E s :=
 let ⟨_, hl, hi⟩ := ha.list; in_list_strs hl hi h
theorem jm {α : Type} {k : Value -> Option α} {a b : Addr} {ss : List α} (ha : IsL k s.heap a ss) (hb : IsL k s.heap b []) (hu : A.units + 64 < cLine) (h : Q (.bool ss.isEmpty) s) : wpAny (MK w) A (compareOp .Eq (.ref a) (.ref b)) Q E s := by
 refine ag ha fun i p q => ?_
 clear ha
 refine ag hb fun j p' q' => ?_
 clear hb
 have e1 := congrArg List.length q
 have e2 := congrArg List.length q'
 simp only [Ai, As, Gh] at e1 e2
 cases ss with
 | nil =>
  refine SeqAt.eq_listAt (e := fun _ => true) p.isList p'.isList (by simp_all) (by omega) (fun n h1 _ => absurd h1 (by simp_all)) ?_
  simp_all
 | cons c r => exact SeqAt.eq_list_lengthsAt p.isList p'.isList (by simp_all) (by omega) h
theorem oU {α : Type} {k : Value -> Option α} {a b : Addr} {ss : List α} (ha : IsL k s.heap a ss) (hb : IsL k s.heap b []) (hu : A.units + 64 < cLine) (h : Q (.bool !ss.isEmpty) s) : wpAny (MK w) A (compareOp .NotEq (.ref a) (.ref b)) Q E s := by
 refine ag ha fun i p q => ?_
 clear ha
 refine ag hb fun j p' q' => ?_
 clear hb
 have e1 := congrArg List.length q
 have e2 := congrArg List.length q'
 simp only [Ai, As, Gh] at e1 e2
 cases ss with
 | nil =>
  refine SeqAt.RcNeAt.lists (e := fun _ => true) p.isList p'.isList (by simp_all) (by omega) (fun n h1 _ => absurd h1 (by simp_all)) _ _ _ _ ?_
  simp_all
 | cons c r => exact SeqAt.RcNeAt.lists_lengths p.isList p'.isList (by simp_all) (by omega) _ _ _ _ h
theorem bW {env : Env} {pos : Pos} (h : ∀ h', (∀ (α : Type) (k : Value -> Option α), IsL k h' s.heap.objs.size []) -> Ext s.heap h' -> Q (.ref s.heap.objs.size) { s with heap := h' }) : wpAny (MK w) A (eval (.List [] pos) env) Q E s := by
 refine List_ (Calls.spliced_nil ?_)
 exact Dp (h _ (fun _ _ => ⟨#[], ⟨0, Heap.get?_push_size _ rfl⟩, rfl⟩) (ac _ _))
end
theorem aM {w : World} (x : Str) (t : Tok) : (PySem.strKind pw w).is x (.str x t) = true := by show Value.isStrOf x (.str x t) = true; simp [Value.isStrOf]
def bA (w : World) (h : Heap) (nd : Addr) (nm : List Str) (need : Str -> List Str) : Prop :=
 ∃ La : Str -> Addr, h.MapOf (strKind pw w) nd (fun x => if x ∈ nm then some (.ref (La x)) else none) ∧ ∀ x ∈ nm, IsL sOf h (La x) (need x)
theorem bA.ext {w : World} {h h' : Heap} {nd : Addr} {nm : List Str} {need : Str -> List Str} (x : bA w h nd nm need) (e : Ext h h') : bA w h' nd nm need := by
 refine ag x ?_
 clear x
 rintro La ⟨o, es, ep, ho, r⟩ q
 exact ⟨La, ⟨o, es, ep, e _ _ ho, r⟩, fun x hx => (q x hx).ext e⟩
section
variable {w : World} {A : Around} {E : Value -> Shared -> Prop} {s : Shared} {Q : Value -> Shared -> Prop}
theorem dl {env : Env} {g : Heap} {nd : Addr} {nm : List Str} {need : Str -> List Str} {value slice : Expr} {pos : Pos} (N : bA w g nd nm need)
  (h : wpAny (MK w) A (eval value env) (fun o s_1 => wpAny (MK w) A (eval slice env) (fun i s_2 => ∃ x t, o = .ref nd ∧ i = .str x t ∧ x ∈ nm ∧ Ext g s_2.heap ∧
   ∀ a, IsL sOf g a (need x) -> Q (.ref a) { s_2 with toks := s_2.toks + 1 }) E s_1) E s)
  (hs : ∀ o x t, subscripted slice false (.ref o) (.str x t) = operate [.ref o, .str x t] (getItem (.ref o) (.str x t)) := by intro _ _ _; with_unfolding_all rfl) :
  wpAny (MK w) A (eval (.Subscript value slice pos) env) Q E s := by
 refine Dl (Aj h (fun o s_1 h_1 => Aj h_1 (fun i s_2 h_2 => ?_) fun _ _ e => e) fun _ _ e => e)
 refine nZ h_2 ?_
 clear h_2
 rintro x t rfl rfl hx hext hq
 refine ag N ?_
 clear N
 rintro La ⟨o, es, ep, ho, hr⟩ hl
 have hm : s_2.heap.MapOf (PySem.strKind pw w) nd (fun x => if x ∈ nm then some (.ref (La x)) else none) := ⟨o, es, ep, hext _ _ ho, hr⟩
 refine tail_any hm.typeIs slot_dict_getitem.lookup (wpAny_getItem_of (k := x) (aM x t) hm (by rw [if_pos hx]) (hq _ (hl x hx))) (hs _ _ _)
end
end
section
def aJ (few more : Str) : List Str := (ab more).filter fun c => !Txt.contains few c
def ltS (a b : Str) : Bool := decide (a.cps.toList < b.cps.toList)
def bi (need : Str -> List Str) (few more : Str) : Bool :=
 if !((ab few).filter fun c => !Txt.contains more c).isEmpty then false
 else ((aJ few more).flatMap fun a => (need a).filter fun b => (aJ few more).any (· == b) && ltS a b).isEmpty
section
variable {w : World} {A : Around} {E : Value -> Shared -> Prop} {s : Shared}
theorem oK {k : Nat} (R : ak A (k + 2)) (G : Gr w s.heap) {nd : Addr} {nm : List Str} {need : Str -> List Str} (N : bA w s.heap nd nm need) {few more : Str} (hm : ∀ c ∈ ab more, c ∈ nm)
  (hsz1 : few.length ≤ 100) (hsz2 : more.length ≤ 100) (hsz3 : ∀ c ∈ nm, (need c).length ≤ 100) {t1 t2 : Tok} {Q : Value -> Shared -> Prop}
  (hQ : ∀ h' tk', Ext s.heap h' -> Q (.bool (bi need few more)) { s with heap := h', toks := tk' }) :
  wpAny (MK w) A (call (.ref 1234) [.ref nd, .str few t1, .str more t2]) Q E s := by
 refine jZ (binds := [(q "needs", .ref nd), (q "few", .str few t1), (q "more", .str more t2)]) R G rfl rfl rfl rfl rfl rfl rfl ?_
 intro s_1 x
 have hR := R.deeper (callEnvC (fd (stA 54) "_law_steps" "_law_steps" 3 [] Value.none Value.none Value.none (Value.str (q "law_dn0070_12") 1945) none (Value.ref 1233) Value.none 0) s.heap.objs.size 1234)
 refine aB x.toInCall.same ?_
 rintro h1 tk1 rfl
 try dsimp only
 have hns := x.toInCall.ns
 have hk : Ext s.heap h1 := x.toInCall.keep
 have cN := x.cell (q "needs") _ rfl
 have cF := x.cell (q "few") _ rfl
 have cM := x.cell (q "more") _ rfl
 have cU := x.cell (q "fresh") _ rfl
 clear x
 refine ad ?_
 intro Qb
 refine Ab ?_
 refine ad ?_
 intro Qb
 refine B7 (Ao ?_)
 refine LC (k := sOf) (k' := sOf) (fun _ => ab few) (fun c => !Txt.contains more c) id rfl (by decide) rfl (by decide) rfl ?_
 refine nmC cF ⟨⟨_, bT hR.h⟩, ?_, ?_, ?_, ?_⟩
 ·simp only [ab, Ai, As, Az]; have := hsz1; simp only [Str.length] at this; exact mZ this
 ·intro C v c s_3 m_3 E' hC hv hc hnD hmD hkD
  refine ah (ai hv) ?_
  rintro t rfl
  refine Dt (Ao ?_)
  refine nmL hnD hmD ?_
  refine nmC (cM.keeps hkD) ?_
  refine SB.notContains (Am ⟨rfl, aq _⟩)
 ·intro C v c s_3 m_3 E' hC hv hc _ hnD hmD hkD
  exact nmL hnD hmD ⟨hv, aq _⟩
 intro D h2 tk2 ys hD hpl hys hk2
 have l1 : IsL sOf h2 D (((ab few).filter fun c => !Txt.contains more c).map id) := ⟨ys, hpl, hys⟩
 rw [List.map_id] at l1
 refine bW fun h3 l2 hk3 => ?_
 refine oU (l1.ext hk3) (l2 _ _) hR.units ?_
 refine Am ?_
 have e3 : Ext h1 h3 := Ext.trans hk2 hk3
 cases hb : !((ab few).filter fun c => !Txt.contains more c).isEmpty with
 | true =>
  simp only [if_true]
  refine Ab (Bu (wpAny_Constant_bool ?_))
  have := hQ h3 tk2 (Ext.trans hk e3)
  rw [bi, hb, if_pos rfl] at this
  exact this
 | false =>
  simp only [Al, Be]
  refine Ah ?_
  replace hns := hns.keeps e3
  replace cN := cN.keeps e3
  replace cF := cF.keeps e3
  replace cM := cM.keeps e3
  replace cU := cU.keeps e3
  replace hk := Ext.trans hk e3
  clear l1 l2 hpl hys hk2 hk3 hD e3
  refine ad ?_
  intro Qb
  refine Ab ?_
  refine ad ?_
  intro Qb
  refine Aq ?_
  refine ad ?_
  intro Qb
  refine LC (k := sOf) (k' := sOf) (fun _ => ab more) (fun c => !Txt.contains few c) id rfl (by decide) rfl (by decide) rfl ?_
  refine nmC cM ⟨⟨_, bT hR.h⟩, ?_, ?_, ?_, ?_⟩
  ·simp only [ab, Ai, As, Az]; have := hsz2; simp only [Str.length] at this; exact mZ this
  ·intro C v c s_3 m_3 E' hC hv hc hnD hmD hkD
   refine ah (ai hv) ?_
   rintro t rfl
   refine Dt (Ao ?_)
   refine nmL hnD hmD ?_
   refine nmC (cF.keeps hkD) ?_
   refine SB.notContains (Am ⟨rfl, aq _⟩)
  ·intro C v c s_3 m_3 E' hC hv hc _ hnD hmD hkD
   exact nmL hnD hmD ⟨hv, aq _⟩
  intro U h4 tk4 ys hU hpl hys hk4
  have l1 : IsL sOf h4 U (aJ few more) := ⟨ys, hpl, by rw [hys, List.map_id]; rfl⟩
  refine wpAny_storeName_cell rfl rfl rfl (cU.keeps hk4) fun h5 cU5 hs5 => ?_
  have hk5 : Ext s.heap h5 := aA (Ext.trans hk hk4) hs5 (av (by show s.heap.objs.size ≤ _; exact tX))
  have l5 : IsL sOf h5 U (aJ few more) := by
   refine ag l1 fun i p q => ?_
   clear l1
   exact ⟨i, p.extBut hs5.extBut (fun e => by obtain ⟨o, ho, _⟩ := cU; rw [e] at hU; rw [hU] at ho; cases ho), q⟩
  have N5 := N.ext hk5
  have cN5 := (cN.keeps hk4).sameBut hs5 (by k_ne)
  have cM5 := (cM.keeps hk4).sameBut hs5 (by k_ne)
  have ns5 := (hns.keeps hk4).sameBut hs5 (by show s.heap.objs.size ≠ _; exact uV)
  clear l1 hpl hys hU cN cF cM cU hns hk4 hk
  refine Ab (Bu (wpAny_Compare1 ?_))
  refine ad ?_
  intro Qb
  refine LC2 (k := sOf) (k2 := sOf) (k' := sOf) (fun _ => aJ few more) need (fun a b => (aJ few more).any (· == b) && ltS a b) (fun a _ => a) rfl (by decide) rfl (by decide) rfl rfl (by decide) ?_
  have nmF : ∀ c ∈ aJ few more, c ∈ nm := fun c hc => hm c (Bd.mp hc).1
  refine nmC cU5 ⟨?_, ?_, ?_, ?_, ?_, ?_⟩
  ·refine ag l5 fun i p q => ?_
   clear l5
   exact ⟨_, aL hR.h p.isList q⟩
  ·have e1 : (aJ few more).length ≤ 100 := Ag (Dv _ _) (by simp only [ab, Ai, As]; exact hsz2)
   have e2 : ∀ l : List Str, (∀ c ∈ l, c ∈ nm) -> (l.flatMap need).length ≤ 100 * l.length := fun l => by
    induction l with
    | nil => simp
    | cons a l ih =>
     intro h
     have := hsz3 a (h a Ar)
     have := ih fun c hc => h c (A1 _ hc)
     simp only [D7, A3, Bj]
     omega
   have := e2 _ nmF
   rw [Az]; exact sQ e1 this
  ·intro C D u c s_3 m_3 E' hC hD hCD hDo hu hc hnD hmD hkD
   refine ah (ai hu) ?_
   rintro t rfl
   refine dl N5 ?_
   refine nmC (cN5.keeps hkD) ?_
   refine nmL hnD hmD ?_
   refine EI2 c t ⟨rfl, rfl, nmF c hc, hkD, fun a ha => ⟨ay fun _ _ e => e, [a], ?_, ?_, ?_⟩⟩
   ·exact fun hb => ha.out (Ext.refl _) hD (Ac.mp hb).symm
   ·exact fun hb => ha.out (Ext.refl _) hC (Ac.mp hb).symm
   ·refine ag (ha.ext hkD) fun i p q => ?_
    exact aL hR.h p.isList q
  ·intro C u v c b s_3 m_3 E' hC hu hc hv hb hnD hmD hmD' hkD
   refine ah (ai hu) ?_
   rintro t rfl
   refine ah (ai hv) ?_
   rintro t' rfl
   refine Dt ?_
   refine isTrue_and (Ao ?_)
   refine nmL hnD hmD' ?_
   refine nmC (cU5.keeps hkD) ?_
   refine nv (l5.ext hkD) (Am ?_)
   cases h1 : (aJ few more).any (· == b) with
   | false => exact ⟨by simp, aq _⟩
   | true =>
    simp only [if_true]
    refine isTrue_and (Ao ?_)
    refine nmL hnD hmD' ?_
    refine nmL hnD hmD ?_
    refine P.gt_str (Am ?_)
    cases h2 : ltS c b with
    | false => rw [show decide (c.cps.toList < b.cps.toList) = false from h2]; exact ⟨rfl, aq _⟩
    | true => rw [show decide (c.cps.toList < b.cps.toList) = true from h2]; exact isTrue_and_nil ⟨rfl, aq _⟩
  ·intro C u v c b s_3 m_3 E' hC hu hc hv hb _ hnD hmD hmD' hkD
   exact nmL hnD hmD ⟨hu, aq _⟩
  intro D h6 tk6 ys hD hpl hys hk6
  have l6 : IsL sOf h6 D ((aJ few more).flatMap fun a => ((need a).filter fun b => (aJ few more).any (· == b) && ltS a b).map fun _ => a) := ⟨ys, hpl, hys⟩
  refine bW fun h7 l7 hk7 => ?_
  refine jm (l6.ext hk7) (l7 _ _) hR.units ?_
  have := hQ h7 tk6 (Ext.trans hk5 (Ext.trans hk6 hk7))
  rw [bi, hb, if_neg (by simp)] at this
  have e : ((aJ few more).flatMap fun a => ((need a).filter fun b => (aJ few more).any (· == b) && ltS a b).map fun _ => a).isEmpty =
    ((aJ few more).flatMap fun a => (need a).filter fun b => (aJ few more).any (· == b) && ltS a b).isEmpty := by
   rw [Bool.eq_iff_iff]
   simp only [List.isEmpty_iff, List.flatMap_eq_nil_iff, List.map_eq_nil_iff]
  rw [e]
  exact this
end
end
end Mine
end
section
open PySem PySem.W PyProof.Rows PySem.Calls
namespace Mine
section
def Lk (s s' : Shared) : Prop := ∃ h tk, s' = { s with heap := h, toks := tk }
theorem Lk.refl (s : Shared) : Lk s s := ⟨s.heap, s.toks, rfl⟩
theorem Lk.trans {a b c : Shared} (x : Lk a b) (y : Lk b c) : Lk a c := by
 refine aB x ?_
 clear x
 rintro h t rfl
 refine aB y ?_
 clear y
 rintro h' t' rfl
 exact EI2 h' t' rfl
theorem Lk.of {s : Shared} {h : Heap} {tk : Nat} : Lk s { s with heap := h, toks := tk } := ⟨h, tk, rfl⟩
def pK (Q : Flow -> Shared -> Prop) (s_2 s' : Shared) (fp : List Addr) (J : Heap -> Prop) (f : Flow) (s_3 : Shared) : Prop := match f with
 | .next | .cont => Lk s_2 s_3 ∧ J s_3.heap ∧ ∀ b ∈ fp, ∀ o, s'.heap.get? b = some o -> s_3.heap.get? b = some o
 | .brk => Q .next s_3
 | .ret v => Q (.ret v) s_3
section
variable {prog : Program} {w : World} {A : Around} {E : Value -> Shared -> Prop} {s : Shared} {env : Env} {target iter : Expr} {body : List Stmt} {pos : Pos} {Q : Flow -> Shared -> Prop}
theorem FOR {α : Type} {k : Value -> Option α}
  (h : wpAny (model prog w) A (eval iter env) (fun xv s_1 => wpAny (model prog w) A (pyIter xv) (fun it s_2 => ∃ (src : List Addr) (cs : List α), bk prog w A src k cs s_1 it s_2 ∧
   ∀ fp wr : List Addr, (∀ b ∈ fp, b ∈ src ∨ s_1.heap.get? b = none) -> (∀ b ∈ fp, b < s_2.heap.objs.size) -> (∀ b ∈ wr, b ∈ fp ∧ s_1.heap.get? b = none) ->
   ∃ J : Nat -> Heap -> Prop, J 0 s_2.heap ∧ (∀ i h h', J i h -> (∀ b o, b ∉ wr -> h.get? b = some o -> h'.get? b = some o) -> J i h') ∧
   (∀ i v c s' E', cs[i]? = some c -> k v = some c -> Lk s_2 s' -> hz s_2 ≤ hz s' -> J i s'.heap ->
    wpAny (model prog w) A (letOwnedTupleGo target it v) (fun _ s0 => wpAny (model prog w) A (assign target env v) (fun _ s'' => wpAny (model prog w) A (execs body env) (pK Q s_2 s' fp (J (i + 1))) E' s'') E' s0) E' s') ∧
   (∀ s', Lk s_2 s' -> hz s_2 ≤ hz s' -> J cs.length s'.heap -> Q .next s')) E s_1) E s)
  (hs : ∀ x, foldedSetIterable iter env x = pure x := by intro _; rfl) :
  wpAny (model prog w) A (exec (.For target iter body [] pos) env) Q E s := by
 refine wpAny_For (Aj h (fun xv s_1 h_1 => Aj h_1 (fun it s_2 h_2 => ?_) fun _ _ e => e) fun _ _ e => e) hs
 refine aG h_2 ?_
 clear h_2
 rintro src cs ⟨I, fp, wr, n, P, St, rfl, W, hn, hst, hfp, hP, hwr, hsrc, hK⟩ hall
 refine cC (hall fp wr hsrc hfp fun b hb => ⟨W.sub b hb, hwr b hb⟩) fun J J0 stab turn done => ?_
 refine codeAny_forLoop_any (fun j s' => ∃ i, Lk s_2 s' ∧ hz s_2 ≤ hz s' ∧ St i s'.heap ∧ J i s'.heap ∧ i ≤ n ∧ j = n - i) ?_ n ⟨0, Lk.refl _, Aw _, hst, J0, Nat.zero_le _, rfl⟩
 intro j s' X1
 refine eK X1 ?_
 clear X1
 rintro i hl hzl hst' hJ hi rfl
 by_cases hlt : i < n
 ·refine cz hzl (W.item i _ _ _ hlt hst' fun v h_1 tkL hPv hstB hkB hz1 => ?_)
  have hkv := hP i v hPv hlt
  have hc : cs[i]? = some (cs[i]'((om0 hn hlt))) := List.getElem?_eq_getElem ((om0 hn hlt))
  have t := turn i v _ { s' with heap := h_1, toks := tkL } (notedBy (model prog w) A env fun e s' => cameBackBy (model prog w) A env E e s') hc (hkv.trans hc) (hl.trans Lk.of) hz1 (stab _ _ _ hJ hkB)
  refine cz hz1 (Aj t (fun _ s0 h0 hz2 => cz hz2 (Aj h0 (fun _ s'' h'' hz3 => cz hz3 (Aj h'' (fun f s_3 h_3 hz4 => ?_) fun _ _ e _ => e)) fun _ _ e _ => e)) fun _ _ e _ => e)
  cases f with
  | next => exact ⟨n - (i + 1), (om3 hlt), i + 1, h_3.1, hz4, W.frame _ _ _ hstB (fun b hb o e => h_3.2.2 b hb o e), h_3.2.1, (om2 hlt), rfl⟩
  | cont => exact ⟨n - (i + 1), (om3 hlt), i + 1, h_3.1, hz4, W.frame _ _ _ hstB (fun b hb o e => h_3.2.2 b hb o e), h_3.2.1, (om2 hlt), rfl⟩
  | brk => exact h_3
  | ret v => exact h_3
 ·have hin : i = n := (om8 hi hlt)
  subst hin
  refine cz hzl (W.done _ _ _ hst' fun h_1 tkL hkB hz1 => ?_)
  exact Ah (done _ (hl.trans Lk.of) hz1 (hn ▸ stab _ _ _ hJ hkB))
end
end
end Mine
end
section
open PySem PySem.W PyProof.Rows PySem.Calls PySem.Spec
namespace Mine
section
def bO (ps : List Str) (c : Str) : List Str := ps ++ ps.map (· ++ c)
def aW (signs : List Str) : List Str := signs.foldl bO [⟨#[]⟩]
theorem ku (ps : List Str) (c : Str) : (bO ps c).length = 2 * ps.length := by simp [bO]; exact uW
theorem gp (l : List Str) : ∀ ps : List Str, (l.foldl bO ps).length = 2 ^ l.length * ps.length := by
 induction l with
 | nil => intro ps; simp
 | cons c r ih => intro ps; rw [A6, ih, ku, Bj, Nat.pow_succ, Nat.mul_assoc]
theorem ij (a b : Str) : (a ++ b).length = a.length + b.length := by
 show (a.cps ++ b.cps).size = _; rw [Array.size_append]; rfl
theorem jg {k : Nat} {ps : List Str} (h : ∀ p ∈ ps, p.length ≤ k) {c : Str} (hc : c.length ≤ 1) : ∀ p ∈ bO ps c, p.length ≤ k + 1 := by
 intro p hp
 rcases Au.mp hp with hp | hp
 ·have := h p hp; exact qu this
 ·refine ag (A0.mp hp) ?_
  rintro z hz rfl
  have := h z hz
  rw [ij]; exact rS hc this
theorem fj (l : List Str) (hl : ∀ c ∈ l, c.length ≤ 1) : ∀ (k : Nat) (ps : List Str), (∀ p ∈ ps, p.length ≤ k) -> ∀ p ∈ l.foldl bO ps, p.length ≤ k + l.length := by
 induction l with
 | nil => intro k ps h; simpa using h
 | cons c r ih =>
  intro k ps h p hp
  have := ih (fun d hd => hl d (A1 _ hd)) (k + 1) _ (jg h (hl c Ar)) p hp
  rw [Bj]; exact rU this
theorem bh {α β : Type} (f : β -> α -> β) (b : β) (l : List α) (i : Nat) (c : α) (h : l[i]? = some c) : (l.take (i + 1)).foldl f b = f ((l.take i).foldl f b) c := by
 rw [Dr, h, List.foldl_append]; rfl
theorem IsL.sb {α : Type} {k : Value -> Option α} {h h' : Heap} {a b : Addr} {cs : List α} (x : IsL k h a cs) (hs : Heap.SameBut b h h') (hn : a ≠ b) : IsL k h' a cs := let ⟨i, p, q⟩ := x; ⟨i, p.extBut hs.extBut hn, q⟩
theorem IsL.at {α : Type} {k : Value -> Option α} {h h' : Heap} {a : Addr} {cs : List α} (x : IsL k h a cs) (e : ∀ o, h.get? a = some o -> h'.get? a = some o) : IsL k h' a cs := let ⟨i, p, q⟩ := x; ⟨i, p.at e, q⟩
theorem bg {h h' : Heap} {c : Addr} {v : Option Value} (x : h.IsCell c v) (e : ∀ o, h.get? c = some o -> h'.get? c = some o) : h'.IsCell c v := let ⟨o, ho, r⟩ := x; ⟨o, e _ ho, r⟩
theorem IsL.ne_cell {α : Type} {k : Value -> Option α} {h : Heap} {a c : Addr} {cs : List α} {v : Option Value} (x : IsL k h a cs) (y : h.IsCell c v) : a ≠ c := fun e => by
 refine ag x ?_
 clear x
 rintro _ ⟨_, z⟩ _
 refine ag y fun o ho hd => ?_
 clear y
 rw [e, ho] at z; cases z; cases hd
section
variable {w : World} {A : Around} {E : Value -> Shared -> Prop} {s : Shared} {Q : Value -> Shared -> Prop}
theorem mx {α : Type} {k : Value -> Option α} {a b : Addr} {xs ys : List α} (ha : IsL k s.heap a xs) (hb : IsL k s.heap b ys) (hsz : xs.length + ys.length ≤ sizeLine)
  (h : ∀ h', IsL k h' s.heap.objs.size (xs ++ ys) -> Ext s.heap h' -> Q (.ref s.heap.objs.size) { s with heap := h' }) : wpAny (MK w) A (binaryOp .Add (.ref a) (.ref b)) Q E s := by
 refine ag ha ?_
 clear ha
 rintro i ⟨n, p⟩ q
 refine ag hb ?_
 clear hb
 rintro j ⟨n', p'⟩ q'
 have e1 := congrArg List.length q
 have e2 := congrArg List.length q'
 simp only [Ai, As] at e1 e2
 exact P.add_list p p' (h _ ⟨i ++ j, ⟨0, Heap.get?_push_size _ rfl⟩, by rw [Array.toList_append, Ba, q, q', Ba]⟩ (ac _ _)) ((q9 hsz e1 e2))
theorem eL {α : Type} {k : Value -> Option α} {env : Env} {e : Expr} {pos : Pos}
  (h : wpAny (MK w) A (eval e env) (fun v s_1 => ∃ c, k v = some c ∧ ∀ h', IsL k h' s_1.heap.objs.size [c] -> Ext s_1.heap h' -> Q (.ref s_1.heap.objs.size) { s_1 with heap := h' }) E s)
  (he : starEach [e] env = (false, eval e env) :: starEach [] env := by rfl) : wpAny (MK w) A (eval (.List [e] pos) env) Q E s := by
 refine List_ (Ak (Aj h (fun v s_1 h_1 => An ?_) fun _ _ e => e) he)
 refine ag h_1 fun c hc hq => ?_
 clear h_1
 exact Dp (hq _ ⟨#[v], ⟨0, Heap.get?_push_size _ rfl⟩, by simp [hc]⟩ (ac _ _))
theorem ly {n : Nat} (R : ak A (n + 1)) (G : Gr w s.heap) {sg : Str} {tk : Tok} (hsz : sg.length ≤ 6)
  (hQ : ∀ h' tk' a, Ext s.heap h' -> s.heap.get? a = none -> IsL sOf h' a (aW (ab sg)) -> Q (.ref a) { s with heap := h', toks := tk' }) :
  wpAny (MK w) A (call (.ref 1229) [.str sg tk]) Q E s := by
 refine jZ (binds := [(q "signs", .str sg tk)]) R G rfl rfl rfl rfl rfl rfl rfl ?_
 intro s_1 x
 have hR := R.deeper (callEnvC (fd (stA 53) "_law_parts" "_law_parts" 3 [] Value.none Value.none Value.none (Value.str (q "law_dn0070_12") 1945) none (Value.ref 1228) Value.none 0) s.heap.objs.size 1229)
 refine aB x.toInCall.same ?_
 rintro h1 tk1 rfl
 try dsimp only
 have hns := x.toInCall.ns
 have hk : Ext s.heap h1 := x.toInCall.keep
 have cS := x.cell (q "sign") _ rfl
 clear x
 refine ad ?_
 intro Qb
 refine Ab (Aq (eL (k := sOf) (Gd ⟨_, rfl, fun h2 l2 k2 => ?_⟩)))
 dsimp only at l2 k2 ⊢
 refine stL (hns.keeps k2) fun h3 n3 s3 => ?_
 have hL : s.heap.objs.size < h1.objs.size := hns.lt
 have l3 := l2.sb s3 (by k_ne)
 have k3 := aA (Ext.trans hk k2) s3 (ae s.heap)
 have c3 := (cS.keeps k2).sameBut s3 (by k_ne)
 clear l2 k2 cS hns hk
 refine ad ?_
 intro Qb
 refine Ab (FOR (k := sOf) ?_)
 refine nmL n3 rfl ?_
 refine Aj (bT hR.h) (fun it s_2 h_2 => ⟨[], ab sg, h_2, ?_⟩) fun _ _ e => e
 intro fp wr hfp hfs hwr
 refine cB h_2 ?_
 clear h_2
 rintro _ _ _ _ _ _ rfl _ _ _ _ _ _ _ Z8
 refine aG Z8 ?_
 clear Z8
 rintro h4 tk4 rfl k4
 dsimp only at k4 hfs hfp hwr ⊢
 have no : ∀ b, (∃ o, h3.get? b = some o) -> b ∉ fp := fun b ⟨o, ho⟩ hb => (hfp b hb).elim (fun h => by cases h) fun e => by rw [show h3.get? b = none from e] at ho; cases ho
 have nL : s.heap.objs.size ∉ fp := no _ (by obtain ⟨o, _, _, ho, _⟩ := n3; exact ⟨o, ho⟩)
 have nC : s.heap.objs.size + 1 ∉ fp := no _ (by obtain ⟨o, ho, _⟩ := c3; exact ⟨o, ho⟩)
 have nw : ∀ b, b ∉ fp -> b ∉ wr := fun b h h' => h (hwr b h').1
 have ow : ∀ b o, s.heap.get? b = some o -> b ∉ wr := fun b o e h' => by have := (hwr b h').2; rw [k3 b o e] at this; cases this
 have clen : ∀ c ∈ ab sg, c.length = 1 := fun c hc => by obtain ⟨n, _, rfl⟩ := A0.mp hc; rfl
 have nlen : (ab sg).length ≤ 6 := by simp only [ab, Ai, As]; exact hsz
 refine ⟨fun i h => Ext s.heap h ∧ ∃ m a, h.Ns s.heap.objs.size m ∧ m (q "parts") = some (.ref a) ∧ s.heap.get? a = none ∧ a ∉ wr ∧ IsL sOf h a (((ab sg).take i).foldl bO [⟨#[]⟩]) ∧ ∃ v, h.IsCell (s.heap.objs.size + 1) v, ?_, ?_, ?_, ?_⟩
 ·exact ⟨Ext.trans k3 k4, _, h1.objs.size, n3.keeps k4, rfl, av ((qz hL)), nw _ (no _ l3.ex), l3.ext k4, _, c3.keeps k4⟩
 ·intro i h h' X1 hk
  refine ao X1 fun e1 Z9 => ?_
  clear X1
  refine mD Z9 fun m a e2 e3 e4 e5 e6 Z10 => ?_
  clear Z9
  refine ah Z10 fun v e7 => ?_
  clear Z10
  exact ⟨fun b o e => hk b o (ow b o e) (e1 b o e), m, a, e2.at' (fun o e => hk _ o (nw _ nL) e), e3, e4, e5, e6.at (fun o e => hk _ o e5 e), v, bg e7 fun o e => hk _ o (nw _ nC) e⟩
 ·intro i v c s' E' hc hv X2 hzl X3
  refine aB X2 ?_
  clear X2
  rintro h5 tk5 rfl
  refine ao X3 fun e1 Z11 => ?_
  clear X3
  refine mD Z11 fun m a e2 e3 e4 e5 e6 Z12 => ?_
  clear Z11
  refine ah Z12 fun v' e7 => ?_
  clear Z12
  dsimp only at e1 e2 e6 e7 ⊢
  refine ah (ai hv) ?_
  rintro t rfl
  have ctake := bh bO [⟨#[]⟩] (ab sg) i c hc
  have hcl := clen c (List.mem_of_getElem? hc)
  have hil : i < (ab sg).length := (List.getElem?_eq_some_iff.mp hc).1
  have plen : (((ab sg).take i).foldl bO [⟨#[]⟩]).length ≤ 64 := by
   rw [gp, Dc]
   have : min i (ab sg).length ≤ 6 := by omega
   calc _ ≤ 2 ^ 6 * 1 := Nat.mul_le_mul (Nat.pow_le_pow_right (by decide) this) (by simp)
    _ ≤ 64 := by decide
  have psz : ∀ p ∈ ((ab sg).take i).foldl bO [⟨#[]⟩], p.length ≤ 6 := fun p hp => by
   have := fj ((ab sg).take i) (fun d hd => by have := clen d (Df hd); exact vk this) 0 [⟨#[]⟩] (fun p hp => by rw [Ac.mp hp]; decide) p hp
   rw [Dc] at this; omega
  generalize ((ab sg).take i).foldl bO [⟨#[]⟩] = ps at *
  refine Ae (Ay (stC e7 fun h6 c6 s6 => ?_))
  have nea : a ≠ s.heap.objs.size + 1 := e6.ne_cell e7
  have e2' := e2.sameBut s6 (by k_ne)
  have e6' := e6.sb s6 nea
  have e1' := aA e1 s6 (av (by show s.heap.objs.size ≤ _; exact om6))
  have f6 : ∀ b ∈ fp, ∀ o, h5.get? b = some o -> h6.get? b = some o := fun b hb o e => s6.extBut b o (fun q => nC (q ▸ hb)) e
  clear e1 e2 e6 e7
  have hz6 : h4.objs.size ≤ h6.objs.size := by rw [s6.1]; exact hzl
  clear s6
  refine ad ?_
  intro Qb
  refine Ab (Aq (Bg (nmL e2' e3 (cz (n := h4.objs.size) hz6 ?_))))
  refine ad ?_
  intro Qb
  refine LC (k := sOf) (k' := sOf) (fun _ => ps) (fun _ => true) (· ++ c) rfl (by decide) rfl (by decide) rfl ?_
  refine nmL e2' e3 ⟨?_, ?_, ?_, ?_, ?_⟩
  ·refine ag e6' fun i p q => ?_
   clear e6'
   exact ⟨_, aL hR.h p.isList q⟩
  ·rw [Az]; exact u8 plen
  ·exact fun C v c s_3 m_3 E' _ _ _ _ _ _ => wpAny_tests_nil ⟨rfl, aq _⟩
  ·intro C v p s_3 m_3 E' hC hv hp _ hnD hmD hkD
   refine ah (ai hv) ?_
   rintro t rfl
   refine Bg (nmL hnD hmD (nmC (c6.keeps hkD) (SB.add (fun t' k => ⟨rfl, ay fun _ _ e => e⟩) ?_)))
   have := psz p hp
   rw [Az]; exact ta hcl this
  intro D h7 tk7 ys hD hpl hys hk7 hz7
  replace hz7 : h4.objs.size ≤ h7.objs.size := hz7
  have l7 : IsL sOf h7 D (ps.map (· ++ c)) := ⟨ys, hpl, by rw [hys, List.filter_eq_self.mpr fun _ _ => rfl]⟩
  refine mx (e6'.ext hk7) l7 (by rw [Ai, Az]; exact u9 plen) fun h8 l8 k8 => ?_
  dsimp only at l8 k8 ⊢
  have e2'' := (e2'.keeps hk7).keeps k8
  have hlt := e2'.lt
  have hnew : h7.get? h7.objs.size = none := ae _
  refine stL e2'' fun h9 n9 s9 => Ah ?_
  have hne : h7.objs.size ≠ s.heap.objs.size := Dx (e2'.keeps hk7).lt
  have up : Ext h6 h8 := Ext.trans hk7 k8
  refine ⟨Lk.of, ⟨aA (Ext.trans e1' up) s9 (ae _), _, h7.objs.size, n9, rfl, ?_, ?_, (by rw [ctake]; exact l8.sb s9 hne), _, (c6.keeps up).sameBut s9 (by k_ne)⟩, fun b hb o e => s9.extBut b o (fun q => nL (q ▸ hb)) (up b o (f6 b hb o e))⟩
  ·exact ap (Ext.trans e1' hk7) hnew
  ·exact fun hb => absurd (hfs _ (hwr _ hb).1) (Bp.mpr hz7)
 ·intro s' X4 hzl X5
  refine aB X4 ?_
  clear X4
  rintro h5 tk5 rfl
  refine ao X5 fun e1 Z13 => ?_
  clear X5
  refine mD Z13 fun m a e2 e3 e4 e5 e6 Z14 => ?_
  clear Z13
  refine ah Z14 fun v' e7 => ?_
  clear Z14
  try dsimp only
  refine Ab (Bu (nmL e2 e3 ?_))
  rw [A7] at e6
  exact hQ _ _ a e1 e4 e6
end
end
end Mine
end
section
open PySem PySem.W PyProof.Rows PySem.Calls
namespace Mine
section
section
variable {prog : Program} {w : World} {A : Around} {E : Value -> Shared -> Prop} {s : Shared}
theorem nc {M : Model} {scope : Scope} {globals : Addr} {closure : List (Str × Addr)} {qual : Str} {outer : Env} {Q : Env -> Shared -> Prop}
  (h : Q { scope, locals := s.heap.objs.size, globals, cells := cellsFrom (s.heap.objs.size + 1) scope.names closure, qual, func := none, code := outer.code, frame := outer.frame, builtins := outer.builtins }
   { s with heap := pushCells (s.heap.push { cls := .type "dict", data := .dict #[] }) scope.names }) :
  wpAny M A (newFunctionEnv scope globals closure [] qual none .none (some outer)) Q E s := by
 simp only [newFunctionEnv, Option.isSome_some, if_true]
 refine Aa (wpAny_alloc ?_)
 refine Aa (wpAny_layCells _ (fun name kind cells => by cases hkc : kind == NameKind.cell <;> simp [hkc]) _ _ _ _ ?_)
 rw [show ({ s with heap := s.heap.push { cls := .type "dict", data := .dict #[] } } : Shared).heap.objs.size = s.heap.objs.size + 1 from A4 ..]
 refine Aa ?_
 rw [List.forIn_nil]
 exact Ae (Ae h)
theorem vY {α β : Type} {k : Value -> Option α} {k' : Value -> Option β} {env : Env} {elt iter : Expr} {x : Str} {px : Pos} {ifs : List Expr} {scope : Scope} {cl : List (Str × Addr)} {pos : Pos} {Q : Flow -> Shared -> Prop} {z : Str} {pz spos : Pos}
  (hsw : swapsWith (.ListComp elt [⟨.Name x px, iter, ifs, 0⟩] scope pos) (some (.Name z pz)) spos.line env = pure true) (hz : env.kindOf z = some .local) (hp : (env.scope.kind == .class || (env.scope.kind == .module && env.locals != env.globals)) = false)
  (cs : Shared -> List α) (test : α -> Bool) (g : α -> β)
  (hclos : closureFor scope env = pure cl) (hkind : scope.kind = .function)
  (hnames : ∀ y ∈ scope.names, y.2 = .local -> scope.names.lookup y.1 = some .local) (hx : ∀ C, (compEnvC scope ((x, C + 1) :: cl) C env).kindOf x = some .cell)
  (hcf : ∀ n, cellsFrom n scope.names cl = (x, n) :: cl) (hpc : ∀ h, pushCells h scope.names = h.push { cls := .type "cell", data := .cell none })
  (h : wpAny (model prog w) A (eval iter env) (fun xv s_1 => (∃ src, wpAny (model prog w) A (pyIter xv) (bk prog w A src k (cs s_1) s_1) E s_1) ∧ (cs s_1).length ≤ sizeLine ∧
   (∀ C v c s_3 m_3 E', s_1.heap.get? C = none -> s_1.heap.get? (C + 1) = none -> k v = some c -> c ∈ cs s_1 -> s_3.heap.Ns C m_3 -> s_3.heap.IsCell (C + 1) (some v) -> Ext s_1.heap s_3.heap ->
    wpAny (model prog w) A (forIn ifs true fun c r => if r = true then do let ok <- isTrue c (compEnvC scope ((x, C + 1) :: cl) C env) (eval c (compEnvC scope ((x, C + 1) :: cl) C env)); pure (ForInStep.yield ok) else pure (ForInStep.yield r))
     (fun ok s_4 => ok = test c ∧ Keeps s_3 s_4) E' s_3) ∧
   (∀ C v c s_3 m_3 E', s_1.heap.get? C = none -> s_1.heap.get? (C + 1) = none -> k v = some c -> c ∈ cs s_1 -> test c = true -> s_3.heap.Ns C m_3 -> s_3.heap.IsCell (C + 1) (some v) -> Ext s_1.heap s_3.heap ->
    wpAny (model prog w) A (eval elt (compEnvC scope ((x, C + 1) :: cl) C env)) (fun y s_4 => k' y = some (g c) ∧ Keeps s_3 s_4) E' s_3) ∧
   (∃ m, s_1.heap.Ns env.locals m ∧ ∀ D h' tk ys, s_1.heap.get? D = none -> h'.PlainList D ys -> ys.toList.map k' = (((cs s_1).filter test).map g).map some -> h'.Ns env.locals (fun u => if u = z then some (.ref D) else m u) ->
    (∀ b o, b ≠ env.locals -> s_1.heap.get? b = some o -> h'.get? b = some o) -> Q .next { s_1 with heap := h', toks := tk })) E s)
  (hs : ∀ x, foldedSetIterable iter env x = pure x := by intro _; rfl) :
  wpAny (model prog w) A (exec (.Assign [.Name z pz] (.ListComp elt [⟨.Name x px, iter, ifs, 0⟩] scope pos) spos) env) Q E s := by
 rw [exec_Assign_Name_used _ _ _ _ hsw]
 refine Aa (Bz (Aa ?_))
 show wpAny _ A (do let _ <- comprehension (.ListComp elt [⟨.Name x px, iter, ifs, 0⟩] scope pos) scope env _ (newList []) false (eval iter env) (some (assign (.Name z pz) env))) _ _ s
 refine Aa (Aj (wpAny_comprehension_free (use := some (assign (.Name z pz) env)) (Q := fun _ s' => Q .next s') rfl hs hclos hkind hnames
  (Aj h (fun xv s_1 h_1 => ?_) fun _ _ e => e)) (fun _ s' hq => Ae (Ae hq)) fun _ _ e => e)
 refine ce h_1 ?_
 clear h_1
 rintro ⟨src, hsrc⟩ hsz ht he Z1
 refine ag Z1 fun m hm hQ => ?_
 clear Z1
 refine ad ?_
 intro Qb
 refine Aj hsrc (fun it s_2 h_2 => ?_) fun _ _ e => e
 refine cB h_2 ?_
 clear h_2
 rintro I fp wr n P St rfl W hn hst hfp hP hwr _ Z2
 refine aG Z2 ?_
 clear Z2
 rintro h2 tk2 rfl k2e
 have out : ∀ b o, s_1.heap.get? b = some o -> b ∉ wr := fun b o e hb => by rw [hwr b hb] at e; cases e
 refine Dp (nc ?_)
 dsimp only at hst hfp ⊢
 rw [hpc, hcf]
 have f2 : ∀ a, h2.objs.size ≤ a -> s_1.heap.get? a = none := fun a ha => ap k2e (av ha)
 have hCn : (h2.push { cls := .type "list", dict := none, data := .seq ([] : List Value).toArray }).objs.size = h2.objs.size + 1 := by rw [A4]
 have hKn : ((h2.push { cls := .type "list", dict := none, data := .seq ([] : List Value).toArray }).push { cls := .type "dict", data := .dict #[] }).objs.size = h2.objs.size + 1 + 1 := by rw [A4, hCn]
 generalize hH : ((h2.push { cls := .type "list", dict := none, data := .seq ([] : List Value).toArray }).push { cls := .type "dict", data := .dict #[] }).push { cls := .type "cell", data := .cell none } = h_1
 have old : Ext h2 h_1 := fun b o e => hH ▸ Heap.get?_push_of_some _ (Heap.get?_push_of_some _ (Heap.get?_push_of_some _ e))
 have hacc : h_1.PlainList h2.objs.size #[] := ⟨0, hH ▸ Heap.get?_push_of_some _ (Heap.get?_push_of_some _ (Heap.get?_push_size _ rfl))⟩
 have hnsB : h_1.Ns (h2.objs.size + 1) (fun _ => none) := by
  have := (Heap.Ns.new (h2.push { cls := .type "list", dict := none, data := .seq ([] : List Value).toArray }) (.type "dict")).push { cls := .type "cell", data := .cell none }
  rw [hCn, hH] at this; exact this
 have hcell : h_1.IsCell (h2.objs.size + 1 + 1) none := ⟨_, hH ▸ (hKn ▸ Heap.get?_push_size _ rfl), rfl⟩
 rw [hCn]
 clear hCn hKn hH
 have hDf : h2.objs.size ∉ fp := fun hm => A9 _ (hfp _ hm)
 have hCf : h2.objs.size + 1 ∉ fp := fun hm => absurd (hfp _ hm) (Bp.mpr (B2 _))
 have hKf : h2.objs.size + 1 + 1 ∉ fp := fun hm => absurd (hfp _ hm) (Bp.mpr (Nat.le_succ_of_le (B2 _)))
 have fD : s_1.heap.get? h2.objs.size = none := f2 _ (Aw _)
 have fC : s_1.heap.get? (h2.objs.size + 1) = none := f2 _ (om6)
 have fK : s_1.heap.get? (h2.objs.size + 1 + 1) = none := f2 _ (qH)
 have hDC : h2.objs.size ≠ h2.objs.size + 1 := tY
 have hDK : h2.objs.size ≠ h2.objs.size + 1 + 1 := uU
 have hstB : St 0 h_1 := W.frame _ _ _ hst fun b _ o e => old b o e
 generalize hDn : h2.objs.size = D at *
 have hCK : D + 1 ≠ D + 1 + 1 := u0
 have hDw : D ∉ wr := fun h => hDf (W.sub _ h)
 have hCw : D + 1 ∉ wr := fun h => hCf (W.sub _ h)
 have hKw : D + 1 + 1 ∉ wr := fun h => hKf (W.sub _ h)
 have loop : ∀ s_3 : Shared, s_3 = { s_1 with heap := h_1, toks := tk2 } ->
   codeAny (model prog w) A (.compLoop (.ListComp elt [⟨.Name x px, iter, ifs, 0⟩] scope pos) 0 (.ref I) (.ref D) (compEnvC scope ((x, D + 1 + 1) :: cl) (D + 1) env)) (compPost (model prog w) A E (some (assign (.Name z pz) env)) (fun _ s' => Q .next s') (.ref D) (D + 1)) s_3 := by
  rintro s_3 rfl
  refine codeAny_compLoop_tests (fun j s' => ∃ h' tk m' ys i v, s' = { s_1 with heap := h', toks := tk } ∧ St i h' ∧ h'.PlainList D ys ∧ h'.Ns (D + 1) m' ∧ h'.IsCell (D + 1 + 1) v ∧
    ys.toList.map k' = ((((cs s_1).take i).filter test).map g).map some ∧ i ≤ n ∧ j = n - i ∧ Ext s_1.heap h') (fun j s' hI => ?_) n
   ⟨h_1, _, _, #[], 0, _, rfl, hstB, hacc, hnsB, hcell, by simp, Nat.zero_le _, rfl, fun b o e => old b o (k2e b o e)⟩
  refine cB hI ?_
  clear hI
  rintro H tk m' ys i v0 rfl hst' hacc' hn' hcl' hF hi rfl hk
  by_cases hlt : i < n
  ·refine W.item i _ _ _ hlt hst' fun v h_2 tkC hPv hstC hkC => ?_
   have hkv := hP i v hPv hlt
   rw [List.getElem?_eq_getElem ((om0 hn hlt))] at hkv
   have hcm : (cs s_1)[i]'((om0 hn hlt)) ∈ cs s_1 := List.getElem_mem _
   have htake : (cs s_1).take (i + 1) = (cs s_1).take i ++ [(cs s_1)[i]'((om0 hn hlt))] := by rw [Dr, List.getElem?_eq_getElem ((om0 hn hlt))]; rfl
   generalize (cs s_1)[i]'((om0 hn hlt)) = c at hkv hcm htake
   refine Ay (wpAny_storeName_cell (c := D + 1 + 1) (by show (relabel scope env).kind = _; exact hkind) (hx (D + 1)) (by simp [compEnvC, List.lookup_cons]) (let ⟨o, ho, r⟩ := hcl'; ⟨o, hkC _ o hKw ho, r⟩) fun h_3 hcD hsD => ?_)
   have upD : ∀ b o, b ≠ D + 1 + 1 -> b ∉ wr -> H.get? b = some o -> h_3.get? b = some o := fun b o hbC hbf e => hsD.extBut b o hbC (hkC b o hbf e)
   have hstD : St (i + 1) h_3 := W.frame _ _ _ hstC fun b hb o e => hsD.extBut b o (fun h => hKf (h ▸ hb)) e
   have haccD : h_3.PlainList D ys := hacc'.at fun o e => upD D o hDK hDw e
   have hnD : h_3.Ns (D + 1) m' := hn'.at' fun o e => upD _ o hCK hCw e
   have extD : Ext s_1.heap h_3 := fun b o e => upD b o (fun q => by rw [q, fK] at e; cases e) (out b o e) (hk b o e)
   refine ad ?_
   intro Qb
   refine Aj (ht (D + 1) v c _ _ (notedBy (model prog w) A (compEnvC scope ((x, D + 1 + 1) :: cl) (D + 1) env) fun e s' => compPost (model prog w) A E (some (assign (.Name z pz) env)) (fun _ s' => Q .next s') (.ref D) (D + 1) (.error e) s') fC fK hkv hcm hnD hcD extD) (fun ok s_4 h_4 => ?_) fun _ _ e => e
   refine ao h_4 ?_
   clear h_4
   rintro rfl Z3
   refine aG Z3 ?_
   clear Z3
   rintro h_4 tkO rfl hkE
   cases hpv : test c with
   | false =>
    simp only [Al, Be]
    refine ⟨n - (i + 1), (om3 hlt), h_4, tkO, _, ys, i + 1, _, rfl, W.frame _ _ _ hstD (fun b _ o e => hkE b o e), haccD.at (fun o e => hkE _ o e), hnD.keeps hkE, hcD.keeps hkE, ?_, (om2 hlt), rfl, fun b o e => hkE b o (extD b o e)⟩
    rw [htake, List.filter_append]; simpa [hpv] using hF
   | true =>
    simp only [if_true]
    refine ad ?_
    intro Qb
    refine Aj (he (D + 1) v c _ _ (notedBy (model prog w) A (compEnvC scope ((x, D + 1 + 1) :: cl) (D + 1) env) fun e s' => compPost (model prog w) A E (some (assign (.Name z pz) env)) (fun _ s' => Q .next s') (.ref D) (D + 1) (.error e) s') fC fK hkv hcm hpv (hnD.keeps hkE) (hcD.keeps hkE) (fun b o e => hkE b o (extD b o e))) (fun u s_5 h_5 => ?_) fun _ _ e => e
    refine ao h_5 fun hu Z4 => ?_
    clear h_5
    refine aG Z4 ?_
    clear Z4
    rintro h_5 tkF rfl hkF
    have hys : ys.size ≤ sizeLine := by
     have e1 := congrArg List.length hF
     simp only [Ai, As] at e1
     have e2 : (((cs s_1).take i).filter test).length ≤ ((cs s_1).take i).length := Dv _ _
     have e3 : ((cs s_1).take i).length ≤ (cs s_1).length := by rw [Dc]; omega
     exact qX hsz e1 e2 e3
    refine Dm (hsz := hys) (haccD.at fun o e => hkF _ o (hkE _ o e)) fun h_6 hlG hsG => ?_
    have upG : ∀ b o, b ≠ D -> h_3.get? b = some o -> h_6.get? b = some o := fun b o hb e => hsG.extBut b o hb (hkF b o (hkE b o e))
    refine ⟨n - (i + 1), (om3 hlt), h_6, tkF, _, ys.push u, i + 1, _, rfl, W.frame _ _ _ hstD (fun b hb o e => upG b o (fun h => hDf (h ▸ hb)) e), hlG, hnD.at' (fun o e => upG _ o (uZ) e), (let ⟨o, ho, r⟩ := hcD; ⟨o, upG _ o (u3) ho, r⟩), ?_, (om2 hlt), rfl, fun b o e => upG b o (fun q => by rw [q, fD] at e; cases e) (extD b o e)⟩
    rw [htake, List.filter_append]
    simp only [G7, Ba, hF, A2, Gv, hu]
    simp [hpv]
  ·have hin' : i = n := (om8 hi hlt)
   subst hin'
   refine W.done _ _ _ hst' fun h_3 tkD hkD => ?_
   have e_3 : Ext s_1.heap h_3 := fun b o e => hkD b o (out b o e) (hk b o e)
   have hLC : env.locals ≠ D + 1 := by intro q; obtain ⟨o, _, _, ho, _⟩ := hm; rw [q, fC] at ho; cases ho
   have hLD : env.locals ≠ D := by intro q; obtain ⟨o, _, _, ho, _⟩ := hm; rw [q, fD] at ho; cases ho
   show wpAny _ A (assign (.Name z pz) env (.ref D)) _ _ _
   refine Ay (G6 hz (hm.keeps e_3) (fun h_4 hnE hsE => ?_) hp)
   refine ⟨m', (hn'.at' fun o e => hkD _ o hCw e).sameBut hsE (Ne.symm hLC), fun h_5 hsP => ?_⟩
   refine hQ D h_5 _ ys fD (((hacc'.at fun o e => hkD _ o hDw e).extBut hsE.extBut (Ne.symm hLD)).extBut hsP.extBut hDC) ?_ (hnE.sameBut hsP hLC) fun b o hbL e =>
    hsP.extBut b o (fun q => by rw [q, fC] at e; cases e) (hsE.extBut b o hbL (e_3 b o e))
   rw [hF, hn, A7]
 exact codeAny_compStart_list (loop _ rfl) (W.self 0 _ _ _ hstB (loop _ rfl))
end
end
end Mine
end
section
open PySem PySem.W PyProof.Rows PySem.Calls PySem.Spec
namespace Mine
section
abbrev sK (w : World) := PySem.strKind pw w
section
variable {β : Type}
def put (kvs : List (Str × β)) (x : Str) (b : β) : List (Str × β) := if kvs.any (fun p => decide (p.1 = x)) then kvs.map (fun p => if p.1 = x then (p.1, b) else p) else kvs ++ [(x, b)]
def got (kvs : List (Str × β)) (x : Str) : Option β := (kvs.find? fun p => decide (p.1 = x)).map (·.2)
def Rel (k : Value -> Option β) (vs : List (Str × Value)) (kvs : List (Str × β)) : Prop := vs.map (fun p => (p.1, k p.2)) = kvs.map fun p => (p.1, some p.2)
theorem Rel.keys {k : Value -> Option β} : ∀ {vs : List (Str × Value)} {kvs : List (Str × β)}, Rel k vs kvs -> vs.map (·.1) = kvs.map (·.1)
 | [], [], _ => rfl
 | v :: vs, c :: kvs, e => by
  simp only [Rel, A2, B9, Prod.mk.injEq] at e ⊢
  exact ⟨e.1.1, Rel.keys e.2⟩
theorem Rel.got {k : Value -> Option β} {x : Str} : ∀ {vs : List (Str × Value)} {kvs : List (Str × β)}, Rel k vs kvs -> (valueAt vs x).map k = (got kvs x).map some
 | [], [], _ => rfl
 | v :: vs, c :: kvs, e => by
  simp only [Rel, A2, B9, Prod.mk.injEq] at e
  have ih := Rel.got (x := x) e.2
  simp only [valueAt, Mine.got, List.find?_cons, e.1.1] at ih ⊢
  by_cases h : c.1 = x
  ·simp [h, e.1.2]
  ·simp only [h, decide_false, ih]
theorem Rel.put {k : Value -> Option β} {x : Str} {v : Value} {b : β} (hv : k v = some b) {vs : List (Str × Value)} {kvs : List (Str × β)} (e : Rel k vs kvs) : Rel k (stored vs x v) (put kvs x b) := by
 have any : ∀ {vs : List (Str × Value)} {kvs : List (Str × β)}, Rel k vs kvs -> (vs.any fun p => decide (p.1 = x)) = kvs.any fun p => decide (p.1 = x) := by
  intro vs
  induction vs with
  | nil => intro kvs e; cases kvs with | nil => rfl | cons _ _ => cases e
  | cons u vs ih =>
   intro kvs e
   cases kvs with
   | nil => cases e
   | cons c kvs =>
    simp only [Rel, A2, B9, Prod.mk.injEq] at e
    simp only [List.any_cons, e.1.1, ih e.2]
 have mp : ∀ {vs : List (Str × Value)} {kvs : List (Str × β)}, Rel k vs kvs -> Rel k (vs.map fun p => if p.1 = x then (p.1, v) else p) (kvs.map fun p => if p.1 = x then (p.1, b) else p) := by
  intro vs
  induction vs with
  | nil => intro kvs e; cases kvs with | nil => rfl | cons _ _ => cases e
  | cons u vs ih =>
   intro kvs e
   cases kvs with
   | nil => cases e
   | cons c kvs =>
    simp only [Rel, A2, B9, Prod.mk.injEq] at e
    have := ih e.2
    simp only [Rel] at this
    simp only [Rel, A2, this, B9, and_true, e.1.1]
    by_cases h : c.1 = x
    ·simp [h, hv]
    ·simp [h, e.1.1, e.1.2]
 unfold stored Mine.put
 rw [any e]
 split
 ·exact mp e
 ·simp only [Rel] at e ⊢
  simp [e, hv]
def IsD (w : World) (k : Value -> Option β) (h : Heap) (a : Addr) (kvs : List (Str × β)) : Prop := ∃ vs : List (Str × Value), h.DictOf (sK w) a vs ∧ Rel k vs kvs
variable {w : World} {k : Value -> Option β} {h h' : Heap} {a b : Addr} {kvs : List (Str × β)}
theorem IsD.at (x : IsD w k h a kvs) (e : ∀ o, h.get? a = some o -> h'.get? a = some o) : IsD w k h' a kvs := let ⟨vs, d, r⟩ := x; ⟨vs, d.at e, r⟩
theorem IsD.ext (x : IsD w k h a kvs) (e : Ext h h') : IsD w k h' a kvs := x.at fun o z => e a o z
theorem IsD.sb (x : IsD w k h a kvs) (hs : Heap.SameBut b h h') (hn : a ≠ b) : IsD w k h' a kvs := x.at fun o z => hs.extBut a o hn z
theorem IsD.ex (x : IsD w k h a kvs) : ∃ o, h.get? a = some o := let ⟨_, ⟨o, _, _, e, _⟩, _⟩ := x; ⟨o, e⟩
end
section
variable {w : World} {A : Around} {E : Value -> Shared -> Prop} {s : Shared} {env : Env} {pos : Pos} {Q : Value -> Shared -> Prop}
theorem gT (h : ∀ h', (∀ (β : Type) (k : Value -> Option β), IsD w k h' s.heap.objs.size []) -> Ext s.heap h' -> Q (.ref s.heap.objs.size) { s with heap := h' }) : wpAny (MK w) A (eval (.Dict [] [] pos) env) Q E s :=
 wpAny_Dict_empty (h _ (fun _ _ => ⟨[], Heap.DictOf.new _, rfl⟩) (ac _ _))
theorem uw {x : Str} {i : Int} {k1 k2 : Nat} {p1 p2 : Pos} (h : ∀ h' tk, IsD w iOf h' s.heap.objs.size [(x, i)] -> Ext s.heap h' -> Q (.ref s.heap.objs.size) { s with heap := h', toks := tk }) :
  wpAny (MK w) A (eval (.Dict [some (.Constant (.str x) k1 p1)] [.Constant (.int i) k2 p2] pos) env) Q E s := by
 refine wpAny_Dict_pairs (knd := sK w) (pairs := [(eval (.Constant (.str x) k1 p1) env, do let x <- eval (.Constant (.int i) k2 p2) env; standAt pos; pure x)]) rfl (by simp) (by simp) ?_
 refine evalPairs_cons (Gd (Aa (Av (Aa (Bz (Ae (evalPairs_nil ?_)))))))
 refine ⟨[(x, .int i _)], ⟨aM x _, rfl, trivial⟩, Heap.DictOf.new _, fun h' d hs => ?_⟩
 refine h h' _ ⟨_, d, rfl⟩ (aA (ac _ _) hs (ae _))
theorem mH {β : Type} {k : Value -> Option β} {value slice : Expr}
  (h : wpAny (MK w) A (eval value env) (fun o s_1 => wpAny (MK w) A (eval slice env) (fun i s_2 => ∃ a x t kvs b, o = .ref a ∧ i = .str x t ∧ IsD w k s_2.heap a kvs ∧ got kvs x = some b ∧
   ∀ v, k v = some b -> Q v { s_2 with toks := s_2.toks + 1 }) E s_1) E s)
  (hs : ∀ o x t, subscripted slice false (.ref o) (.str x t) = operate [.ref o, .str x t] (getItem (.ref o) (.str x t)) := by intro _ _ _; with_unfolding_all rfl) :
  wpAny (MK w) A (eval (.Subscript value slice pos) env) Q E s := by
 refine Dl (Aj h (fun o s_1 h_1 => Aj h_1 (fun i s_2 h_2 => ?_) fun _ _ e => e) fun _ _ e => e)
 refine uJ h_2 ?_
 clear h_2
 rintro a x t kvs b rfl rfl ⟨vs, hd, hr⟩ hg hq
 have e := hr.got (x := x)
 rw [hg] at e
 cases hv : valueAt vs x with
 | none => rw [hv] at e; cases e
 | some v =>
  rw [hv] at e
  exact tail_any hd.mapOf.typeIs slot_dict_getitem.lookup (wpAny_getItem_of (k := x) (aM x t) hd.mapOf hv (hq v (Bk e))) (hs _ _ _)
theorem oH {β : Type} {k : Value -> Option β} {a : Addr} {x : Str} {t : Tok} {v : Value} {b : β} {kvs : List (Str × β)} {Q : Unit -> Shared -> Prop} (hd : IsD w k s.heap a kvs) (hv : k v = some b) (hsz : kvs.length ≤ sizeLine)
  (h : ∀ h', IsD w k h' a (put kvs x b) -> Heap.SameBut a s.heap h' -> Q () { s with heap := h', toks := s.toks + 1 }) : wpAny (MK w) A (setItem (.ref a) (.str x t) v) Q E s := by
 refine ag hd fun vs d r => ?_
 clear hd
 have hl := congrArg List.length r.keys
 simp only [Ai] at hl
 exact wpAny_setItem_pairs (knd := sK w) (aM x t) d (fun h' d' hs => h h' ⟨_, d', r.put hv⟩ hs) ((om9 hsz hl))
theorem pX {β : Type} {k : Value -> Option β} {a : Addr} {kvs : List (Str × β)} (hA : A.handled = none) (hs : (a == sysModules) = false) (hd : IsD w k s.heap a kvs) :
  wpAny (MK w) A (pyIter (.ref a)) (bk pw w A [a] sOf (kvs.map (·.1)) s) E s := by
 refine ag hd ?_
 clear hd
 rintro vs ⟨o, es, ep, d⟩ r
 rw [<- r.keys]
 exact ik hA hs ⟨o, es, d.1, d.2⟩
theorem fz : ∀ {vs : List Value} {ss : List Int}, vs.map iOf = ss.map some -> IntsAre vs ss
 | [], [], _ => .nil
 | v :: vs, c :: cs, e => by
  simp only [A2, B9] at e
  refine ah (aF e.1) ?_
  rintro t rfl
  exact .cons _ _ (fz e.2)
theorem uP {l : Addr} {ns : List Int} (hA : A.handled = none) (hl : IsL iOf s.heap l ns) (h : ∀ h' tk t, Ext s.heap h' -> Q (.int ns.sum t) { s with heap := h', toks := tk }) : wpAny (MK w) A (call (.builtin "sum") [.ref l]) Q E s := by
 refine ag hl fun i p q => ?_
 clear hl
 have hi := fz q
 have hl := p.isList
 refine ah hi.allInts.items fun xs hx => ?_
 have hn : numsOf i.toList = ns := hi.numsOf
 rw [show i = i.toList.toArray by simp, hx] at hl
 rw [show i.toList = i.toList.toArray.toList by simp, hx, nums_intItems] at hn
 refine sum_intListG hA hl fun h' tk t' hk => ?_
 have := h h' tk t' hk
 rw [preSum_eq, List.take_of_length_le (by simp), hn]
 exact this
theorem eI {x : Str} {p : Pos} {e : Expr} {rest : List Expr} {f : Addr} (G : Gr w s.heap) (hx : nsIn (K w.params) mainGlobals x = some (some (.ref f))) (hk : keepIn (K w.params) (.ref f) = true)
  (h : wpAny (MK w) A (spliced (backTo pos (starEach (e :: rest) env))) (fun vs s_1 => Ext s.heap s_1.heap ∧ wpAny (MK w) A (call (.ref f) vs) Q E s_1) E s)
  (hf : env.scope.kind = .function := by rfl) (hg : env.globals = mainGlobals := by rfl) (hl : env.kindOf x = some .globalImplicit := by rfl) (hd : (x == ("__debug__" : Str)) = false := by decide)
  (he : starEach (e :: rest) env = (false, eval e env) :: starEach rest env := by rfl) (hplain : (backTo pos (starEach rest env)).any (·.1) = false := by rfl) :
  wpAny (MK w) A (eval (.Call (.Name x p) (e :: rest) [] pos) env) Q E s :=
 Dn (nmG G hx (callWith_K G.K hk (Aj h (fun vs s_1 h_1 => ⟨G.K.keeps h_1.1, h_1.2⟩) fun _ _ e => e) he hplain) hf hg hl hd)
theorem bE {x : Str} {p : Pos} {e : Expr} {rest : List Expr} {id : String} (G : Gr w s.heap) (hx : nsIn (K w.params) mainGlobals x = some none) (hv : bootBuiltins x = some (.builtin id))
  (h : wpAny (MK w) A (spliced (backTo pos (starEach (e :: rest) env))) (fun vs s_1 => wpAny (MK w) A (call (.builtin id) vs) Q E s_1) E s)
  (hn : x ≠ "__name__" := by decide) (hf : env.scope.kind = .function := by rfl) (hg : env.globals = mainGlobals := by rfl) (hb : env.builtins = builtinsNs := by rfl) (hl : env.kindOf x = some .globalImplicit := by rfl) (hd : (x == ("__debug__" : Str)) = false := by decide)
  (he : starEach (e :: rest) env = (false, eval e env) :: starEach rest env := by rfl) (hplain : (backTo pos (starEach rest env)).any (·.1) = false := by rfl) :
  wpAny (MK w) A (eval (.Call (.Name x p) (e :: rest) [] pos) env) Q E s :=
 Dn (nmB G hx hv (callWith_builtin1 h he hplain) hn hf hg hb hl hd)
theorem bX {x : Str} {p : Pos} {e : Expr} {rest : List Expr} {id : String} (G : Gr w s.heap) (hx : nsIn (K w.params) mainGlobals x = some none) (hv : bootBuiltins x = some (.type id))
  (h : wpAny (MK w) A (spliced (backTo pos (starEach (e :: rest) env))) (fun vs s_1 => wpAny (MK w) A (call (.type id) vs) Q E s_1) E s)
  (hn : x ≠ "__name__" := by decide) (hf : env.scope.kind = .function := by rfl) (hg : env.globals = mainGlobals := by rfl) (hb : env.builtins = builtinsNs := by rfl) (hl : env.kindOf x = some .globalImplicit := by rfl) (hd : (x == ("__debug__" : Str)) = false := by decide)
  (he : starEach (e :: rest) env = (false, eval e env) :: starEach rest env := by rfl) (hplain : (backTo pos (starEach rest env)).any (·.1) = false := by rfl) :
  wpAny (MK w) A (eval (.Call (.Name x p) (e :: rest) [] pos) env) Q E s :=
 Dn (nmB G hx hv (PyProof.Rows.callWith_type1 h he hplain) hn hf hg hb hl hd)
end
end
section
def EB (bad : List Addr) (h h' : Heap) : Prop := ∀ b o, b ∉ bad -> h.get? b = some o -> h'.get? b = some o
theorem EB.trans {bad : List Addr} {a b c : Heap} (x : EB bad a b) (y : EB bad b c) : EB bad a c := fun i o n e => y i o n (x i o n e)
theorem Ext.eb {bad : List Addr} {h h' : Heap} (x : Ext h h') : EB bad h h' := fun b o _ e => x b o e
theorem jU {bad : List Addr} {a : Addr} {h h' : Heap} (hs : Heap.SameBut a h h') (ha : a ∈ bad) : EB bad h h' := fun b o n e => hs.extBut b o (fun q => n (q ▸ ha)) e
def dM (need : Str -> List Str) (p : Str) : Bool := ((ab p).flatMap fun a => (need a).filter fun b => !Txt.contains p b).isEmpty
def al (need : Str -> List Str) (names : Str) : List Str := (aW (ab names)).filter (dM need)
def dT (need : Str -> List Str) (ways : List (Str × Int)) (more : Str) : Int := (((ways.map (·.1)).filter fun few => bi need few more).map fun x => (got ways x).getD 0).sum
def aC (need : Str -> List Str) (ways : List (Str × Int)) (size : Int) (later : List (Str × Int)) (more : Str) : List (Str × Int) := if ((more.length : Int) == size) then put later more (dT need ways more) else later
def aP (need : Str -> List Str) (closed : List Str) (ways : List (Str × Int)) (size : Int) : List (Str × Int) := closed.foldl (aC need ways size) []
def bR (need : Str -> List Str) (names : Str) (sizes : List Int) : List (Str × Int) := sizes.foldl (aP need (al need names)) [(⟨#[]⟩, 1)]
def iH (W : List (Str × Int)) : Prop := W.length ≤ 32 ∧ ∀ p ∈ W, p.1.length ≤ 5
theorem jM {β : Type} (kvs : List (Str × β)) (x : Str) (b : β) : (put kvs x b).length ≤ kvs.length + 1 := by
 unfold put; split <;> simp
theorem mW {β : Type} {kvs : List (Str × β)} {x : Str} {b : β} {p : Str × β} (h : p ∈ put kvs x b) : p.1 = x ∨ ∃ r ∈ kvs, r.1 = p.1 := by
 unfold put at h
 split at h
 ·refine ag (A0.mp h) ?_
  rintro r hr rfl
  by_cases e : r.1 = x
  ·left; simp [e]
  ·right; exact ⟨r, hr, by simp [e]⟩
 ·rcases Au.mp h with h | h
  ·exact .inr ⟨p, h, rfl⟩
  ·left; rw [Ac.mp h]
theorem dp {need : Str -> List Str} {W : List (Str × Int)} {z : Int} : ∀ (l : List Str), (∀ p ∈ l, p.length ≤ 5) -> ∀ acc : List (Str × Int), (∀ p ∈ acc, p.1.length ≤ 5) ->
  (l.foldl (aC need W z) acc).length ≤ acc.length + l.length ∧ ∀ p ∈ l.foldl (aC need W z) acc, p.1.length ≤ 5
 | [], _, acc, h => ⟨by simp, h⟩
 | d :: l, hl, acc, h => by
  have h1 : (aC need W z acc d).length ≤ acc.length + 1 := by
   unfold aC; split
   ·exact jM _ _ _
   ·exact om6
  have h2 : ∀ p ∈ aC need W z acc d, p.1.length ≤ 5 := fun p hp => by
   unfold aC at hp; split at hp
   ·rcases mW hp with e | ⟨r, hr, e⟩
    ·rw [e]; exact hl d Ar
    ·rw [<- e]; exact h r hr
   ·exact h p hp
  have ih := dp (need := need) (W := W) (z := z) l (fun p hp => hl p (A1 _ hp)) _ h2
  rw [A6, Bj]
  exact ⟨by omega, ih.2⟩
theorem j5 {need : Str -> List Str} {C : List Str} (h : C.length ≤ 32) (h5 : ∀ p ∈ C, p.length ≤ 5) (l : List Int) : iH (l.foldl (aP need C) [(⟨#[]⟩, 1)]) := by
 have step : ∀ (W : List (Str × Int)) z, iH (aP need C W z) := fun W z => by
  have := dp (need := need) (W := W) (z := z) C h5 [] (by simp)
  exact ⟨by have := this.1; simp only [Gh] at this; unfold aP; exact sL h this, this.2⟩
 have all : ∀ (l : List Int) (W : List (Str × Int)), iH W -> iH (l.foldl (aP need C) W) := fun l => by
  induction l with
  | nil => exact fun W h => h
  | cons z l ih => exact fun W _ => ih _ (step W z)
 exact all l _ ⟨by decide, fun p hp => by rw [Ac.mp hp]; decide⟩
theorem aN (a b : Str) : ab (a ++ b) = ab a ++ ab b := by
 show (a.cps ++ b.cps).toList.map _ = _; rw [Array.toList_append, Ba]; rfl
theorem gE {c x : Str} (h : c ∈ ab x) : ab c = [c] := by obtain ⟨n, _, rfl⟩ := A0.mp h; rfl
theorem gF {c x : Str} (h : c ∈ ab x) : c.length = 1 := by obtain ⟨n, _, rfl⟩ := A0.mp h; rfl
theorem au (x : Str) : (ab x).length = x.length := by simp only [ab, Ai, As]; rfl
theorem eD (names : Str) : ∀ (l : List Str), (∀ c ∈ l, c ∈ ab names) -> ∀ ps : List Str, (∀ p ∈ ps, ∀ c ∈ ab p, c ∈ ab names) -> ∀ p ∈ l.foldl bO ps, ∀ c ∈ ab p, c ∈ ab names
 | [], _, ps, h => h
 | d :: l, hl, ps, h => eD names l (fun c hc => hl c (A1 _ hc)) _ fun p hp c hc => by
  rcases Au.mp hp with hp | hp
  ·exact h p hp c hc
  ·refine ag (A0.mp hp) ?_
   rintro z hz rfl
   have hd := hl d Ar
   rw [aN, gE hd] at hc
   rcases Au.mp hc with hc | hc
   ·exact h z hz c hc
   ·rw [Ac.mp hc]; exact hd
theorem dA {names p : Str} (hp : p ∈ aW (ab names)) : ∀ c ∈ ab p, c ∈ ab names := eD names _ (fun _ h => h) [⟨#[]⟩] (fun p hp c hc => by rw [Ac.mp hp] at hc; cases hc) p hp
theorem iz {names p : Str} (hp : p ∈ aW (ab names)) : p.length ≤ names.length := by
 have := fj (ab names) (fun d hd => by rw [gF hd]; exact Aw _) 0 [⟨#[]⟩] (fun p hp => by rw [Ac.mp hp]; decide) p hp
 rw [au] at this; exact sV this
theorem iA (names : Str) : (aW (ab names)).length = 2 ^ names.length := by rw [aW, gp, au]; simp
theorem IsL.ne_ns {α : Type} {k : Value -> Option α} {h : Heap} {a c : Addr} {cs : List α} {m : Str -> Option Value} (x : IsL k h a cs) (y : h.Ns c m) : a ≠ c := fun e => by
 refine ag x ?_
 clear x
 rintro _ ⟨_, z⟩ _
 refine jH y fun o _ _ ho hd _ => ?_
 clear y
 rw [e, ho] at z; cases z; cases hd
theorem IsL.ne_dict {α β : Type} {w : World} {k : Value -> Option α} {k' : Value -> Option β} {h : Heap} {a c : Addr} {cs : List α} {kvs : List (Str × β)} (x : IsL k h a cs) (y : IsD w k' h c kvs) : a ≠ c := fun e => by
 refine ag x ?_
 clear x
 rintro _ ⟨_, z⟩ _
 refine ag y ?_
 clear y
 rintro vs ⟨o, _, _, ho, _, hd, _⟩ _
 rw [e, ho] at z; cases z; cases hd
theorem IsD.ne_cell {β : Type} {w : World} {k' : Value -> Option β} {h : Heap} {a c : Addr} {v : Option Value} {kvs : List (Str × β)} (x : IsD w k' h a kvs) (y : h.IsCell c v) : a ≠ c := fun e => by
 refine ag x ?_
 clear x
 rintro vs ⟨o, _, _, ho, _, hd, _⟩ _
 refine ag y fun o' ho' hd' => ?_
 clear y
 rw [e, ho'] at ho; cases ho; rw [hd] at hd'; cases hd'
theorem Gr.big {w : World} {h : Heap} (G : Gr w h) : 3 < h.objs.size := A5 (G.K 3 (o3 w.params) rfl)
theorem Gr.notMods {w : World} {h : Heap} (G : Gr w h) {a : Addr} (ha : h.objs.size ≤ a) : (a == sysModules) = false := by
 have := G.big
 have h1 : @LT.lt Nat _ 1 a := Bq (Gj (by decide) this) ha
 simp only [sysModules, beq_eq_false_iff_ne]
 exact Dx h1
section
variable {w : World} {A : Around} {E : Value -> Shared -> Prop} {s : Shared} {Q : Value -> Shared -> Prop}
abbrev fdC : FuncData := fd (stA 55) "_law_chains" "_law_chains" 3 [] Value.none Value.none Value.none (Value.str (q "law_dn0070_12") 1945) none (Value.ref 1238) Value.none 0
theorem nR {n : Nat} (R : ak A (n + 4)) (G : Gr w s.heap) {nd sz : Addr} {names : Str} {tn : Tok} {need : Str -> List Str} {sizes : List Int} (N : bA w s.heap nd (ab names) need)
  (S : IsL iOf s.heap sz sizes) (hlen : names.length ≤ 5) (hnl : ∀ c ∈ ab names, (need c).length ≤ 100) {b : Int} (hgot : got (bR need names sizes) names = some b)
  (hQ : ∀ h' tk' t, Ext s.heap h' -> Q (.int b t) { s with heap := h', toks := tk' }) :
  wpAny (MK w) A (call (.ref 1239) [.str names tn, .ref nd, .ref sz]) Q E s := by
 refine jZ (fd := fdC) (binds := [(q "names", .str names tn), (q "needs", .ref nd), (q "sizes", .ref sz)]) (k := n + 4) R G rfl rfl rfl rfl rfl rfl rfl ?_
 intro s_1 x
 have hR := R.deeper (callEnvC fdC s.heap.objs.size 1239)
 refine aB x.toInCall.same ?_
 rintro h1 tk1 rfl
 try dsimp only
 have hns := x.toInCall.ns
 have hk : Ext s.heap h1 := x.toInCall.keep
 have cN := x.cell (q "needs") _ rfl
 have cW := x.cell (q "ways") _ rfl
 have cM := x.cell (q "more") _ rfl
 clear x
 have p32 : (aW (ab names)).length ≤ 32 := by rw [iA]; exact Ag (Nat.pow_le_pow_right (by decide) hlen) (by decide)
 refine ad ?_
 intro Qb
 refine Ab ?_
 refine ad ?_
 intro Qb
 refine vY (k := sOf) (k' := sOf) (z := q "closed") rfl rfl rfl (fun _ => aW (ab names)) (dM need) id rfl rfl (by decide) (fun _ => rfl) (fun _ => rfl) (fun _ => rfl) ?_
 have GM : Gr w h1 := G.ext hk
 refine ad ?_
 intro Qb
 refine eI GM rfl rfl (Ak (nmL hns rfl (An ⟨Ext.refl _, ?_⟩)))
 refine ly (n := n + 2) hR GM ((vb hlen)) fun h2 tk2 a k2 _ l2 => ?_
 dsimp only at k2 ⊢
 have ch : ∀ p ∈ aW (ab names), ∀ c ∈ ab p, c ∈ ab names := fun p hp => dA hp
 refine ⟨⟨_, by obtain ⟨i, p, q⟩ := l2; exact aL hR.h p.isList q⟩, by rw [Az]; exact oT p32, ?_, ?_, _, hns.keeps k2, ?_⟩
 ·intro C v p s_3 m_3 E' hC hK hv hp hnD hcD hkD
  refine ah (ai hv) ?_
  rintro t rfl
  have cN3 := (cN.keeps k2).keeps hkD
  have N3 := N.ext (Ext.trans hk (Ext.trans k2 hkD))
  refine Dt (Ao ?_)
  refine ad ?_
  intro Qb
  refine LC2 (k := sOf) (k2 := sOf) (k' := sOf) (fun _ => ab p) need (fun _ b => !Txt.contains p b) (fun _ b => b) rfl (by decide) rfl (by decide) rfl rfl (by decide) ?_
  refine nmC hcD ⟨⟨_, bT hR.h⟩, ?_, ?_, ?_, ?_, ?_⟩
  ·have e1 : (ab p).length ≤ 5 := by rw [au]; exact Ag (iz hp) hlen
   have e2 : ∀ l : List Str, (∀ c ∈ l, c ∈ ab names) -> (l.flatMap need).length ≤ 100 * l.length := fun l => by
    induction l with
    | nil => simp
    | cons a l ih =>
     intro h
     have := hnl a (h a Ar)
     have := ih fun c hc => h c (A1 _ hc)
     simp only [D7, A3, Bj]
     omega
   have := e2 _ (ch p hp)
   rw [Az]; exact sJ e1 this
  ·intro C2 D2 u c s_4 m_4 E'' hC2 hD2 hCD2 _ hu hc hnE hmE hkE
   refine ah (ai hu) ?_
   rintro t rfl
   refine dl N3 ?_
   refine nmC (cN3.keeps hkE) ?_
   refine nmL hnE hmE ?_
   refine EI2 c t ⟨rfl, rfl, ch p hp c hc, hkE, fun a ha => ⟨ay fun _ _ e => e, [a], ?_, ?_, ?_⟩⟩
   ·exact fun hb => ha.out (Ext.refl _) hD2 (Ac.mp hb).symm
   ·exact fun hb => ha.out (Ext.refl _) hC2 (Ac.mp hb).symm
   ·refine ag (ha.ext hkE) fun i p q => ?_
    exact aL hR.h p.isList q
  ·intro C2 u v c b s_4 m_4 E'' hC2 hu hc hv hb hnE hmE hmE' hkE
   refine ah (ai hv) ?_
   rintro t' rfl
   refine Dt (Ao ?_)
   refine nmL hnE hmE' ?_
   refine nmC (hcD.keeps hkE) ?_
   exact SB.notContains (Am ⟨rfl, aq _⟩)
  ·intro C2 u v c b s_4 m_4 E'' hC2 hu hc hv hb _ hnE hmE hmE' hkE
   exact nmL hnE hmE' ⟨hv, aq _⟩
  intro D h4 tk4 ys hD hpl hys hk4
  have l4 : IsL sOf h4 D ((ab p).flatMap fun a => ((need a).filter fun b => !Txt.contains p b).map fun b => b) := ⟨ys, hpl, hys⟩
  refine bW fun h5 l5 k5 => ?_
  refine jm (l4.ext k5) (l5 _ _) hR.units (Am ⟨?_, ay (Ext.trans hk4 k5)⟩)
  simp only [List.map_id']
  rfl
 ·intro C v p s_3 m_3 E' hC hK hv hp _ hnD hcD hkD
  exact nmC hcD ⟨hv, aq _⟩
 intro cl h3 tk3 ys hD hpl hys n3 k3
 have l3 : IsL sOf h3 cl (al need names) := ⟨ys, hpl, by rw [hys, List.map_id]; rfl⟩
 have hlt := hns.lt
 replace k3 : ∀ b o, b ≠ s.heap.objs.size -> h2.get? b = some o -> h3.get? b = some o := k3
 replace n3 : h3.Ns s.heap.objs.size _ := n3
 have cN3 := bg (cN.keeps k2) fun o e => k3 _ o (by k_ne) e
 have cW3 := bg (cW.keeps k2) fun o e => k3 _ o (by k_ne) e
 have cM3 := bg (cM.keeps k2) fun o e => k3 _ o (by k_ne) e
 have e3 : EB [s.heap.objs.size] s.heap h3 := fun b o n e => k3 b o (fun q => n (by rw [Ac]; exact q)) (k2 b o (hk b o e))
 have e3 : Ext s.heap h3 := fun b o e => e3 b o (fun q => by rw [Ac.mp q, ae] at e; cases e) e
 have S3 := S.ext e3
 have N3 := N.ext e3
 clear hns hk k2 k3 hpl hys hD l2 cN cW cM ch
 refine ad ?_
 intro Qb
 refine Ab ?_
 refine ad ?_
 intro Qb
 refine Aq ?_
 refine uw ?_
 intro h4 tk4 d4 k4
 dsimp only at d4 k4 ⊢
 refine stC (cW3.keeps k4) fun h5 cW5 s5 => ?_
 have n5 := (n3.keeps k4).sameBut s5 (by k_ne)
 have cN5 := (cN3.keeps k4).sameBut s5 (by k_ne)
 have cM5 := (cM3.keeps k4).sameBut s5 (by k_ne)
 have e5 := aA (Ext.trans e3 k4) s5 (av (by show s.heap.objs.size ≤ _; exact qH))
 have S5 := S.ext e5
 have N5 := N.ext e5
 have G5 := G.ext e5
 have d5 : IsD w iOf h5 h3.objs.size [(⟨#[]⟩, 1)] := d4.sb s5 (fun e => by obtain ⟨o, ho, _⟩ := cW3; rw [<- e, ae] at ho; cases ho)
 have wge : @LT.lt Nat _ s.heap.objs.size h3.objs.size := n3.lt
 have l5 : IsL sOf h5 cl (al need names) := (l3.ext k4).sb s5 (l3.ne_cell cW3)
 have m1 : (fun y => if y = (Str.ofString "closed") then some (Value.ref cl) else bindL (callEnvC fdC s.heap.objs.size 1239).kindOf [(q "names", .str names tn), (q "needs", .ref nd), (q "sizes", .ref sz)] (fun _ => none) y) (q "closed") = some (.ref cl) := rfl
 clear n3 cW3 cM3 cN3 S3 N3 e3 l3 d4 k4 s5
 refine ad ?_
 intro Qb
 refine Ab ?_
 refine ad ?_
 intro Qb
 refine FOR (k := iOf) ?_
 refine nmL n5 rfl ?_
 refine ag S5 fun its pS qS => ?_
 clear S5
 refine Aj (aL hR.h pS.isList qS) ?_ (fun _ _ e => e)
 intro it s_2 h_2
 refine EI2 [sz] sizes ⟨h_2, ?_⟩
 intro fp wr hfp hfs hwr
 refine cB h_2 ?_
 clear h_2
 rintro _ _ _ _ _ _ rfl _ _ _ _ _ _ _ Z21
 refine aG Z21 ?_
 clear Z21
 rintro h6 tk6 rfl k6
 dsimp only at k6 hfs hfp hwr ⊢
 have no : ∀ b, (∃ o, h5.get? b = some o) -> b ≠ sz -> b ∉ fp := fun b ⟨o, ho⟩ hn hb => (hfp b hb).elim (fun h => hn (Ac.mp h)) fun e => by rw [show h5.get? b = none from e] at ho; cases ho
 refine ah S.ex fun oz hoz => ?_
 have hszl : @LT.lt Nat _ sz s.heap.objs.size := A5 hoz
 have nL : s.heap.objs.size ∉ fp := no _ (by obtain ⟨o, _, _, ho, _⟩ := n5; exact ⟨o, ho⟩) (by k_ne)
 have nW : s.heap.objs.size + 1 + 1 ∉ fp := no _ (by obtain ⟨o, ho, _⟩ := cW5; exact ⟨o, ho⟩) (by k_ne)
 have nM : s.heap.objs.size + 1 + 1 + 1 ∉ fp := no _ (by obtain ⟨o, ho, _⟩ := cM5; exact ⟨o, ho⟩) (by k_ne)
 have nw : ∀ b, b ∉ fp -> b ∉ wr := fun b h h' => h (hwr b h').1
 have ow : ∀ b o, h5.get? b = some o -> b ∉ wr := fun b o e h' => by have := (hwr b h').2; rw [show h5.get? b = none from this] at e; cases e
 have c32 : (al need names).length ≤ 32 := Ag (Dv _ _) p32
 have c5 : ∀ p ∈ al need names, p.length ≤ 5 := fun p hp => Ag (iz (Bd.mp hp).1) hlen
 have cin : ∀ p ∈ al need names, ∀ c ∈ ab p, c ∈ ab names := fun p hp => dA (Bd.mp hp).1
 have gW : ∀ l : List Int, iH (l.foldl (aP need (al need names)) [(⟨#[]⟩, 1)]) := fun l => j5 c32 c5 l
 refine ⟨fun i h => EB [s.heap.objs.size, s.heap.objs.size + 1 + 1, s.heap.objs.size + 1 + 1 + 1] h5 h ∧ ∃ m wa, h.Ns s.heap.objs.size m ∧ m (q "names") = some (.str names tn) ∧ m (q "closed") = some (.ref cl) ∧
  h.IsCell (s.heap.objs.size + 1 + 1) (some (.ref wa)) ∧ (∃ v, h.IsCell (s.heap.objs.size + 1 + 1 + 1) v) ∧ IsD w iOf h wa ((sizes.take i).foldl (aP need (al need names)) [(⟨#[]⟩, 1)]) ∧ @LT.lt Nat _ s.heap.objs.size wa ∧ wa ∉ wr, ?_, ?_, ?_, ?_⟩
 ·exact ⟨Ext.eb k6, _, _, n5.keeps k6, rfl, rfl, cW5.keeps k6, ⟨_, cM5.keeps k6⟩, d5.ext k6, wge, nw _ (no _ d5.ex (by k_ne))⟩
 ·intro i h h' X1 hk
  refine ao X1 fun e1 Z22 => ?_
  clear X1
  refine nY Z22 ?_
  clear Z22
  rintro m wa e2 e3 e4 e5' ⟨v, e6⟩ e7 e8 e9
  exact ⟨fun b o n e => hk b o (ow b o e) (e1 b o n e), m, wa, e2.at' (fun o e => hk _ o (nw _ nL) e), e3, e4, bg e5' (fun o e => hk _ o (nw _ nW) e), ⟨v, bg e6 fun o e => hk _ o (nw _ nM) e⟩, e7.at (fun o e => hk _ o e9 e), e8, e9⟩
 ·intro i v z s' E' hc hv X2 hzl X3
  refine aB X2 ?_
  clear X2
  rintro h7 tk7 rfl
  refine ao X3 fun e1 Z23 => ?_
  clear X3
  refine nY Z23 ?_
  clear Z23
  rintro m wa e2 e3 e4 e5' ⟨v', e6⟩ e7 e8 e9
  try dsimp only
  have ctake := bh (aP need (al need names)) [((⟨#[]⟩ : Str), (1 : Int))] sizes i z hc
  have g1 := gW (sizes.take i)
  have g2 := gW (sizes.take (i + 1))
  rw [ctake] at g2
  generalize hWd : (sizes.take i).foldl (aP need (al need names)) [(⟨#[]⟩, 1)] = W at *
  refine ah (aF hv) ?_
  rintro tz rfl
  refine Ae ?_
  refine Ay ?_
  refine stL e2 fun h8 n8 s8 => ?_
  have c8 : h8.IsCell (s.heap.objs.size + 1 + 1) (some (.ref wa)) := e5'.sameBut s8 (by k_ne)
  have cM8 := e6.sameBut s8 (by k_ne)
  have d8 := e7.sb s8 (Dx e8)
  have b8 : EB [s.heap.objs.size, s.heap.objs.size + 1 + 1, s.heap.objs.size + 1 + 1 + 1] h5 h8 := e1.trans (jU s8 (by simp))
  have z8 : h6.objs.size ≤ h8.objs.size := by rw [s8.1]; exact hzl
  have f8 : ∀ b ∈ fp, ∀ o, h7.get? b = some o -> h8.get? b = some o := fun b hb o e => s8.extBut b o (fun q => nL (q ▸ hb)) e
  clear e1 e5' e6 e7 s8
  refine ad ?_
  intro Qb
  refine Ab ?_
  refine ad ?_
  intro Qb
  refine Aq ?_
  refine cz (n := h6.objs.size) z8 ?_
  refine gT ?_
  intro h9 d9 k9 z9
  dsimp only [hz] at d9 k9 z9 ⊢
  refine stL (n8.keeps k9) fun h10 n10 s10 => ?_
  have hLa : @LT.lt Nat _ s.heap.objs.size h8.objs.size := n8.lt
  have hwl : @LT.lt Nat _ wa h8.objs.size := by obtain ⟨o, ho⟩ := d8.ex; exact A5 ho
  have la10 : IsD w iOf h10 h8.objs.size [] := (d9 _ _).sb s10 (Dx hLa)
  have c10 := (c8.keeps k9).sameBut s10 (by k_ne)
  have cM10 := (cM8.keeps k9).sameBut s10 (by k_ne)
  have d10 := (d8.ext k9).sb s10 (Dx e8)
  have b10 : EB [s.heap.objs.size, s.heap.objs.size + 1 + 1, s.heap.objs.size + 1 + 1 + 1] h5 h10 := b8.trans ((Ext.eb k9).trans (jU s10 (by simp)))
  have f10 : ∀ b ∈ fp, ∀ o, h7.get? b = some o -> h10.get? b = some o := fun b hb o e => s10.extBut b o (fun q => nL (q ▸ hb)) (k9 b o (f8 b hb o e))
  have cN10 : h10.IsCell (s.heap.objs.size + 1) (some (.ref nd)) := bg cN5 fun o e => b10 _ o (by simp) e
  have l10 : IsL sOf h10 cl (al need names) := l5.at fun o e => b10 _ o (by
   intro hm
   simp only [Ap, Bw, Gz] at hm
   rcases hm with h | h | h
   ·exact l5.ne_ns n5 h
   ·exact l5.ne_cell cW5 h
   ·exact l5.ne_cell cM5 h) e
  have x10 : Ext s.heap h10 := fun b o e => b10 b o (by
   have hb := A5 e
   intro hm
   simp only [Ap, Bw, Gz] at hm
   rcases hm with rfl | rfl | rfl
   ·exact A9 _ hb
   ·exact absurd hb (by show ¬ (_ : Nat) < _; exact qF)
   ·exact absurd hb (by show ¬ (_ : Nat) < _; exact qG)) (e5 b o e)
  have z10 : h6.objs.size ≤ h10.objs.size := by rw [s10.1]; exact z9
  have N10 := N.ext x10
  clear c8 cM8 d8 n8 k9 s10 d9 f8
  refine ad ?_
  intro Qb
  refine Ab ?_
  refine ad ?_
  intro Qb
  refine FOR (k := sOf) ?_
  refine nmL n10 e4 ?_
  refine ag l10 fun itc pC qC => ?_
  clear l10
  refine Aj (aL hR.h pC.isList qC) ?_ (fun _ _ e => e)
  intro it2 s_4 h_4
  refine EI2 [cl] (al need names) ⟨h_4, ?_⟩
  intro fp2 wr2 hfp2 hfs2 hwr2
  refine cB h_4 ?_
  clear h_4
  rintro _ _ _ _ _ _ rfl _ _ _ _ _ _ _ Z24
  refine aG Z24 ?_
  clear Z24
  rintro h11 tk11 rfl k11
  dsimp only at k11 hfs2 hfp2 hwr2 ⊢
  have no2 : ∀ b, (∃ o, h10.get? b = some o) -> b ≠ cl -> b ∉ fp2 := fun b ⟨o, ho⟩ hn hb => (hfp2 b hb).elim (fun h => hn (Ac.mp h)) fun e => by rw [show h10.get? b = none from e] at ho; cases ho
  have l10 : IsL sOf h10 cl (al need names) := ⟨itc, pC, qC⟩
  have nL2 : s.heap.objs.size ∉ fp2 := no2 _ (by obtain ⟨o, _, _, ho, _⟩ := n10; exact ⟨o, ho⟩) (Ne.symm (l10.ne_ns n10))
  have nM2 : s.heap.objs.size + 1 + 1 + 1 ∉ fp2 := no2 _ (by obtain ⟨o, ho, _⟩ := cM10; exact ⟨o, ho⟩) (Ne.symm (l10.ne_cell cM10))
  have nA2 : h8.objs.size ∉ fp2 := no2 _ la10.ex (fun e => l10.ne_dict la10 e.symm)
  have nw2 : ∀ b, b ∉ fp2 -> b ∉ wr2 := fun b h h' => h (hwr2 b h').1
  have ow2 : ∀ b o, h10.get? b = some o -> b ∉ wr2 := fun b o e h' => by have := (hwr2 b h').2; rw [show h10.get? b = none from this] at e; cases e
  have nwa : ∀ b ∈ fp, b ∉ fp2 -> True := fun _ _ _ => trivial
  refine ⟨fun j h => EB [s.heap.objs.size, s.heap.objs.size + 1 + 1 + 1, h8.objs.size] h10 h ∧ ∃ m2, h.Ns s.heap.objs.size m2 ∧ m2 (q "names") = some (.str names tn) ∧ m2 (q "closed") = some (.ref cl) ∧ m2 (q "size") = some (.int z tz) ∧ m2 (q "later") = some (.ref h8.objs.size) ∧
   (∃ v, h.IsCell (s.heap.objs.size + 1 + 1 + 1) v) ∧ IsD w iOf h h8.objs.size (((al need names).take j).foldl (aC need W z) []), ?_, ?_, ?_, ?_⟩
  ·exact ⟨Ext.eb k11, _, n10.keeps k11, e3, e4, rfl, rfl, ⟨_, cM10.keeps k11⟩, la10.ext k11⟩
  ·intro j h h' X4 hk
   refine ao X4 fun a1 Z25 => ?_
   clear X4
   refine jI Z25 ?_
   clear Z25
   rintro m2 a2 a3 a4 a5 a6 ⟨v, a7⟩ a8
   exact ⟨fun b o n e => hk b o (ow2 b o e) (a1 b o n e), m2, a2.at' (fun o e => hk _ o (nw2 _ nL2) e), a3, a4, a5, a6, ⟨v, bg a7 fun o e => hk _ o (nw2 _ nM2) e⟩, a8.at fun o e => hk _ o (nw2 _ nA2) e⟩
  ·intro j v more s' E'' hc2 hv2 X5 hzl2 X6
   refine aB X5 ?_
   clear X5
   rintro h12 tk12 rfl
   refine ao X6 fun a1 Z26 => ?_
   clear X6
   refine jI Z26 ?_
   clear Z26
   rintro m2 a2 a3 a4 a5 a6 ⟨v', a7⟩ a8
   try dsimp only
   have c2take := bh (aC need W z) [] (al need names) j more hc2
   have hmem := List.mem_of_getElem? hc2
   have hjl : j < (al need names).length := (List.getElem?_eq_some_iff.mp hc2).1
   have alen := (dp (need := need) (W := W) (z := z) ((al need names).take j) (fun p hp => c5 p (Df hp)) [] (by simp)).1
   generalize hLd : ((al need names).take j).foldl (aC need W z) [] = acc at *
   have alen' : acc.length ≤ 32 := by rw [Dc, Gh] at alen; omega
   clear alen
   refine ah (ai hv2) ?_
   rintro tm rfl
   have o12 : ∀ b, b ≠ s.heap.objs.size -> b ≠ s.heap.objs.size + 1 + 1 + 1 -> b ≠ h8.objs.size -> ∀ o, h10.get? b = some o -> h12.get? b = some o := fun b n1 n2 n3 o e => a1 b o (by
    intro hm
    simp only [Ap, Bw, Gz] at hm
    rcases hm with h | h | h <;> contradiction) e
   have c12 : h12.IsCell (s.heap.objs.size + 1 + 1) (some (.ref wa)) := bg c10 fun o e => o12 _ (by k_ne) (by k_ne) (fun h => la10.ne_cell c10 h.symm) o e
   have cN12 : h12.IsCell (s.heap.objs.size + 1) (some (.ref nd)) := bg cN10 fun o e => o12 _ (by k_ne) (by k_ne) (fun h => la10.ne_cell cN10 h.symm) o e
   have d12 : IsD w iOf h12 wa W := d10.at fun o e => o12 _ (Dx e8) (d10.ne_cell cM10) (B3 hwl) o e
   have x12 : Ext s.heap h12 := fun b o e => o12 b (fun q => by rw [q, ae] at e; cases e) (fun q => by rw [q, av (by show s.heap.objs.size ≤ _; exact qI)] at e; cases e) (fun q => by rw [q, av (Bh hLa)] at e; cases e) o (x10 b o e)
   refine Ae ?_
   refine Ay ?_
   refine stC a7 fun h13 c13 s13 => ?_
   have n13 := a2.sameBut s13 (by k_ne)
   have cW13 := c12.sameBut s13 (by k_ne)
   have cN13 := cN12.sameBut s13 (by k_ne)
   have d13 := d12.sb s13 (d12.ne_cell a7)
   have la13 := a8.sb s13 (a8.ne_cell a7)
   have x13 := aA x12 s13 (av (by show s.heap.objs.size ≤ _; exact qI))
   have b13 : EB [s.heap.objs.size, s.heap.objs.size + 1 + 1 + 1, h8.objs.size] h10 h13 := a1.trans (jU s13 (by simp))
   have f13 : ∀ b ∈ fp2, ∀ o, h12.get? b = some o -> h13.get? b = some o := fun b hb o e => s13.extBut b o (fun q => nM2 (q ▸ hb)) e
   have G13 := G.ext x13
   have N13 := N.ext x13
   clear a2 a7 a8 c12 cN12 d12 x12 s13 o12 a1
   refine ad ?_
   intro Qb
   refine Ab ?_
   refine ad ?_
   intro Qb
   refine B7 ?_
   refine Ao ?_
   refine ad ?_
   intro Qb
   refine bE G13 rfl rfl ?_
   refine Ak ?_
   refine nmC c13 ?_
   refine An ?_
   have m5 := c5 more hmem
   refine P.len_str (by omega) ?_
   refine nmL n13 a5 ?_
   refine P.eq_int ?_
   refine Am ?_
   cases hb : ((more.length : Int) == z) with
   | false =>
    simp only [Al, Be]
    refine Ah (Ah ?_)
    refine ⟨Lk.of, ⟨b13, m2, n13, a3, a4, a5, a6, ⟨_, c13⟩, ?_⟩, f13⟩
    rw [c2take, aC, hb, if_neg (by simp)]; exact la13
   | true =>
    simp only [if_true]
    refine ad ?_
    intro Qb
    refine Ab ?_
    refine Ga ?_
    refine ad ?_
    intro Qb
    refine bE (G13) rfl rfl ?_
    refine Ak ?_
    refine ad ?_
    intro Qb
    refine LC (k := sOf) (k' := iOf) (fun _ => W.map (·.1)) (fun few => bi need few more) (fun x => (got W x).getD 0) rfl (by decide) rfl (by decide) rfl ?_
    refine nmC cW13 ?_
    refine ⟨⟨_, pX hR.h (G.notMods (Bh e8)) d13⟩, ?_, ?_, ?_, ?_⟩
    ·have := g1.1
     rw [Ai, Az]; exact oT this
    ·intro C v few s_3 m_3 E3 hC hv hfew hnD hmD hkD
     refine ah (ai hv) ?_
     rintro t rfl
     refine Dt ?_
     refine B0 ?_
     refine ad ?_
     intro Qb
     refine eI (G13.ext hkD) rfl rfl ?_
     refine Ak ?_
     refine nmC (cN13.keeps hkD) ?_
     refine Ak ?_
     refine nmL hnD hmD ?_
     refine Ak ?_
     refine nmC (c13.keeps hkD) ?_
     refine An ⟨Ext.refl _, ?_⟩
     refine ag (A0.mp hfew) ?_
     rintro pf hpf rfl
     have g5 := g1.2 pf hpf
     exact oK (k := n + 1) hR (G13.ext hkD) (N13.ext hkD) (cin more hmem) ((rh g5)) ((rh m5)) hnl fun h' tk' e => Am ⟨rfl, ay e⟩
    ·intro C v few s_3 m_3 E3 hC hv hfew _ hnD hmD hkD
     refine ah (ai hv) ?_
     rintro t rfl
     refine mH (k := iOf) ?_
     refine nmC (cW13.keeps hkD) ?_
     refine nmL hnD hmD ?_
     have hsome : ∃ b, got W few = some b := by
      refine ag (A0.mp hfew) ?_
      rintro pf hpf rfl
      unfold got
      cases hf : W.find? (fun p => decide (p.1 = pf.1)) with
      | some r => exact ⟨_, rfl⟩
      | none => exact absurd (List.find?_eq_none.mp hf pf hpf) (by simp)
     refine ah hsome fun b' hb' => ?_
     clear hsome
     exact EI5 wa few t W b' ⟨rfl, rfl, d13.ext hkD, hb', fun v hv => ⟨by rw [hv, hb']; rfl, ay fun _ _ e => e⟩⟩
    intro D h14 tk14 ys hD hpl hys hk14
    refine An ?_
    refine uP hR.h ⟨ys, hpl, hys⟩ ?_
    intro h15 tk15 t15 k15
    try dsimp only
    have k13 : Ext h13 h15 := Ext.trans hk14 k15
    refine nmL (n13.keeps k13) a6 ?_
    refine nmC (c13.keeps k13) ?_
    refine oH (k := iOf) (la13.ext k13) rfl (by rw [Az]; exact oT alen') ?_
    intro h16 d16 s16
    refine Ah (Ah ?_)
    refine ⟨Lk.of, ⟨(b13.trans (Ext.eb k13)).trans (jU s16 (by simp)), m2, (n13.keeps k13).sameBut s16 (B3 hLa), a3, a4, a5, a6, ⟨_, (c13.keeps k13).sameBut s16 (Ne.symm ((la13.ext k13).ne_cell (c13.keeps k13)))⟩, ?_⟩, ?_⟩
    ·rw [c2take, aC, hb, if_pos rfl]; exact d16
    ·exact fun b hb o e => s16.extBut b o (fun q => nA2 (q ▸ hb)) (k13 b o (f13 b hb o e))
  ·intro s' X7 hzl2 X8
   refine aB X7 ?_
   clear X7
   rintro h12 tk12 rfl
   refine ao X8 fun a1 Z27 => ?_
   clear X8
   refine jI Z27 ?_
   clear Z27
   rintro m2 a2 a3 a4 a5 a6 ⟨v', a7⟩ a8
   try dsimp only
   rw [A7] at a8
   have c12 : h12.IsCell (s.heap.objs.size + 1 + 1) (some (.ref wa)) := bg c10 fun o e => a1 _ o (by
    intro hm
    simp only [Ap, Bw, Gz] at hm
    rcases hm with h | h | h
    ·exact absurd h (by k_ne)
    ·exact absurd h (by k_ne)
    ·exact la10.ne_cell c10 h.symm) e
   refine ad ?_
   intro Qb
   refine Ab ?_
   refine Aq ?_
   refine nmL a2 a6 ?_
   refine stC c12 fun h13 c13 s13 => ?_
   refine Ah ?_
   refine ⟨Lk.of, ⟨?_, m2, h8.objs.size, a2.sameBut s13 (by k_ne), a3, a4, c13, ⟨_, a7.sameBut s13 (by k_ne)⟩, ?_, hLa, ?_⟩, ?_⟩
   ·intro b o hn e
    have e8' := b8 b o hn e
    have hlt8 := A5 e8'
    have e10 := b10 b o hn e
    have n1 : b ≠ s.heap.objs.size := fun h => hn (by simp [h])
    have n2 : b ≠ s.heap.objs.size + 1 + 1 := fun h => hn (by simp [h])
    have n3 : b ≠ s.heap.objs.size + 1 + 1 + 1 := fun h => hn (by simp [h])
    refine s13.extBut b o n2 (a1 b o ?_ e10)
    intro hm
    simp only [Ap, Bw, Gz] at hm
    rcases hm with h | h | h
    ·exact n1 h
    ·exact n3 h
    ·exact absurd hlt8 (by rw [h]; exact A9 _)
   ·rw [ctake]; exact a8.sb s13 (a8.ne_cell c12)
   ·exact fun hb => absurd (hfs _ (hwr _ hb).1) (Bp.mpr z8)
   ·intro b hb o e
    refine s13.extBut b o (fun q => nW (q ▸ hb)) (a1 b o ?_ (f10 b hb o e))
    intro hm
    simp only [Ap, Bw, Gz] at hm
    rcases hm with h | h | h
    ·exact nL (h ▸ hb)
    ·exact nM (h ▸ hb)
    ·have := hfs b hb
     rw [h] at this
     exact absurd this (Bp.mpr z8)
 ·intro s' X9 hzl X10
  refine aB X9 ?_
  clear X9
  rintro h7 tk7 rfl
  refine ao X10 fun e1 Z28 => ?_
  clear X10
  refine nY Z28 ?_
  clear Z28
  rintro m wa e2 e3 e4 e5' ⟨v', e6⟩ e7 e8 e9
  try dsimp only
  rw [A7] at e7
  refine Ab ?_
  refine Bu ?_
  refine mH (k := iOf) ?_
  refine nmC e5' ?_
  refine nmL e2 e3 ?_
  refine EI5 wa names tn _ b ⟨rfl, rfl, e7, hgot, fun v hv => ?_⟩
  refine ah (aF hv) ?_
  rintro t rfl
  refine hQ _ _ t fun b o e => ?_
  have hb := A5 e
  have := e1 b o (by
   intro hm
   simp only [Ap, Bw, Gz] at hm
   rcases hm with rfl | rfl | rfl
   ·exact A9 _ hb
   ·exact absurd hb (by show ¬ (_ : Nat) < _; exact qF)
   ·exact absurd hb (by show ¬ (_ : Nat) < _; exact qG)) (e5 b o e)
  exact this
end
end
end Mine
end
section
open PySem PySem.W PyProof.Rows PySem.Calls PySem.Spec Builtin Builtin.ObjectAttr
namespace Mine
section
theorem fH (es : Array DictEntry) (name : Str) : nsFind es name = (es.toList.find? (·.key.isStr name)).map (·.val) := by
 simp only [nsFind, findBy, Array.find?_toList]
theorem kB {o : Obj} {es : Array DictEntry} {ep : Nat} {m : Str -> Option Value} (hd : o.data = .dict es ep) (hk : StrKeys es) (hm : ∀ name, nsFind es name = m name) (name : Str) : lookIn name o = some (m name) := by
 unfold lookIn
 rw [hd, <- hm, fH]
 dsimp only
 have hany : es.toList.any (·.refKey) = false := by
  rw [List.any_eq_false]
  intro e he
  refine aB (hk e (Array.mem_toList_iff.mp he)) fun n t h => ?_
  simp [DictEntry.refKey, h]
 cases es.toList.find? (·.key.isStr name) with
 | some e => rfl
 | none => simp [hany]
def NsN (h : Heap) (a : Addr) (m : Str -> Option Value) (n : Nat) : Prop := ∃ o es ep, h.get? a = some o ∧ o.data = .dict es ep ∧ StrKeys es ∧ (∀ name, nsFind es name = m name) ∧ es.size ≤ n
theorem NsN.at {h h' : Heap} {a : Addr} {m : Str -> Option Value} {n : Nat} (x : NsN h a m n) (e : ∀ o, h.get? a = some o -> h'.get? a = some o) : NsN h' a m n := let ⟨o, es, ep, ho, r⟩ := x; ⟨o, es, ep, e _ ho, r⟩
theorem m8 {M : Model} {A : Around} {E : Value -> Shared -> Prop} {s : Shared} {a : Addr} {m : Str -> Option Value} {n : Nat} {name : Str} {v : Value} {Q : Unit -> Shared -> Prop} (hn : NsN s.heap a m n)
  (h : ∀ h', NsN h' a (fun x => if x = name then some v else m x) (if (m name).isSome then n else n + 1) -> Heap.SameBut a s.heap h' -> Q () { s with heap := h', toks := s.toks + 1 }) :
  wpAny M A (nsSet a name v) Q E s := by
 refine jG hn fun o es ep ho hd hk hm hz => ?_
 clear hn
 have hany : es.any (·.refKey) = false := by
  rw [Array.any_eq_false']; intro e he; obtain ⟨n, t, h⟩ := hk e he; simp [DictEntry.refKey, h]
 obtain ⟨c, d, dt, sl⟩ := o
 subst hd
 unfold nsSet
 refine Aa (Aa (wpAny_askSetting (Ae (Aa (wpAny_mkText (Aa (wpAny_loadPart ho ?_)))))))
 dsimp only
 rw [aRefKeyMayBeTheName_at, hany, Bool.and_false]
 refine wpAny_updatePart ho ?_
 have key : ∀ hh, ∃ es' ep', (s.heap.update a (Obj.putName name hh (.str name s.toks) v)).get? a = some (Obj.putName name hh (.str name s.toks) v ⟨c, d, .dict es ep, sl⟩) ∧ (Obj.putName name hh (.str name s.toks) v ⟨c, d, .dict es ep, sl⟩).data = .dict es' ep' ∧
   StrKeys es' ∧ (∀ x, nsFind es' x = if x = name then some v else m x) ∧ es'.size ≤ (if (m name).isSome then n else n + 1) := by
  intro hh
  cases hi : es.findIdx? (·.key.isStr name) with
  | some i =>
   refine EI2 _ ep ⟨Heap.get?_update_self _ ho (by simp only [Obj.putName_eq, Obj.putNameByArray, hi]; rfl), by simp only [Obj.putName_eq, Obj.putNameByArray, hi]; rfl, hk.modify _ _, fun x => ?_, ?_⟩
   ·rw [<- hm]; exact findBy_modify (fun n v => v.isStr n) Value.isStr_inj es name x v i hi
   ·rw [Array.size_modify]; split <;> omega
  | none =>
   refine EI2 _ (ep + 1) ⟨Heap.get?_update_self _ ho (by simp only [Obj.putName_eq, Obj.putNameByArray, hi]; rfl), by simp only [Obj.putName_eq, Obj.putNameByArray, hi]; rfl, hk.push _ _ _ _, fun x => ?_, ?_⟩
   ·rw [<- hm]
    exact findBy_push (fun n v => v.isStr n) es name x _ _ v (fun y => by
     show (name == y) = decide (y = name)
     by_cases h : y = name
     ·subst h; simp
     ·have : ¬ name = y := fun e => h e.symm
      simp [h, this]) hi
   ·have : m name = none := by
     rw [<- hm, fH]
     rw [Option.map_eq_none_iff, List.find?_eq_none]
     intro e he
     rw [Array.findIdx?_eq_none_iff] at hi
     simpa using hi e (Array.mem_toList_iff.mp he)
    rw [this, Array.size_push]
    simp only [Option.isSome_none, Al, Be]
    exact qw hz
 refine nZ (key (PyData.keyHash M.w.params name)) fun es' ep' e1 e0 e2 e3 e4 => ?_
 exact h _ ⟨_, es', ep', e1, e0, e2, e3, e4⟩ (A8 ..)
theorem lB {M : Model} {A : Around} {E : Value -> Shared -> Prop} {s : Shared} {a : Addr} {m : Str -> Option Value} {n : Nat} {part : Option Value} {Q : Unit -> Shared -> Prop} (hn : NsN s.heap a m n) (hz : n ≤ 200) (h : Q () s) : wpAny M A (lookBehind a part) Q E s := by
 refine jG hn fun o es ep ho hd _ _ hs => ?_
 clear hn
 exact wpAny_lookBehind ho (by rw [hd]; exact pastItsLine_dict (by rw [Az]; exact sM hz hs)) h
structure fV (h : Heap) (x C dx : Addr) (m : Str -> Option Value) (n : Nat) : Prop where
 obj : h.get? x = some (instObj C dx)
 ns : NsN h dx m n
theorem fV.at_ {h : Heap} {x C dx : Addr} {m : Str -> Option Value} {n : Nat} (I : fV h x C dx m n) : ∃ o, InstAt h x (instObj C dx) C (some o) ∧ h.get? dx = some o ∧ ∀ name, lookIn name o = some (m name) := by
 refine jG I.ns fun o es ep ho hd hk hm _ => ?_
 exact ⟨o, ⟨I.obj, rfl, rfl, ho⟩, ho, kB hd hk hm⟩
section
variable {w : World} {A : Around} {E : Value -> Shared -> Prop} {s : Shared} {x C dx : Addr} {m : Str -> Option Value} {n : Nat} {name : Str} {v : Value}
theorem fZ {expr : Bool} {Q : Value -> Shared -> Prop} {attr : Option Value} (G : Gr w s.heap) (I : fV s.heap x C dx m n) (hv : m name = some v) (hh : handedIn v = true) (hg : plainGet (K w.params) C name = true := by rfl) (hd : hasDictIn (K w.params) C = true := by rfl)
  (ha : findIn (K w.params) (.ref C) name = some attr := by rfl) (hn : noGet (K w.params) attr = true := by rfl) (h : Q v { s with toks := s.toks + 1 }) : wpAny (MK w) A (getAttr (.ref x) name expr) Q E s := by
 refine aZ I.at_ fun o J ho hl => ?_
 exact get_value G.K J (plainGet_of hg).1 (findObj_own hd ha hn (by rw [hl, hv])) hh h
theorem jh {pl : Sem Bool} {Q : Value × List Value -> Shared -> Prop} {f : Addr} (G : Gr w s.heap) (I : fV s.heap x C dx m n) (hv : m name = none) (h : Q (.ref f, [.ref x]) s) (hg : plainGet (K w.params) C name = true := by rfl)
  (hf : findIn (K w.params) (.ref C) name = some (some (.ref f)) := by rfl) (ht : isFn (K w.params) (.ref f) = true := by rfl) : wpAny (MK w) A (getMethod (.ref x) name pl) Q E s := by
 refine aZ I.at_ fun o J ho hl => ?_
 exact method_fn G.K J (plainGet_of hg).1 (plainGet_of hg).2 hf (beq_iff_eq.mp ht) (by show (lookIn name o).map _ = _; rw [hl, hv]; rfl) h
theorem i8 {Q : Unit -> Shared -> Prop} (G : Gr w s.heap) (I : fV s.heap x C dx m n) (hz : n ≤ 100)
  (h : ∀ h', NsN h' dx (fun y => if y = name then some v else m y) (if (m name).isSome then n else n + 1) -> Heap.SameBut dx s.heap h' -> Q () { s with heap := h', toks := s.toks + 2 })
  (hs : findIn (K w.params) (.ref C) "__setattr__" = some (some (.builtin "object.__setattr__")) := by rfl) (hp : plainOver (K w.params) C = true := by rfl) (ht : takerIn (K w.params) C name = some none := by rfl) (hd : hasDictIn (K w.params) C = true := by rfl) :
  wpAny (MK w) A (setAttr (.ref x) name v) Q E s := by
 refine aZ I.at_ fun o J ho hl => ?_
 refine set_plain G.K J hs (osa_open (s := { s with toks := s.toks + 1 }) G.K J hp ht fun b => ?_)
 refine ag (any_some hd) fun cd hc hd' => ?_
 obtain ⟨hx, hns⟩ := I
 refine Aa (Ae (Aa (Aa (wpAny_loadPart hx (Aa (Looks.here (s := { s with toks := s.toks + 1 }) (looks_clsIn (h := s.heap) G.K hc) ?_))))))
 rw [hd']
 refine Ae (a := some dx) (Aa (Ae ?_))
 refine Aa ?_
 refine m8 (s := { s with toks := s.toks + 1 }) hns fun h' hn' hs' => ?_
 refine Aa (lB hn' (by split <;> omega) ?_)
 exact Ae (h h' hn' hs')
end
end
end Mine
end
section
open PySem PySem.W PyProof.Rows PySem.Calls PySem.Spec Builtin Builtin.ObjectAttr Builtin.Getset_descriptor
namespace Mine
section
structure bp (h : Heap) (x C dx : Addr) (sl : Array (Option Value)) : Prop where
 obj : h.get? x = some ⟨.ref C, some dx, .plain, sl⟩
 dict : h.get? dx = some emptyDict
theorem bp.inst {h : Heap} {x C dx : Addr} {sl : Array (Option Value)} (S : bp h x C dx sl) : InstAt h x ⟨.ref C, some dx, .plain, sl⟩ C (some emptyDict) := ⟨S.obj, rfl, rfl, S.dict⟩
theorem bp.ne {h : Heap} {x C dx : Addr} {sl : Array (Option Value)} (S : bp h x C dx sl) : dx ≠ x := fun e => by
 have h1 := S.obj
 have h2 := S.dict
 rw [e, h1] at h2
 cases h2
section
variable {prog : Program} {w : World} {A : Around} {E : Value -> Shared -> Prop} {s : Shared} {K : Frag} {x C p : Addr} {name : Str} {v : Value} {R : Result -> Shared -> Prop}
theorem lR {a g : Value} {od : Option Obj} (hc : (clsIn K C).isSome = true) (ha : findIn K (.ref C) name = some (some a)) (hg : specialIn K a "__get__" = some (some g)) (ht : takesIn K a = some true) : findObj K C od name = some (.bind g a) := by
 refine ah (Option.isSome_iff_exists.mp hc) fun cd hc => ?_
 unfold findObj
 rw [hc, Option.bind_some, ha, Option.bind_some]
 simp [hg, ht]
theorem mU {ox : Obj} {od : Option Obj} {i : Nat} (X : K.In s.heap) (I : InstAt s.heap x ox C od) (hp : slotIn K p C = some i) (hi : i < 1000)
  (h : R (.ok (.ret .none)) { s with heap := s.heap.update x fun o => { o with slots := (o.slots ++ Array.replicate (i + 1 - o.slots.size) none).setIfInBounds i (some v) } }) :
  codeAny (model prog w) A (.call (.builtin "member_descriptor.__set__") ⟨[.ref p, .ref x, v], []⟩) R s := by
 refine v8 (slot_of X hp) ?_
 rintro n tn owner behind tb d sl cd ho hc hm hb rfl
 obtain ⟨hh, g, dr, t, os⟩ := s
 have L0 := I.type (M := model prog w)
 have L1 := looks_mroIn (M := model prog w) X hm
 have L2 : Looks (model prog w) hh (Slots.slotNamesOf (.ref C)) cd.slotNames := (looks_clsIn X hc).andThen .now
 have hx := I.at_
 dsimp only at ho hx L0 L1
 have f0 := looks_field (M := model prog w) ho 0 (v := .str n tn) rfl
 have f1 := looks_field (M := model prog w) ho 1 (v := owner) rfl
 have f3 := looks_field (M := model prog w) ho 3 (v := .builtin "proto.slot#set") rfl
 have f4 := looks_field (M := model prog w) ho 4 (v := .int behind tb) rfl
 refine De KF.slot_mset.plain KF.entry_mset (KF.slot_mset.check _ _ _ _ _ _ _ _ ⟨_, ho, rfl⟩ (KF.args_mset _ _ _) ?_)
 unfold Builtin.«member_descriptor.__set__» descrSet descrStoreThrough descrCheckInstance descrNameAndClass isInstance
 have f5 : Looks (model prog w) hh (descrItself (.ref p)) [.ref p] := ((Gs (part := none) ho).andThen .now).andThen (B4 (by kernel_rfl))
 repeat lk
 refine ⟨Code.quiet_builtin _ (by decide +kernel), G0 KF.entry_slotset ?_⟩
 unfold Builtin.«proto.slot#set» Slots.target
 repeat lk
 rw [if_neg hb]
 refine Ae (Aa ?_)
 unfold setSlotAt
 dsimp only
 rw [if_neg (by rw [Az]; omega)]
 exact wpAny_updatePart hx (Ae h)
end
section
variable {w : World} {A : Around} {E : Value -> Shared -> Prop} {s : Shared} {x C dx p : Addr} {name : Str} {v : Value} {sl : Array (Option Value)}
theorem gR {expr : Bool} {Q : Value -> Shared -> Prop} {i : Nat} (G : Gr w s.heap) (S : bp s.heap x C dx sl) (hv : (sl[i]?).join = some v) (hh : handedIn v = true) (h : Q v { s with toks := s.toks + 1 })
  (hg : plainGet (K w.params) C name = true := by rfl) (hc : (clsIn (K w.params) C).isSome = true := by rfl) (ha : findIn (K w.params) (.ref C) name = some (some (.ref p)) := by rfl)
  (hn : specialIn (K w.params) (.ref p) "__get__" = some (some (.builtin "member_descriptor.__get__")) := by rfl) (ht : takesIn (K w.params) (.ref p) = some true := by rfl) (hp : slotIn (K w.params) p C = some i := by rfl) :
  wpAny (MK w) A (getAttr (.ref x) name expr) Q E s :=
 get_bind G.K S.inst (plainGet_of hg).1 (lR hc ha hn ht) (plainGet_of hg).2 (Bf (slot_get (s := { s with toks := s.toks + 1 }) G.K S.inst hp hv (handed_on hh h)))
theorem i7 {Q : Unit -> Shared -> Prop} {i : Nat} (G : Gr w s.heap) (S : bp s.heap x C dx sl) (hi : i < 1000)
  (h : ∀ h', bp h' x C dx ((sl ++ Array.replicate (i + 1 - sl.size) none).setIfInBounds i (some v)) -> Heap.SameBut x s.heap h' -> Q () { s with heap := h', toks := s.toks + 1 })
  (hs : findIn (K w.params) (.ref C) "__setattr__" = some (some (.builtin "object.__setattr__")) := by rfl) (hp : plainOver (K w.params) C = true := by rfl) (ht : takerIn (K w.params) C name = some (some (.ref p)) := by rfl)
  (hT : typeIn (K w.params) (.ref p) = some (.type "member_descriptor") := by rfl) (hsl : slotIn (K w.params) p C = some i := by rfl) : wpAny (MK w) A (setAttr (.ref x) name v) Q E s :=
 set_plain G.K S.inst hs (osa_descr (s := { s with toks := s.toks + 1 }) KF.slot_mset G.K S.inst hp ht hT (mU (s := { s with toks := s.toks + 1 }) G.K S.inst hsl hi
  (h _ ⟨Heap.get?_update_self _ S.obj rfl, (A8 s.heap x _).extBut _ _ S.ne S.dict⟩ (A8 ..))))
end
section
variable {w : World} {A : Around} {E : Value -> Shared -> Prop} {s : Shared}
theorem ak.under_make {k : Nat} (x : ak A (k + 1)) (C : Addr) (vals : List Value) : ak (A.under (.builtin "type.__call__" ⟨.ref C :: vals, []⟩)) k :=
 ⟨x.h, by have := x.d; show A.depth + 1 + k < 900; omega, by have := x.u; show A.units + 1 + 16 * k < 9000; omega⟩
theorem gS {RR : Result -> Shared -> Prop} {f : Addr} {o : Obj} {fd : FuncData} {body : List Stmt} {args : Args} {binds : List (Str × Value)} {k : Nat}
  (R : ak A k) (G : Gr w s.heap) (ho : (K w.params).lookup f = some o) (hdata : o.data = .func fd) (hcd : codeIn (K w.params) (fd.code) fd.qualname = true)
  (hbody : fd.body = .stmts body) (hbind : BindsTo s fd args binds) (hcell : ∀ x ∈ fd.scope.names, x.2 ≠ .cell) (hloc : (binds.all fun x => decide (fd.scope.names.lookup x.1 = some .local)) = true)
  (h : ∀ h₀, h₀.Ns s.heap.objs.size (fun x => binds.reverse.lookup x) -> Ext s.heap h₀ ->
   wpAny (MK w) (A.deeper (callEnv fd s.heap.objs.size f)) (execs body (callEnv fd s.heap.objs.size f)) (fun fl s' => RR (.ok (.ret (match fl with | .ret v => v | _ => .none))) s') (fun _ _ => False) { s with heap := h₀, toks := s.toks + binds.length })
  (hco : fd.scope.isCoroutine = false := by rfl) (hgen : fd.scope.isGenerator = false := by rfl) (hk : fd.scope.kind = .function := by rfl) :
  codeAny (MK w) A (.call (.ref f) args) RR s :=
 codeAny_call_def R.depth (G.K _ _ ho) hdata G.lim (codeRec_of G.K hcd) hbody hbind hcell (locs hloc) (fun h₀ hn hk' => Aj (h h₀ hn hk') (fun _ _ q => q) fun _ _ e => e.elim) hco hgen hk
theorem dP {Q : Value -> Shared -> Prop} {f : Addr} {o : Obj} {fd : FuncData} {body : List Stmt} {vals : List Value} {binds : List (Str × Value)} {k : Nat}
  (R : ak A k) (G : Gr w s.heap) (ho : (K w.params).lookup f = some o) (hdata : o.data = .func fd) (hcd : codeIn (K w.params) (fd.code) fd.qualname = true)
  (hbody : fd.body = .stmts body) (hbind : BindsTo s fd ⟨vals, []⟩ binds) (hcell : ∀ x ∈ fd.scope.names, x.2 ≠ .cell) (hloc : (binds.all fun x => decide (fd.scope.names.lookup x.1 = some .local)) = true)
  (h : ∀ h₀, h₀.Ns s.heap.objs.size (fun x => binds.reverse.lookup x) -> Ext s.heap h₀ ->
   wpAny (MK w) (A.deeper (callEnv fd s.heap.objs.size f)) (execs body (callEnv fd s.heap.objs.size f)) (fun fl s' => Q (match fl with | .ret v => v | _ => .none) s') (fun _ _ => False) { s with heap := h₀, toks := s.toks + binds.length })
  (hco : fd.scope.isCoroutine = false := by rfl) (hgen : fd.scope.isGenerator = false := by rfl) (hk : fd.scope.kind = .function := by rfl) :
  wpAny (MK w) A (call (.ref f) vals []) Q E s :=
 Bf (gS R G ho hdata hcd hbody hbind hcell hloc h hco hgen hk)
theorem ud {C fI : Addr} {vals : List Value} {Q : Value -> Shared -> Prop} (G : Gr w s.heap)
  (h : codeAny (MK w) (A.under (.builtin "type.__call__" ⟨.ref C :: vals, []⟩)) (.call (.ref fI) ⟨.ref (s.heap.objs.size + 1) :: vals, []⟩)
   (InitBack (s.heap.objs.size + 1) fun r s' => match r with | .ok (.ret v) => Q v s' | .ok _ => False | .error e => E e s') { s with heap := (s.heap.push emptyDict).push (instObj C s.heap.objs.size) })
  (hm : makesIn (K w.params) C = true := by rfl) (hi : findIn (K w.params) (.ref C) "__init__" = some (some (.ref fI)) := by rfl) (hf : typeIn (K w.params) (.ref fI) = some (.type "function") := by rfl) :
  wpAny (MK w) A (call (.ref C) vals []) Q E s :=
 Bf (make_core (makes_of G.K hm) (B8 G.K hi) (fun self => bind_fn G.K self hf) (.inl rfl) h)
end
end
end Mine
end
section
open PySem PySem.W PyProof.Rows PySem.Calls PySem.Spec
namespace Mine
section
def jE (h : Heap) (x dx : Addr) (c : Str) (np : Int) (L : Addr) : Prop := ∃ tc tn, bp h x 1116 dx #[some (.str c tc), some (.int np tn), some (.ref L)]
theorem jE.at {h h' : Heap} {x dx L : Addr} {c : Str} {np : Int} (I : jE h x dx c np L) (e1 : ∀ o, h.get? x = some o -> h'.get? x = some o) (e2 : ∀ o, h.get? dx = some o -> h'.get? dx = some o) : jE h' x dx c np L := by
 refine aB I ?_
 clear I
 rintro tc tn ⟨a, b⟩
 exact EI2 tc tn ⟨e1 _ a, e2 _ b⟩
section
variable {w : World} {A : Around} {E : Value -> Shared -> Prop} {s : Shared} {Q : Value -> Shared -> Prop}
abbrev vT : FuncData := fd (inC 48 1) "__init__" "_NodeInfo.__init__" 3 [] .none .none .none (.str (q "cpy313.graphlib") 1763) none (.ref 1111) .none 0
theorem kl {k : Nat} (R : ak A (k + 3)) (G : Gr w s.heap) {c : Str} {tk : Tok}
  (hQ : ∀ h' tk' x dx L, Ext s.heap h' -> jE h' x dx c 0 L -> IsL sOf h' L [] -> @LE.le Nat _ s.heap.objs.size x -> @LE.le Nat _ s.heap.objs.size dx -> @LE.le Nat _ s.heap.objs.size L -> Q (.ref x) { s with heap := h', toks := tk' }) :
  wpAny (MK w) A (call (.ref 1116) [.str c tk]) Q E s := by
 refine ud (fI := 1112) G ?_
 have hE : Ext s.heap ((s.heap.push emptyDict).push (instObj 1116 s.heap.objs.size)) := Ext.trans (ac _ _) (ac _ _)
 have S0 : bp ((s.heap.push emptyDict).push (instObj 1116 s.heap.objs.size)) (s.heap.objs.size + 1) 1116 s.heap.objs.size #[] :=
  ⟨by rw [<- A4 s.heap emptyDict]; exact Heap.get?_push_size _ rfl, Heap.get?_push_of_some _ (Heap.get?_push_size _ rfl)⟩
 have hsz : ((s.heap.push emptyDict).push (instObj 1116 s.heap.objs.size)).objs.size = s.heap.objs.size + 2 := by rw [A4, A4]
 generalize (s.heap.push emptyDict).push (instObj 1116 s.heap.objs.size) = h1 at *
 refine gS (binds := [(q "self", .ref (s.heap.objs.size + 1)), (q "node", .str c tk)]) (fd := vT) (R.under_make 1116 _) (G.ext hE) rfl rfl rfl rfl (Dy rfl) (by decide) rfl ?_
 intro h2 n2 k2
 dsimp only at n2 k2
 have G2 := (G.ext hE).ext k2
 have S2 : bp h2 _ _ _ _ := ⟨k2 _ _ S0.obj, k2 _ _ S0.dict⟩
 refine ad ?_
 intro Qb
 refine Ab ?_
 refine Bb ?_
 refine nmL n2 rfl ?_
 refine nmL n2 rfl ?_
 refine i7 (i := 0) G2 S2 (by decide) ?_
 intro h3 S3 s3
 have kx : ∀ {g h h' : Heap}, Ext g h -> Heap.SameBut (s.heap.objs.size + 1) h h' -> g = s.heap -> Ext g h' := fun e hs q => aA e hs (by rw [q]; exact av (B2 _))
 have x3 := kx (Ext.trans hE k2) s3 rfl
 have n3 := n2.sameBut s3 (by rw [hsz]; k_ne)
 have G3 := G.ext x3
 refine ad ?_
 intro Qb
 refine Ab ?_
 refine Bb ?_
 refine Av ?_
 refine nmL n3 rfl ?_
 refine i7 (i := 1) G3 S3 (by decide) ?_
 intro h4 S4 s4
 have x4 := kx x3 s4 rfl
 have n4 := n3.sameBut s4 (by rw [hsz]; k_ne)
 have G4 := G.ext x4
 refine Ab ?_
 refine Bb ?_
 refine bW ?_
 intro h5 l5 k5
 dsimp only at l5 k5 ⊢
 have x5 := Ext.trans x4 k5
 have S5 : bp h5 _ _ _ _ := ⟨k5 _ _ S4.obj, k5 _ _ S4.dict⟩
 refine nmL (n4.keeps k5) rfl ?_
 refine i7 (i := 2) (G.ext x5) S5 (by decide) ?_
 intro h6 S6 s6
 refine Ah ?_
 have hL : s.heap.objs.size + 2 < h4.objs.size := by rw [<- hsz]; exact n4.lt
 refine ⟨rfl, ?_⟩
 refine hQ h6 _ (s.heap.objs.size + 1) s.heap.objs.size h4.objs.size (kx x5 s6 rfl) ⟨_, _, S6⟩ ((l5 _ _).sb s6 ?_) (B2 _) (Aw _) ?_
 ·exact Dx (by show @LT.lt Nat _ _ _; exact tC hL)
 ·show @LE.le Nat _ _ _; exact tB hL
end
end
section
inductive Role
 | s | d | n | r
 | i (x : Str)
 | x (x : Str)
 | l (x : Str)
structure Ad where
 S : Addr
 D : Addr
 N : Addr
 R : Addr
 I : Str -> Addr
 X : Str -> Addr
 L : Str -> Addr
 role : Addr -> Option Role
structure St where
 order : List Str
 np : Str -> Int
 su : Str -> List Str
 rd : Option (List Str)
 po : Int
 nf : Int
def eZ : List Str := [q "_node2info", q "_ready_nodes", q "_npassedout", q "_nfinished"]
def bs (a : Ad) (t : St) : Value := match t.rd with
 | some _ => .ref a.R
 | none => .none
structure SAt (w : World) (g h : Heap) (a : Ad) (t : St) : Prop where
 s : h.get? a.S = some (instObj 1213 a.D)
 d : ∃ m, NsN h a.D m 4 ∧ m (q "_node2info") = some (.ref a.N) ∧ m (q "_ready_nodes") = some (bs a t) ∧ (∃ k, m (q "_npassedout") = some (.int t.po k)) ∧ (∃ k, m (q "_nfinished") = some (.int t.nf k)) ∧ ∀ y, y ∉ eZ -> m y = none
 n : h.DictOf (sK w) a.N (t.order.map fun x => (x, .ref (a.I x)))
 i : ∀ x ∈ t.order, jE h (a.I x) (a.X x) x (t.np x) (a.L x)
 l : ∀ x ∈ t.order, IsL sOf h (a.L x) (t.su x)
 r : ∀ rl, t.rd = some rl -> IsL sOf h a.R rl
 rs : a.role a.S = some .s
 rd : a.role a.D = some .d
 rn : a.role a.N = some .n
 rr : t.rd ≠ none -> a.role a.R = some .r
 ri : ∀ x ∈ t.order, a.role (a.I x) = some (.i x)
 rx : ∀ x ∈ t.order, a.role (a.X x) = some (.x x)
 rl : ∀ x ∈ t.order, a.role (a.L x) = some (.l x)
 live : ∀ b, a.role b ≠ none -> (∃ o, h.get? b = some o) ∧ g.get? b = none
 nb : (a.N == sysModules) = false
def be (a : Ad) (h h' : Heap) : Prop := ∀ b o, a.role b = none -> h.get? b = some o -> h'.get? b = some o
theorem be.trans {a : Ad} {x y z : Heap} (h : be a x y) (k : be a y z) : be a x z := fun b o n e => k b o n (h b o n e)
theorem Ext.kept {a : Ad} {h h' : Heap} (x : Ext h h') : be a h h' := fun b o _ e => x b o e
def bt (a a' : Ad) (h : Heap) : Prop := (∀ b, a.role b ≠ none -> a'.role b = a.role b) ∧ ∀ b, a'.role b ≠ none -> a.role b ≠ none ∨ @LE.le Nat _ h.objs.size b
theorem bt.refl (a : Ad) (h : Heap) : bt a a h := ⟨fun _ _ => rfl, fun _ x => .inl x⟩
section
variable {w : World} {g h h' : Heap} {a : Ad} {t : St}
theorem cX {b c : Addr} {r r' : Role} (hb : a.role b = some r) (hc : a.role c = some r') (hn : r ≠ r') : b ≠ c := fun e => by rw [e, hc] at hb; exact hn (Bk hb).symm
theorem SAt.move (x : SAt w g h a t) (k : ∀ b o, a.role b ≠ none -> h.get? b = some o -> h'.get? b = some o) : SAt w g h' a t where
 s := k _ _ (by rw [x.rs]; simp) x.s
 d := let ⟨m, hm, r⟩ := x.d; ⟨m, hm.at fun o e => k _ o (by rw [x.rd]; simp) e, r⟩
 n := x.n.at fun o e => k _ o (by rw [x.rn]; simp) e
 i := fun y hy => (x.i y hy).at (fun o e => k _ o (by rw [x.ri y hy]; simp) e) fun o e => k _ o (by rw [x.rx y hy]; simp) e
 l := fun y hy => (x.l y hy).at fun o e => k _ o (by rw [x.rl y hy]; simp) e
 r := fun rl hr => (x.r rl hr).at fun o e => k _ o (by rw [x.rr (by rw [hr]; simp)]; simp) e
 rs := x.rs
 rd := x.rd
 rn := x.rn
 rr := x.rr
 ri := x.ri
 rx := x.rx
 rl := x.rl
 live := fun b hb => ⟨let ⟨o, e⟩ := (x.live b hb).1; ⟨o, k b o hb e⟩, (x.live b hb).2⟩
 nb := x.nb
theorem SAt.ext (x : SAt w g h a t) (e : Ext h h') : SAt w g h' a t := x.move fun b o _ z => e b o z
theorem SAt.sb {b : Addr} (x : SAt w g h a t) (hs : Heap.SameBut b h h') (hb : a.role b = none) : SAt w g h' a t := x.move fun c o hc e => hs.extBut c o (fun q => hc (q ▸ hb)) e
theorem SAt.none_of (x : SAt w g h a t) {b : Addr} (hb : h.get? b = none) : a.role b = none := by
 cases e : a.role b with
 | none => rfl
 | some r => obtain ⟨o, ho⟩ := (x.live b (by rw [e]; simp)).1; rw [hb] at ho; cases ho
theorem SAt.none_g (x : SAt w g h a t) {b : Addr} {o : Obj} (hb : g.get? b = some o) : a.role b = none := by
 cases e : a.role b with
 | none => rfl
 | some r => have := (x.live b (by rw [e]; simp)).2; rw [hb] at this; cases this
theorem bH {b : Addr} {r : Role} (hs : Heap.SameBut b h h') (hb : a.role b = some r) : be a h h' := fun c o hc e => hs.extBut c o (fun q => by rw [q, hb] at hc; cases hc) e
theorem SAt.setNp (x : SAt w g h a t) {y : Str} {v : Int} (hy : y ∈ t.order) (hs : Heap.SameBut (a.I y) h h') (hi : jE h' (a.I y) (a.X y) y v (a.L y)) :
  SAt w g h' a { t with np := fun z => if z = y then v else t.np z } := by
 have key : ∀ b o, a.role b ≠ some (.i y) -> h.get? b = some o -> h'.get? b = some o := fun b o hn e => hs.extBut b o (fun q => hn (q ▸ x.ri y hy)) e
 refine ⟨key _ _ (by rw [x.rs]; simp) x.s, ?_, x.n.at fun o e => key _ o (by rw [x.rn]; simp) e, ?_, fun z hz => (x.l z hz).at fun o e => key _ o (by rw [x.rl z hz]; simp) e, fun rl hr => (x.r rl hr).at fun o e => key _ o (by rw [x.rr (by rw [show t.rd = some rl from hr]; simp)]; simp) e,
  x.rs, x.rd, x.rn, x.rr, x.ri, x.rx, x.rl, ?_, x.nb⟩
 ·refine ag x.d fun m hm r => ?_
  exact ⟨m, hm.at fun o e => key _ o (by rw [x.rd]; simp) e, r⟩
 ·intro z hz
  by_cases e : z = y
  ·subst e; simpa using hi
  ·simp only [if_neg e]
   exact (x.i z hz).at (fun o q => key _ o (by rw [x.ri z hz]; simpa using e) q) fun o q => key _ o (by rw [x.rx z hz]; simp) q
 ·intro b hb
  refine ⟨?_, (x.live b hb).2⟩
  by_cases e : b = a.I y
  ·subst e; obtain ⟨tc, tn, S⟩ := hi; exact ⟨_, S.obj⟩
  ·refine ah ((x.live b hb).1) fun o ho => ?_
   exact ⟨o, hs.extBut b o e ho⟩
theorem SAt.setSu (x : SAt w g h a t) {y : Str} {v : List Str} (hy : y ∈ t.order) (hs : Heap.SameBut (a.L y) h h') (hl : IsL sOf h' (a.L y) v) :
  SAt w g h' a { t with su := fun z => if z = y then v else t.su z } := by
 have key : ∀ b o, a.role b ≠ some (.l y) -> h.get? b = some o -> h'.get? b = some o := fun b o hn e => hs.extBut b o (fun q => hn (q ▸ x.rl y hy)) e
 refine ⟨key _ _ (by rw [x.rs]; simp) x.s, ?_, x.n.at fun o e => key _ o (by rw [x.rn]; simp) e, fun z hz => (x.i z hz).at (fun o q => key _ o (by rw [x.ri z hz]; simp) q) fun o q => key _ o (by rw [x.rx z hz]; simp) q, ?_, fun rl hr => (x.r rl hr).at fun o e => key _ o (by rw [x.rr (by rw [show t.rd = some rl from hr]; simp)]; simp) e,
  x.rs, x.rd, x.rn, x.rr, x.ri, x.rx, x.rl, ?_, x.nb⟩
 ·refine ag x.d fun m hm r => ?_
  exact ⟨m, hm.at fun o e => key _ o (by rw [x.rd]; simp) e, r⟩
 ·intro z hz
  by_cases e : z = y
  ·subst e; simpa using hl
  ·simp only [if_neg e]
   exact (x.l z hz).at fun o q => key _ o (by rw [x.rl z hz]; simpa using e) q
 ·intro b hb
  refine ⟨?_, (x.live b hb).2⟩
  by_cases e : b = a.L y
  ·subst e; exact hl.ex
  ·refine ah ((x.live b hb).1) fun o ho => ?_
   exact ⟨o, hs.extBut b o e ho⟩
theorem SAt.setRd (x : SAt w g h a t) {rl v : List Str} (hr : t.rd = some rl) (hs : Heap.SameBut a.R h h') (hl : IsL sOf h' a.R v) :
  SAt w g h' a { t with rd := some v } := by
 have hR : a.role a.R = some .r := x.rr (by rw [hr]; simp)
 have key : ∀ b o, a.role b ≠ some .r -> h.get? b = some o -> h'.get? b = some o := fun b o hn e => hs.extBut b o (fun q => hn (q ▸ hR)) e
 refine ⟨key _ _ (by rw [x.rs]; simp) x.s, ?_, x.n.at fun o e => key _ o (by rw [x.rn]; simp) e, fun z hz => (x.i z hz).at (fun o q => key _ o (by rw [x.ri z hz]; simp) q) fun o q => key _ o (by rw [x.rx z hz]; simp) q, fun z hz => (x.l z hz).at fun o q => key _ o (by rw [x.rl z hz]; simp) q, fun rl hr => by cases hr; exact hl,
  x.rs, x.rd, x.rn, fun _ => hR, x.ri, x.rx, x.rl, ?_, x.nb⟩
 ·refine cC x.d fun m hm r1 r2 r => ?_
  refine ⟨m, hm.at fun o e => key _ o (by rw [x.rd]; simp) e, r1, ?_, r⟩
  rw [r2]; simp only [bs, hr]
 ·intro b hb
  refine ⟨?_, (x.live b hb).2⟩
  by_cases e : b = a.R
  ·subst e; exact hl.ex
  ·refine ah ((x.live b hb).1) fun o ho => ?_
   exact ⟨o, hs.extBut b o e ho⟩
end
end
section
section
variable {w : World} {g h h' : Heap} {a : Ad} {t : St}
theorem SAt.setD {x : SAt w g h a t} {m : Str -> Option Value} {t' : St} (hs : Heap.SameBut a.D h h') (hm : NsN h' a.D m 4) (ho : t'.order = t.order) (hnp : t'.np = t.np) (hsu : t'.su = t.su) (hr : ∀ rl, t'.rd = some rl -> t.rd = some rl)
  (hf : m (q "_node2info") = some (.ref a.N) ∧ m (q "_ready_nodes") = some (bs a t') ∧ (∃ k, m (q "_npassedout") = some (.int t'.po k)) ∧ (∃ k, m (q "_nfinished") = some (.int t'.nf k)) ∧ ∀ y, y ∉ eZ -> m y = none) :
  SAt w g h' a t' := by
 have key : ∀ b o, a.role b ≠ some .d -> h.get? b = some o -> h'.get? b = some o := fun b o hn e => hs.extBut b o (fun q => hn (q ▸ x.rd)) e
 refine ⟨key _ _ (by rw [x.rs]; simp) x.s, ⟨m, hm, hf⟩, ?_, ?_, ?_, ?_, x.rs, x.rd, x.rn, ?_, ?_, ?_, ?_, ?_, x.nb⟩
 ·rw [ho]; exact x.n.at fun o e => key _ o (by rw [x.rn]; simp) e
 ·rw [ho, hnp]; exact fun z hz => (x.i z hz).at (fun o q => key _ o (by rw [x.ri z hz]; simp) q) fun o q => key _ o (by rw [x.rx z hz]; simp) q
 ·rw [ho, hsu]; exact fun z hz => (x.l z hz).at fun o q => key _ o (by rw [x.rl z hz]; simp) q
 ·exact fun rl e => (x.r rl (hr rl e)).at fun o q => key _ o (by rw [x.rr (by rw [hr rl e]; simp)]; simp) q
 ·intro e
  cases hh : t'.rd with
  | none => exact absurd hh e
  | some rl => exact x.rr (by rw [hr rl hh]; simp)
 ·rw [ho]; exact x.ri
 ·rw [ho]; exact x.rx
 ·rw [ho]; exact x.rl
 ·intro b hb
  refine ⟨?_, (x.live b hb).2⟩
  by_cases e : b = a.D
  ·subst e; obtain ⟨o, _, _, ho, _⟩ := hm; exact ⟨o, ho⟩
  ·refine ah ((x.live b hb).1) fun o ho => ?_
   exact ⟨o, hs.extBut b o e ho⟩
def Ad.node (a : Ad) (y : Str) (ix xx lx : Addr) : Ad := { a with
 I := fun z => if z = y then ix else a.I z
 X := fun z => if z = y then xx else a.X z
 L := fun z => if z = y then lx else a.L z
 role := fun b => if b = ix then some (.i y) else if b = xx then some (.x y) else if b = lx then some (.l y) else a.role b }
def St.node (t : St) (y : Str) : St := { t with order := t.order ++ [y], np := fun z => if z = y then 0 else t.np z, su := fun z => if z = y then [] else t.su z }
theorem je {y : Str} {ix xx lx : Addr} {h₀ : Heap} (x : SAt w g h₀ a t) (h1 : @LE.le Nat _ h₀.objs.size ix) (h2 : @LE.le Nat _ h₀.objs.size xx) (h3 : @LE.le Nat _ h₀.objs.size lx) : bt a (a.node y ix xx lx) h₀ := by
 refine ⟨fun b hb => ?_, fun b hb => ?_⟩
 ·have n1 : b ≠ ix := fun e => hb (e ▸ x.none_of (av h1))
  have n2 : b ≠ xx := fun e => hb (e ▸ x.none_of (av h2))
  have n3 : b ≠ lx := fun e => hb (e ▸ x.none_of (av h3))
  simp only [Ad.node, if_neg n1, if_neg n2, if_neg n3]
 ·by_cases e1 : b = ix
  ·exact .inr (e1 ▸ h1)
  ·by_cases e2 : b = xx
   ·exact .inr (e2 ▸ h2)
   ·by_cases e3 : b = lx
    ·exact .inr (e3 ▸ h3)
    ·simp only [Ad.node, if_neg e1, if_neg e2, if_neg e3] at hb
     exact .inl hb
theorem SAt.addNode {h₀ h_1 : Heap} (x : SAt w g h₀ a t) {y : Str} {ix xx lx : Addr} (hy : y ∉ t.order) (k_1 : Ext h₀ h_1) (gk : Ext g h₀) (f1 : h₀.get? ix = none) (f2 : h₀.get? xx = none) (f3 : h₀.get? lx = none) (hi : jE h_1 ix xx y 0 lx) (hl : IsL sOf h_1 lx [])
  (hs : Heap.SameBut a.N h_1 h') (hn : h'.DictOf (sK w) a.N (t.order.map (fun x => (x, .ref (a.I x))) ++ [(y, .ref ix)])) : SAt w g h' (a.node y ix xx lx) (t.node y) := by
 have x_1 := x.ext k_1
 have n1 : a.role ix = none := x.none_of f1
 have n2 : a.role xx = none := x.none_of f2
 have n3 : a.role lx = none := x.none_of f3
 refine aB (id hi) fun tc tn S => ?_
 have d12 : xx ≠ ix := S.ne
 have d13 : lx ≠ ix := fun e => by obtain ⟨_, ⟨_, z⟩, _⟩ := hl; have := S.obj; rw [<- e, z] at this; cases this
 have d23 : lx ≠ xx := fun e => by obtain ⟨_, ⟨_, z⟩, _⟩ := hl; have := S.dict; rw [<- e, z] at this; exact absurd (congrArg Obj.data (Bk this)) (fun q => by cases q)
 have nN : ∀ b, a.role b = none -> b ≠ a.N := fun b hb e => by rw [e, x.rn] at hb; cases hb
 have key : ∀ b o, b ≠ a.N -> h_1.get? b = some o -> h'.get? b = some o := fun b o hn e => hs.extBut b o hn e
 have old : ∀ b r, a.role b = some r -> (a.node y ix xx lx).role b = some r := fun b r e => by
  have m1 : b ≠ ix := fun q => by rw [q, n1] at e; cases e
  have m2 : b ≠ xx := fun q => by rw [q, n2] at e; cases e
  have m3 : b ≠ lx := fun q => by rw [q, n3] at e; cases e
  simp only [Ad.node, if_neg m1, if_neg m2, if_neg m3, e]
 have ine : ∀ z ∈ t.order, z ≠ y := fun z hz e => hy (e ▸ hz)
 have mem : ∀ z ∈ (t.node y).order, z ∈ t.order ∨ z = y := fun z hz => (Au.mp hz).imp id fun h => Ac.mp h
 refine ⟨key _ _ (cX x.rs x.rn (by simp)) x_1.s, ?_, ?_, ?_, ?_, ?_, old _ _ x.rs, old _ _ x.rd, old _ _ x.rn, fun e => old _ _ (x.rr e), ?_, ?_, ?_, ?_, x.nb⟩
 ·refine ag x_1.d fun m hm r => ?_
  exact ⟨m, hm.at fun o e => key _ o (cX x.rd x.rn (by simp)) e, r⟩
 ·have e : ((t.node y).order.map fun x => (x, Value.ref ((a.node y ix xx lx).I x))) = t.order.map (fun x => (x, .ref (a.I x))) ++ [(y, .ref ix)] := by
   simp only [St.node, Ad.node, Ba, A2, Gv, if_true]
   congr 1
   refine List.map_congr_left fun z hz => ?_
   rw [if_neg (ine z hz)]
  rw [e]; exact hn
 ·intro z hz
  rcases mem z hz with hz | rfl
  ·simp only [St.node, Ad.node, if_neg (ine z hz)]
   exact (x_1.i z hz).at (fun o e => key _ o (cX (x.ri z hz) x.rn (by simp)) e) fun o e => key _ o (cX (x.rx z hz) x.rn (by simp)) e
  ·simp only [St.node, Ad.node, if_true]
   exact hi.at (fun o e => key _ o (nN _ n1) e) fun o e => key _ o (nN _ n2) e
 ·intro z hz
  rcases mem z hz with hz | rfl
  ·simp only [St.node, Ad.node, if_neg (ine z hz)]
   exact (x_1.l z hz).at fun o e => key _ o (cX (x.rl z hz) x.rn (by simp)) e
  ·simp only [St.node, Ad.node, if_true]
   exact hl.at fun o e => key _ o (nN _ n3) e
 ·exact fun rl hr => (x_1.r rl hr).at fun o e => key _ o (cX (x.rr (by rw [show t.rd = some rl from hr]; simp)) x.rn (by simp)) e
 ·intro z hz
  rcases mem z hz with hz | rfl
  ·simp only [Ad.node, if_neg (ine z hz)]
   exact old _ _ (x.ri z hz)
  ·simp only [Ad.node, if_true]
 ·intro z hz
  rcases mem z hz with hz | rfl
  ·simp only [Ad.node, if_neg (ine z hz)]
   exact old _ _ (x.rx z hz)
  ·simp only [Ad.node, if_true, if_neg d12]
 ·intro z hz
  rcases mem z hz with hz | rfl
  ·simp only [Ad.node, if_neg (ine z hz)]
   exact old _ _ (x.rl z hz)
  ·simp only [Ad.node, if_true, if_neg d13, if_neg d23]
 ·intro b hb
  by_cases e1 : b = ix
  ·subst e1; exact ⟨⟨_, key _ _ (nN _ n1) S.obj⟩, ap gk f1⟩
  ·by_cases e2 : b = xx
   ·subst e2; exact ⟨⟨_, key _ _ (nN _ n2) S.dict⟩, ap gk f2⟩
   ·by_cases e3 : b = lx
    ·subst e3; exact ⟨(hl.at fun o e => key _ o (nN _ n3) e).ex, ap gk f3⟩
    ·simp only [Ad.node, if_neg e1, if_neg e2, if_neg e3] at hb
     refine ⟨?_, (x.live b hb).2⟩
     by_cases e4 : b = a.N
     ·subst e4; obtain ⟨o, _, _, ho, _⟩ := hn; exact ⟨o, ho⟩
     ·refine ah ((x_1.live b hb).1) fun o ho => ?_
      exact ⟨o, key b o e4 ho⟩
end
end
section
theorem NsN.le {h : Heap} {a : Addr} {m : Str -> Option Value} {n n' : Nat} (x : NsN h a m n) (e : n ≤ n') : NsN h a m n' := let ⟨o, es, ep, a, b, c, d, z⟩ := x; ⟨o, es, ep, a, b, c, d, Ag z e⟩
section
variable {w : World} {A : Around} {E : Value -> Shared -> Prop} {s : Shared} {Q : Value -> Shared -> Prop}
abbrev vS : FuncData := fd (inC 50 0) "__init__" "TopologicalSorter.__init__" 3 [] (.ref 1142) .none .none (.str (q "cpy313.graphlib") 1763) none (.ref 1148) .none 0
def bS : St := ⟨[], fun _ => 0, fun _ => [], none, 0, 0⟩
theorem mT {k : Nat} {g : Heap} (R : ak A (k + 3)) (G : Gr w g) (O : Ext g s.heap)
  (hQ : ∀ h' tk' a, Ext s.heap h' -> SAt w g h' a bS -> (∀ b, a.role b ≠ none -> @LE.le Nat _ s.heap.objs.size b) -> Q (.ref a.S) { s with heap := h', toks := tk' }) :
  wpAny (MK w) A (call (.ref 1213) []) Q E s := by
 refine ud (fI := 1149) (G.ext O) ?_
 have hE : Ext s.heap ((s.heap.push emptyDict).push (instObj 1213 s.heap.objs.size)) := Ext.trans (ac _ _) (ac _ _)
 have I0 : fV ((s.heap.push emptyDict).push (instObj 1213 s.heap.objs.size)) (s.heap.objs.size + 1) 1213 s.heap.objs.size (fun _ => none) 0 :=
  ⟨by rw [<- A4 s.heap emptyDict]; exact Heap.get?_push_size _ rfl, ⟨_, #[], 0, Heap.get?_push_of_some _ (Heap.get?_push_size _ rfl), rfl, fun _ h => by simp at h, fun _ => rfl, Aw _⟩⟩
 have hsz : ((s.heap.push emptyDict).push (instObj 1213 s.heap.objs.size)).objs.size = s.heap.objs.size + 2 := by rw [A4, A4]
 generalize (s.heap.push emptyDict).push (instObj 1213 s.heap.objs.size) = h1 at *
 have G1 := (G.ext O).ext hE
 refine gS (binds := [(q "self", .ref (s.heap.objs.size + 1)), (q "graph", .none)]) (fd := vS) (R.under_make 1213 _) G1 rfl rfl rfl rfl (BindsTo.of_defaults rfl (G1.K 1142 _ rfl) rfl rfl rfl) (by decide) rfl ?_
 intro h2 n2 k2
 dsimp only at n2 k2
 have kd : ∀ {h h' : Heap}, Ext s.heap h -> Heap.SameBut s.heap.objs.size h h' -> Ext s.heap h' := fun e hs => aA e hs (ae _)
 have x2 := Ext.trans hE k2
 have I2 : fV h2 (s.heap.objs.size + 1) 1213 s.heap.objs.size (fun _ => none) 0 := ⟨k2 _ _ I0.obj, I0.ns.at fun o e => k2 _ o e⟩
 refine ad ?_
 intro Qb
 refine Ab ?_
 refine Bb ?_
 refine gT ?_
 intro h3 d3 k3
 dsimp only at d3 k3 ⊢
 have x3 := Ext.trans x2 k3
 have hn2 := n2.lt
 refine nmL (n2.keeps k3) rfl ?_
 refine i8 ((G.ext O).ext x3) ⟨k3 _ _ I2.obj, I2.ns.at fun o e => k3 _ o e⟩ (by decide) ?_
 intro h4 N4 s4
 have keepI : ∀ {h h' : Heap} {m m' : Str -> Option Value} {n n' : Nat}, fV h (s.heap.objs.size + 1) 1213 s.heap.objs.size m n -> Heap.SameBut s.heap.objs.size h h' -> NsN h' s.heap.objs.size m' n' -> fV h' (s.heap.objs.size + 1) 1213 s.heap.objs.size m' n' :=
  fun I hs N => ⟨hs.extBut _ _ (Nat.succ_ne_self _) I.obj, N⟩
 have I4 := keepI (m := fun _ => none) (n := 0) ⟨k3 _ _ I2.obj, I2.ns.at fun o e => k3 _ o e⟩ s4 N4
 have x4 := kd x3 s4
 have n4 := (n2.keeps k3).sameBut s4 (by rw [hsz]; k_ne)
 have hN : @LT.lt Nat _ (s.heap.objs.size + 2) h2.objs.size := by rw [<- hsz]; exact hn2
 have d4 : h4.DictOf (sK w) h2.objs.size [] := by
  refine ag (d3 Int iOf) fun vs d r => ?_
  cases vs with
  | nil => exact d.sameBut s4 (Dx (by show @LT.lt Nat _ _ _; omega))
  | cons _ _ => cases r
 clear N4 s4 k3 d3 I2 n2 x3
 refine ad ?_
 intro Qb
 refine Ab ?_
 refine Bb ?_
 refine Bs ?_
 refine nmL n4 rfl ?_
 refine i8 ((G.ext O).ext x4) I4 (Ag (Dq (m := 1) rfl) (by decide)) ?_
 intro h5 N5 s5
 have I5 := keepI I4 s5 N5
 have x5 := kd x4 s5
 have n5 := n4.sameBut s5 (by rw [hsz]; k_ne)
 have d5 := d4.sameBut s5 (Dx (by show @LT.lt Nat _ _ _; omega))
 refine ad ?_
 intro Qb
 refine Ab ?_
 refine Bb ?_
 refine Av ?_
 refine nmL n5 rfl ?_
 refine i8 ((G.ext O).ext x5) I5 (Ag (Dq (m := 2) rfl) (by decide)) ?_
 intro h6 N6 s6
 have I6 := keepI I5 s6 N6
 have x6 := kd x5 s6
 have n6 := n5.sameBut s6 (by rw [hsz]; k_ne)
 have d6 := d5.sameBut s6 (Dx (by show @LT.lt Nat _ _ _; omega))
 refine ad ?_
 intro Qb
 refine Ab ?_
 refine Bb ?_
 refine Av ?_
 refine nmL n6 rfl ?_
 refine i8 ((G.ext O).ext x6) I6 (Ag (Dq (m := 3) rfl) (by decide)) ?_
 intro h7 N7 s7
 have I7 := keepI I6 s7 N7
 have x7 := kd x6 s7
 have n7 := n6.sameBut s7 (by rw [hsz]; k_ne)
 have d7 := d6.sameBut s7 (Dx (by show @LT.lt Nat _ _ _; omega))
 refine ad ?_
 intro Qb
 refine Ab ?_
 refine ad ?_
 intro Qb
 refine B7 ?_
 refine Ao ?_
 refine nmL n7 rfl ?_
 refine Bs ?_
 refine wpAny_isNot_self rfl ?_
 refine Am ?_
 simp only [Al, Be]
 refine Ah ?_
 refine Ah ?_
 refine ⟨rfl, ?_⟩
 refine hQ h7 _ ⟨s.heap.objs.size + 1, s.heap.objs.size, h2.objs.size, 0, fun _ => 0, fun _ => 0, fun _ => 0, fun b => if b = s.heap.objs.size + 1 then some .s else if b = s.heap.objs.size then some .d else if b = h2.objs.size then some .n else none⟩ x7 ?_ ?_
 ·refine ⟨I7.obj, ⟨_, N7.le (Dq (m := 4) rfl), rfl, rfl, ⟨_, rfl⟩, ⟨_, rfl⟩, ?_⟩, d7, by simp [bS], by simp [bS], by simp [bS], ?_, ?_, ?_, by simp [bS], by simp [bS], by simp [bS], by simp [bS], ?_, (G.ext O).notMods (a := h2.objs.size) (by show @LE.le Nat _ _ _; omega)⟩
  ·intro y hy
   simp only [eZ, Ap, Bw, Gz, not_or] at hy
   refine dh hy fun a1 a2 a3 a4 => ?_
   clear hy
   simp only [if_neg a1, if_neg a2, if_neg a3, if_neg a4]
  ·simp
  ·have : s.heap.objs.size ≠ s.heap.objs.size + 1 := by k_ne
   simp [this]
  ·have e1 : h2.objs.size ≠ s.heap.objs.size + 1 := by k_ne
   have e2 : h2.objs.size ≠ s.heap.objs.size := by k_ne
   simp [e1, e2]
  ·intro b hb
   dsimp only at hb
   by_cases e1 : b = s.heap.objs.size + 1
   ·subst e1; exact ⟨⟨_, I7.obj⟩, ap O (av (B2 _))⟩
   ·by_cases e2 : b = s.heap.objs.size
    ·subst e2; obtain ⟨o, _, _, ho, _⟩ := N7; exact ⟨⟨o, ho⟩, ap O (ae _)⟩
    ·by_cases e3 : b = h2.objs.size
     ·subst e3; obtain ⟨o, _, _, ho, _⟩ := d7; exact ⟨⟨o, ho⟩, ap O (av (by show @LE.le Nat _ _ _; omega))⟩
     ·simp only [if_neg e1, if_neg e2, if_neg e3] at hb
      exact absurd rfl hb
 ·intro b hb
  dsimp only at hb
  by_cases e1 : b = s.heap.objs.size + 1
  ·subst e1; exact B2 _
  ·by_cases e2 : b = s.heap.objs.size
   ·subst e2; exact Aw _
   ·by_cases e3 : b = h2.objs.size
    ·subst e3; show @LE.le Nat _ _ _; omega
    ·simp only [if_neg e1, if_neg e2, if_neg e3] at hb
     exact absurd rfl hb
end
end
section
theorem bY (l : List Str) (I : Str -> Addr) (x : Str) : valueAt (l.map fun y => (y, Value.ref (I y))) x = if x ∈ l then some (.ref (I x)) else none := by
 induction l with
 | nil => rfl
 | cons y l ih =>
  simp only [valueAt, A2, List.find?_cons] at ih ⊢
  by_cases e : y = x
  ·subst e; simp
  ·have e' : ¬ x = y := fun h => e h.symm
   simp only [e, decide_false, ih, Ap, e', false_or]
theorem gI (l : List Str) (I : Str -> Addr) (x : Str) (v : Value) (hx : x ∉ l) : stored (l.map fun y => (y, Value.ref (I y))) x v = (l.map fun y => (y, Value.ref (I y))) ++ [(x, v)] := by
 unfold stored
 rw [if_neg]
 simp only [Gc, not_exists, not_and, A0, forall_exists_index, and_imp]
 rintro p y hy rfl e
 exact hx (by simpa using (Dz e) ▸ hy)
theorem jB {M : Model} {A : Around} {E : Value -> Shared -> Prop} {s : Shared} {env : Env} {o i : Expr} {pos : Pos} {v : Value} {Q : Unit -> Shared -> Prop}
  (h : wpAny M A (eval o env) (fun ov s_2 => wpAny M A (eval i env) (fun iv s_3 => wpAny M A (setItem ov iv v) (fun _ => Q ()) E s_3) E s_2) E s) : wpAny M A (assign (.Subscript o i pos) env v) Q E s := by
 rw [assign_Subscript]
 refine Aa (At (Aj h (fun ov s_2 h_2 => Aa (At (Aj h_2 (fun iv s_3 h_3 => Aa (Bz (Aa (At (Aj h_3 (fun _ s_4 h_4 => ?_) fun _ _ e => e))))) fun _ _ e => e))) fun _ _ e => e))
 exact fun Γ p hΓ => by rw [Sem.wp_release]; exact h_4
section
variable {w : World} {A : Around} {E : Value -> Shared -> Prop} {s : Shared} {Q : Value -> Shared -> Prop}
theorem SAt.inst {g h : Heap} {a : Ad} {t : St} (x : SAt w g h a t) : ∃ m, fV h a.S 1213 a.D m 4 ∧ m (q "_node2info") = some (.ref a.N) ∧ m (q "_ready_nodes") = some (bs a t) ∧ (∃ k, m (q "_npassedout") = some (.int t.po k)) ∧ (∃ k, m (q "_nfinished") = some (.int t.nf k)) ∧ ∀ y, y ∉ eZ -> m y = none :=
 let ⟨m, hm, r⟩ := x.d; ⟨m, ⟨x.s, hm⟩, r⟩
theorem cZ {env : Env} {pos np : Pos} {g : Heap} {a : Ad} {t : St} {L : Addr} {m : Str -> Option Value} (G : Gr w g) (O : Ext g s.heap) (x : SAt w g s.heap a t) (hn : s.heap.Ns L m) (hv : m (q "self") = some (.ref a.S))
  (h : ∀ tk, Q (.ref a.N) { s with toks := tk }) (hL : env.locals = L := by rfl) (hk : env.scope.kind = .function := by rfl) (hl : env.kindOf (q "self") = some .local := by rfl) :
  wpAny (MK w) A (eval (.Attribute (.Name (q "self") np) (q "_node2info") pos) env) Q E s := by
 refine aZ x.inst fun mm I h1 _ => ?_
 refine Bm ?_
 refine nmL hn hv ?_ hL hk hl
 exact fZ (G.ext O) I h1 rfl (h := h _)
abbrev ut : FuncData := fd (inC 50 1) "_get_nodeinfo" "TopologicalSorter._get_nodeinfo" 3 [] .none .none .none (.str (q "cpy313.graphlib") 1763) none (.ref 1155) .none 0
theorem iI {k : Nat} {g : Heap} {a : Ad} {t : St} (R : ak A (k + 4)) (G : Gr w g) (O : Ext g s.heap) (x : SAt w g s.heap a t) {S : Addr} (hS : a.S = S) {y : Str} {tk : Tok} (hlen : t.order.length ≤ 1000)
  (hQ : ∀ h' tk' a', SAt w g h' a' (if y ∈ t.order then t else t.node y) -> bt a a' s.heap -> a'.S = a.S -> be a s.heap h' -> Q (.ref (a'.I y)) { s with heap := h', toks := tk' }) :
  wpAny (MK w) A (call (.ref 1156) [.ref S, .str y tk]) Q E s := by
 subst hS
 refine dP (binds := [(q "self", .ref a.S), (q "node", .str y tk)]) (fd := ut) R (G.ext O) rfl rfl rfl rfl (Dy rfl) (by decide) rfl ?_
 intro h1 n1 k1
 have O1 := Ext.trans O k1
 have x1 := x.ext k1
 have hR := R.deeper (callEnv ut s.heap.objs.size 1156)
 refine ad ?_
 intro Qb
 refine Ab ?_
 refine ad ?_
 intro Qb
 refine B7 ?_
 refine Ao ?_
 refine wpAny_NamedExpr ?_
 refine ad ?_
 intro Qb
 refine Bc (pl := _) ?_
 refine cZ G O1 x1 n1 rfl ?_
 intro tk2
 refine Bi (s := { s with heap := h1, toks := tk2 }) x1.n.typeIs Gq PySem.F.slot_dict_get PySem.F.type_dict_get x1.n.mapOf.noDict ?_
 refine wpAny_dict_get1 (knd := sK w) (d := a.N) (x := eval _ _) x1.nb ?_
 refine nmL n1 rfl ?_
 refine EI2 y _ ⟨aM y tk, x1.n.mapOf, ?_⟩
 rw [bY]
 refine Ay ?_
 refine stL n1 fun h2 n2 s2 => ?_
 have nL : a.role s.heap.objs.size = none := x.none_of (ae _)
 have x2 := x1.sb s2 nL
 have O2 : Ext s.heap h2 := aA k1 s2 (ae _)
 refine Bs ?_
 by_cases hy : y ∈ t.order
 ·rw [if_pos hy] at *
  refine wpAny_is_other (by rfl) (by simp) ?_
  refine Am ?_
  simp only [Al, Be]
  refine Ah ?_
  refine Ab ?_
  refine Bu ?_
  refine nmL n2 rfl ?_
  exact hQ _ _ a x2 (bt.refl _ _) rfl (Ext.kept O2)
 ·rw [if_neg hy] at *
  refine wpAny_is_self (by rfl) ?_
  refine Am ?_
  simp only [if_true]
  have OG2 := Ext.trans O O2
  refine ad ?_
  intro Qb
  refine Ab ?_
  refine wpAny_Assign_two ?_
  refine eI (G.ext OG2) rfl rfl ?_
  refine Ak ?_
  refine nmL n2 rfl ?_
  refine An ⟨Ext.refl _, ?_⟩
  refine kl (k := k) hR (G.ext OG2) ?_
  intro h3 tk3 ix xx lx k3 hi hl f1 f2 f3
  dsimp only at k3 f1 f2 f3 ⊢
  refine jB ?_
  refine cZ G (Ext.trans OG2 k3) (x2.ext k3) (n2.keeps k3) rfl ?_
  intro tk4
  refine nmL (n2.keeps k3) rfl ?_
  refine wpAny_setItem_pairs (knd := sK w) (aM y tk) (x2.ext k3).n ?_ (by rw [Ai, Az]; exact vg hlen)
  intro h4 d4 s4
  rw [gI _ _ _ _ hy] at d4
  have x4 := x2.addNode hy k3 OG2 (av f1) (av f2) (av f3) hi hl s4 d4
  have gr := je (y := y) x2 f1 f2 f3
  have nLN : s.heap.objs.size ≠ a.N := fun e => by rw [e, x.rn] at nL; cases nL
  have n4 := (n2.keeps k3).sameBut s4 nLN
  refine Ay ?_
  refine stL n4 fun h5 n5 s5 => ?_
  have nL5 : (a.node y ix xx lx).role s.heap.objs.size = none := by
   cases e : (a.node y ix xx lx).role s.heap.objs.size with
   | none => rfl
   | some r => exact ((gr.2 _ (by rw [e]; simp)).elim (fun h => absurd nL h) fun h => absurd n2.lt (Bp.mpr h))
  have x5 := x4.sb s5 nL5
  refine Ah ?_
  refine Ab ?_
  refine Bu ?_
  refine nmL n5 rfl ?_
  have kp : be a s.heap h5 := fun b o hb e => by
   have hbN : b ≠ a.N := fun q => by rw [q, x.rn] at hb; cases hb
   exact s5.extBut b o (fun q => by rw [q, ae] at e; cases e) (s4.extBut b o hbN (k3 b o (O2 b o e)))
  have gr' : bt a (a.node y ix xx lx) s.heap := ⟨gr.1, fun b hb => (gr.2 b hb).imp id fun h => Ag (Bh n2.lt) h⟩
  have fin := fun tk => hQ h5 tk (a.node y ix xx lx) x5 gr' rfl kp
  have e : (a.node y ix xx lx).I y = ix := by simp [Ad.node]
  rw [e] at fin
  exact fin _
end
end
section
abbrev lU : FuncData := fd (inC 50 2) "add" "TopologicalSorter.add" 3 [] .none .none .none (.str (q "cpy313.graphlib") 1763) none (.ref 1162) .none 0
theorem kT (S : Addr) (y : Value) : ∀ (ps : List Value), ps.length ≤ 8 -> bindArgs lU ⟨.ref S :: y :: ps, []⟩ = (newTuple ps >>= fun t => pure [(q "self", .ref S), (q "node", y), (q "predecessors", t)])
 | [], _ => by rfl
 | [_], _ => by rfl
 | [_, _], _ => by rfl
 | [_, _, _], _ => by rfl
 | [_, _, _, _], _ => by rfl
 | [_, _, _, _, _], _ => by rfl
 | [_, _, _, _, _, _], _ => by rfl
 | [_, _, _, _, _, _, _], _ => by rfl
 | [_, _, _, _, _, _, _, _], _ => by rfl
 | _ :: _ :: _ :: _ :: _ :: _ :: _ :: _ :: _ :: _, h => by simp only [Bj] at h; omega
section
variable {w : World} {A : Around} {E : Value -> Shared -> Prop} {s : Shared}
theorem lX {RR : Result -> Shared -> Prop} {f : Addr} {o : Obj} {fd : FuncData} {body : List Stmt} {args : Args} {ps : List Value} {binds : Value -> List (Str × Value)} {k : Nat}
  (R : ak A k) (G : Gr w s.heap) (ho : (K w.params).lookup f = some o) (hdata : o.data = .func fd) (hcd : codeIn (K w.params) (fd.code) fd.qualname = true)
  (hbody : fd.body = .stmts body) (hbind : bindArgs fd args = (newTuple ps >>= fun t => pure (binds t))) (hps : ps.length ≤ 100) (hcell : ∀ x ∈ fd.scope.names, x.2 ≠ .cell) (hloc : ∀ t, ((binds t).all fun x => decide (fd.scope.names.lookup x.1 = some .local)) = true)
  (h : ∀ h₀ tk, h₀.Ns (s.heap.objs.size + 1) (fun x => (binds (.ref s.heap.objs.size)).reverse.lookup x) -> Ext s.heap h₀ -> h₀.get? s.heap.objs.size = some { cls := .type "tuple", data := .seq ps.toArray } ->
   wpAny (MK w) (A.deeper (callEnv fd (s.heap.objs.size + 1) f)) (execs body (callEnv fd (s.heap.objs.size + 1) f)) (fun fl s' => RR (.ok (.ret (match fl with | .ret v => v | _ => .none))) s') (fun _ _ => False) { s with heap := h₀, toks := tk })
  (hco : fd.scope.isCoroutine = false := by rfl) (hgen : fd.scope.isGenerator = false := by rfl) (hk : fd.scope.kind = .function := by rfl) :
  codeAny (MK w) A (.call (.ref f) args) RR s := by
 refine codeAny_call_function R.depth (G.K _ _ ho) hdata hco hgen hbody (codeRec_of G.K hcd) ?_
 rw [hbind]
 refine Aa (Dp (Ae ?_) (by show ps.toArray.size ≤ sizeLine; rw [List.size_toArray, Az]; exact mZ hps))
 have hsz : (s.heap.push { cls := .type "tuple", data := .seq ps.toArray }).objs.size = s.heap.objs.size + 1 := A4 ..
 have e1 : Ext s.heap (s.heap.push { cls := .type "tuple", data := .seq ps.toArray }) := ac _ _
 have t1 : (s.heap.push { cls := .type "tuple", data := .seq ps.toArray }).get? s.heap.objs.size = some { cls := .type "tuple", data := .seq ps.toArray } := Heap.get?_push_size _ rfl
 generalize s.heap.push { cls := .type "tuple", dict := none, data := .seq ps.toArray, slots := #[] } = hp at *
 refine wpAny_newFunctionEnv hcell (locs (hloc _)) (fun h₀ hnsA hsbA => ?_) hk
 dsimp only at hnsA hsbA ⊢
 rw [hsz] at hnsA hsbA ⊢
 have e2 : Ext hp h₀ := fun b o e => hsbA.extBut b o (fun q => by have := A5 e; rw [hsz, q] at this; exact A9 _ this) (Heap.get?_push_of_some _ e)
 have e3 : Ext s.heap h₀ := Ext.trans e1 e2
 refine ⟨(G.ext e3).lim, codeAny_func (Aj (h h₀ _ hnsA e3 (e2 _ _ t1)) (fun _ _ q => q) fun _ _ e => e.elim)⟩
end
end
section
def aw (t : St) (y : Str) : St := if y ∈ t.order then t else t.node y
def aD (t : St) (y : Str) (v : Int) : St := { t with np := fun z => if z = y then v else t.np z }
def oj (t : St) (y : Str) (v : List Str) : St := { t with su := fun z => if z = y then v else t.su z }
def aH (y : Str) (t : St) (p : Str) : St := oj (aw t p) p ((aw t p).su p ++ [y])
def iT (t : St) (y : Str) (ps : List Str) : St := ps.foldl (aH y) (aD (aw t y) y ((aw t y).np y + ps.length))
theorem bt.trans {a b c : Ad} {h h' : Heap} (x : bt a b h) (k : @LE.le Nat _ h.objs.size h'.objs.size) (y : bt b c h') : bt a c h := by
 refine ⟨fun z hz => ?_, fun z hz => ?_⟩
 ·have e := x.1 z hz
  rw [y.1 z (by rw [e]; exact hz), e]
 ·rcases y.2 z hz with e | e
  ·exact x.2 z e
  ·exact .inr (Ag k e)
theorem bt.none {a b : Ad} {h : Heap} (g : bt a b h) {z : Addr} (hz : a.role z = none) (e : @LT.lt Nat _ z h.objs.size) : b.role z = none := by
 cases hr : b.role z with
 | none => rfl
 | some r => exact (g.2 z (by rw [hr]; simp)).elim (fun q => absurd hz q) fun q => absurd e (Bp.mpr q)
theorem be.then_ {a b : Ad} {h h' h'' : Heap} (x : be a h h') (g : bt a b h) (y : be b h' h'') : be a h h'' := fun z o hz e => y z o (g.none hz (A5 e)) (x z o hz e)
theorem dU (t : St) (y : Str) : y ∈ (aw t y).order := by
 unfold aw; split
 ·assumption
 ·simp [St.node]
theorem gj (t : St) (y : Str) : (aw t y).order.length ≤ t.order.length + 1 := by
 unfold aw; split
 ·exact om6
 ·simp [St.node]
theorem eR {n : Nat} {t : St} {y : Str} (h : ∀ x ∈ t.order, (t.su x).length ≤ n) : ∀ x ∈ (aw t y).order, ((aw t y).su x).length ≤ n := by
 unfold aw; split
 ·exact h
 ·intro x hx
  simp only [St.node] at hx ⊢
  by_cases e : x = y
  ·simp [e]
  ·simp only [if_neg e]
   exact h x ((Au.mp hx).elim id fun q => absurd (Ac.mp q) e)
theorem mX {n : Nat} {t : St} {y p : Str} (h : ∀ x ∈ t.order, (t.su x).length ≤ n) : ∀ x ∈ (aH y t p).order, ((aH y t p).su x).length ≤ n + 1 := by
 intro x hx
 have h' := eR (y := p) h
 show (if x = p then (aw t p).su p ++ [y] else (aw t p).su x).length ≤ n + 1
 by_cases e : x = p
 ·rw [if_pos e, A3]
  have := h' p (dU t p)
  simp only [Dd]; exact qw this
 ·rw [if_neg e]
  have := h' x hx
  exact qu this
section
variable {w : World} {A : Around} {E : Value -> Shared -> Prop} {s : Shared} {Q : Value -> Shared -> Prop}
theorem vX {RR : Result -> Shared -> Prop} {k : Nat} {g : Heap} {a : Ad} {t : St} (R : ak A (k + 6)) (G : Gr w g) (O : Ext g s.heap) (x : SAt w g s.heap a t) (hrd : t.rd = none) {y : Str} {tk : Tok} {vs : List Value} {ps : List Str} (hv : vs.map sOf = ps.map some) (hps : ps.length ≤ 8) (hlen : t.order.length ≤ 100) (hsu : ∀ x ∈ t.order, (t.su x).length ≤ 100)
  (hQ : ∀ h' tk' a', SAt w g h' a' (iT t y ps) -> bt a a' s.heap -> a'.S = a.S -> be a s.heap h' -> RR (.ok (.ret .none)) { s with heap := h', toks := tk' }) :
  codeAny (MK w) A (.call (.ref 1163) ⟨.ref a.S :: .str y tk :: vs, []⟩) RR s := by
 have hvl := congrArg List.length hv
 simp only [Ai] at hvl
 refine lX (fd := lU) (ps := vs) (binds := fun t => [(q "self", .ref a.S), (q "node", .str y tk), (q "predecessors", t)]) R (G.ext O) rfl rfl rfl rfl (kT _ _ vs ((sE hps hvl))) ((sH hps hvl)) (by decide) (fun _ => rfl) ?_
 intro h1 tk1 n1 k1 t1
 try dsimp only
 have hR := R.deeper (callEnv lU (s.heap.objs.size + 1) 1163)
 have fL : s.heap.get? (s.heap.objs.size + 1) = none := av (B2 _)
 have gL : g.get? (s.heap.objs.size + 1) = none := ap O fL
 have z1 : @LE.le Nat _ s.heap.objs.size h1.objs.size := Bh (A5 t1)
 have x1 := x.ext k1
 have O1 := Ext.trans O k1
 have nL : a.role (s.heap.objs.size + 1) = none := x.none_of (av (B2 _))
 have nT : a.role s.heap.objs.size = none := x.none_of (ae _)
 refine ad ?_
 intro Qb
 refine Ab ?_
 refine ad ?_
 intro Qb
 refine B7 ?_
 refine Ao ?_
 refine cC x1.inst fun mm I d1 d2 d3 => ?_
 refine ad ?_
 intro Qb
 refine Bm ?_
 refine nmL n1 rfl ?_
 refine fZ (G.ext O1) I d2 (by rw [bs, hrd]; rfl) (h := ?_)
 refine Bs ?_
 have hv0 : bs a t = .none := by rw [bs, hrd]
 rw [hv0]
 refine wpAny_isNot_self rfl ?_
 refine Am ?_
 simp only [Al, Be]
 refine Ah ?_
 refine ad ?_
 intro Qb
 refine Ab ?_
 refine ad ?_
 intro Qb
 refine Aq ?_
 refine ad ?_
 intro Qb
 refine Bc (pl := _) ?_
 refine nmL n1 rfl ?_
 refine jh (s := { s with heap := h1, toks := _ }) (f := 1156) (G.ext O1) I (d3.2.2 _ (by decide)) ?_
 refine callWith_K (G.ext O1).K rfl ?_
 refine Ak ?_
 refine nmL n1 rfl ?_
 refine An ⟨(G.ext O1).K, ?_⟩
 refine iI (k := k + 1) hR G O1 x1 rfl ((vh hlen)) ?_
 intro h2 tk2 a2 x2 g2 S2 k2
 dsimp only at g2 k2 ⊢
 have g2' : bt a a2 s.heap := (bt.refl a s.heap).trans z1 g2
 have kp2 : be a s.heap h2 := (Ext.kept k1).trans k2
 have O2 : Ext g h2 := fun b o e => k2 b o (x.none_g e) (O1 b o e)
 have nL2 : a2.role (s.heap.objs.size + 1) = none := by exact g2.none nL n1.lt
 have nT2 : a2.role s.heap.objs.size = none := g2.none nT (A5 t1)
 have n2 : h2.Ns (s.heap.objs.size + 1) _ := n1.at' fun o e => k2 _ o nL e
 have t2 := k2 _ _ nT t1
 refine stL n2 fun h3 n3 s3 => ?_
 have x3 := x2.sb s3 nL2
 have O3 : Ext g h3 := fun b o e => s3.extBut b o (fun q => by rw [q, gL] at e; cases e) (O2 b o e)
 have t3 : h3.get? s.heap.objs.size = _ := s3.extBut _ _ (by k_ne) t2
 have kp3 : be a s.heap h3 := fun b o hb e => s3.extBut b o (fun q => by rw [q, fL] at e; cases e) (kp2 b o hb e)
 clear n2 t2 x2 n1 t1 I d1 d2 d3 s3 k2
 have hT : (if y ∈ t.order then t else t.node y) = aw t y := rfl
 rw [hT] at x3
 have ym : y ∈ (aw t y).order := dU t y
 refine ad ?_
 intro Qb
 refine Ab ?_
 refine Gy ?_
 refine nmL n3 rfl ?_
 refine aB (x3.i y ym) fun tc tn Sl => ?_
 refine gR (i := 1) (G.ext O3) Sl rfl rfl (h := ?_)
 refine ad ?_
 intro Qb
 refine bE (G.ext O3) rfl rfl ?_
 refine Ak ?_
 refine nmL n3 rfl ?_
 refine An ?_
 refine P.len_tuple (items := vs.toArray) (n := 0) t3 (by rw [List.size_toArray]; omega) ?_
 refine P.iadd_int ?_
 refine i7 (s := { s with heap := h3, toks := _ }) (i := 1) (G.ext O3) Sl (by decide) ?_
 intro h4 S4 s4
 have x4 := x3.setNp ym s4 ⟨tc, _, S4⟩
 have nLI : s.heap.objs.size + 1 ≠ a2.I y := fun e => by rw [e, x3.ri y ym] at nL2; cases nL2
 have nTI : s.heap.objs.size ≠ a2.I y := fun e => by rw [e, x3.ri y ym] at nT2; cases nT2
 have n4 := n3.sameBut s4 nLI
 have t4 : h4.get? s.heap.objs.size = _ := s4.extBut _ _ nTI t3
 have kp4 : be a s.heap h4 := kp3.then_ g2' (bH s4 (x3.ri y ym))
 have O4 : Ext g h4 := fun b o e => s4.extBut b o (fun q => by have := x3.none_g e; rw [q, x3.ri y ym] at this; cases this) (O3 b o e)
 have hst : ({ aw t y with np := fun z => if z = y then (aw t y).np y + ((vs.toArray.size : Nat) : Int) else (aw t y).np z } : St) = aD (aw t y) y ((aw t y).np y + ps.length) := by
  simp only [aD, List.size_toArray, hvl]
 rw [hst] at x4
 have olen : (aD (aw t y) y ((aw t y).np y + ps.length)).order.length ≤ 101 := by
  have := gj t y
  show (aw t y).order.length ≤ 101
  exact sP hlen this
 have osu : ∀ x ∈ (aD (aw t y) y ((aw t y).np y + ps.length)).order, ((aD (aw t y) y ((aw t y).np y + ps.length)).su x).length ≤ 100 := eR hsu
 generalize hA : aD (aw t y) y ((aw t y).np y + ps.length) = tA at *
 clear n3 t3 x3 kp3 O3 s4 S4 Sl hst
 refine ad ?_
 intro Qb
 refine Ab ?_
 refine ad ?_
 intro Qb
 refine FOR (k := sOf) ?_
 refine nmL n4 rfl ?_
 refine ad ?_
 intro Qb
 refine Aj (dY hR.h ⟨_, t4, rfl, 0, rfl⟩ (by simpa using hv)) ?_ (fun _ _ e => e)
 intro it s_2 h_2
 refine EI2 [s.heap.objs.size] ps ⟨h_2, ?_⟩
 intro fp wr hfp hfs hwr
 refine cB h_2 ?_
 clear h_2
 rintro _ _ _ _ _ _ rfl _ _ _ _ _ _ _ Z42
 refine aG Z42 ?_
 clear Z42
 rintro h5 tk5 rfl k5
 dsimp only at k5 hfs hfp hwr ⊢
 have rfp : ∀ b ∈ fp, a2.role b = none := fun b hb => (hfp b hb).elim (fun h => by rw [Ac.mp h]; exact nT2) fun e => x4.none_of e
 have Lfp : s.heap.objs.size + 1 ∉ fp := fun hb => (hfp _ hb).elim (fun h => by have := Ac.mp h; exact absurd this (by k_ne)) fun e => by obtain ⟨o, _, _, ho, _⟩ := n4; rw [show h4.get? (s.heap.objs.size + 1) = none from e] at ho; cases ho
 have wfp : ∀ b ∈ wr, b ∈ fp := fun b hb => (hwr b hb).1
 have old : ∀ b o, s.heap.get? b = some o -> a.role b = none -> b ∉ wr := fun b o e hb hw => by have := (hwr b hw).2; have z := kp4 b o hb e; rw [show h4.get? b = none from this] at z; cases z
 have gold : ∀ b o, g.get? b = some o -> b ∉ wr := fun b o e hw => by have := (hwr b hw).2; have z := O4 b o e; rw [show h4.get? b = none from this] at z; cases z
 refine ⟨fun i h => ∃ a', SAt w g h a' ((ps.take i).foldl (aH y) tA) ∧ bt a a' s.heap ∧ a'.S = a.S ∧ be a s.heap h ∧ Ext g h ∧ (∀ b ∈ fp, a'.role b = none) ∧ a'.role (s.heap.objs.size + 1) = none ∧ ((ps.take i).foldl (aH y) tA).order.length ≤ 101 + i ∧ (∀ x ∈ ((ps.take i).foldl (aH y) tA).order, (((ps.take i).foldl (aH y) tA).su x).length ≤ 100 + i) ∧
  ∃ m, h.Ns (s.heap.objs.size + 1) m ∧ m (q "self") = some (.ref a.S) ∧ m (q "node") = some (.str y tk), ?_, ?_, ?_, ?_⟩
 ·exact ⟨a2, x4.ext k5, g2', S2, kp4.trans (Ext.kept k5), Ext.trans O4 k5, rfp, nL2, by simpa using olen, by simpa using osu, _, n4.keeps k5, rfl, rfl⟩
 ·intro i h h' X1 hk
  refine mE X1 fun a' c1 c2 c3 c4 c5 c6 c7 c8 c12 Z43 => ?_
  clear X1
  refine aZ Z43 fun m c9 c10 c11 => ?_
  clear Z43
  exact ⟨a', c1.move (fun b o hb e => hk b o (fun hw => hb (c6 b (wfp b hw))) e), c2, c3, fun b o hb e => hk b o (old b o e hb) (c4 b o hb e), fun b o e => hk b o (gold b o e) (c5 b o e), c6, c7, c8, c12, m, c9.at' (fun o e => hk _ o (fun hw => Lfp (wfp _ hw)) e), c10, c11⟩
 ·intro i v p s' E' hc hv2 X2 hzl X3
  refine aB X2 ?_
  clear X2
  rintro h6 tk6 rfl
  refine mE X3 fun a' c1 c2 c3 c4 c5 c6 c7 c8 c12 Z44 => ?_
  clear X3
  refine aZ Z44 fun m c9 c10 c11 => ?_
  clear Z44
  try dsimp only
  have ctake := bh (aH y) tA ps i p hc
  generalize hT' : (ps.take i).foldl (aH y) tA = ti at *
  refine ah (ai hv2) ?_
  rintro tp rfl
  have hil : i < ps.length := (List.getElem?_eq_some_iff.mp hc).1
  refine Ae ?_
  refine Ay ?_
  refine stL c9 fun h7 n7 s7 => ?_
  have x7 := c1.sb s7 c7
  have O7 : Ext g h7 := fun b o e => s7.extBut b o (fun q => by rw [q, gL] at e; cases e) (c5 b o e)
  have kp7 : be a s.heap h7 := fun b o hb e => s7.extBut b o (fun q => by rw [q, fL] at e; cases e) (c4 b o hb e)
  have f7 : ∀ b ∈ fp, ∀ o, h6.get? b = some o -> h7.get? b = some o := fun b hb o e => s7.extBut b o (fun q => Lfp (q ▸ hb)) e
  have z7 : @LE.le Nat _ h5.objs.size h7.objs.size := by rw [s7.1]; exact hzl
  have z77 : @LE.le Nat _ s.heap.objs.size h7.objs.size := Bh (Gj (Do _) n7.lt)
  clear c1 c4 c5 c9 s7
  refine ad ?_
  intro Qb
  refine Ab ?_
  refine ad ?_
  intro Qb
  refine Aq ?_
  refine ad ?_
  intro Qb
  refine Bc (pl := _) ?_
  refine nmL n7 c10 ?_
  refine cC x7.inst fun mm7 I7 d1 d2 d3 => ?_
  rw [c3] at I7
  refine jh (s := { s with heap := h7, toks := _ }) (f := 1156) (G.ext O7) I7 (d3.2.2 _ (by decide)) ?_
  refine callWith_K (G.ext O7).K rfl ?_
  refine Ak ?_
  refine nmL n7 rfl ?_
  refine An ⟨(G.ext O7).K, ?_⟩
  refine iI (s := { s with heap := h7, toks := _ }) (k := k + 1) hR G O7 x7 c3 ((rK hps c8 hil)) ?_
  intro h8 tk8 a8 x8 g8 S8 k8
  dsimp only at g8 k8 ⊢
  have g8' : bt a a8 s.heap := c2.trans z77 g8
  have kp8 : be a s.heap h8 := kp7.then_ c2 k8
  have O8 : Ext g h8 := fun b o e => k8 b o (x7.none_g e) (O7 b o e)
  have nL8 : a8.role (s.heap.objs.size + 1) = none := g8.none c7 n7.lt
  have n8 : h8.Ns (s.heap.objs.size + 1) _ := n7.at' fun o e => k8 _ o c7 e
  have r8 : ∀ b ∈ fp, a8.role b = none := fun b hb => g8.none (c6 b hb) (Bq (hfs b hb) z7)
  have f8 : ∀ b ∈ fp, ∀ o, h6.get? b = some o -> h8.get? b = some o := fun b hb o e => k8 b o (c6 b hb) (f7 b hb o e)
  refine stL n8 fun h9 n9 s9 => ?_
  have x9 := x8.sb s9 nL8
  have hT2 : (if p ∈ ti.order then ti else ti.node p) = aw ti p := rfl
  rw [hT2] at x9
  have pm : p ∈ (aw ti p).order := dU ti p
  have O9 : Ext g h9 := fun b o e => s9.extBut b o (fun q => by rw [q, gL] at e; cases e) (O8 b o e)
  have kp9 : be a s.heap h9 := fun b o hb e => s9.extBut b o (fun q => by rw [q, fL] at e; cases e) (kp8 b o hb e)
  have f9 : ∀ b ∈ fp, ∀ o, h6.get? b = some o -> h9.get? b = some o := fun b hb o e => s9.extBut b o (fun q => Lfp (q ▸ hb)) (f8 b hb o e)
  clear n8 x8 O8 kp8 f8 s9 k8 n7 x7 I7 O7 kp7 f7
  refine ad ?_
  intro Qb
  refine Ab ?_
  refine Gm ?_
  refine ad ?_
  intro Qb
  refine Bc (pl := _) ?_
  refine ad ?_
  intro Qb
  refine Bm ?_
  refine nmL n9 rfl ?_
  refine aB (x9.i p pm) fun tc tn Sl => ?_
  refine gR (i := 2) (G.ext O9) Sl rfl rfl (h := ?_)
  refine ag (x9.l p pm) fun its pl9 ql9 => ?_
  refine Bi (T := "list") (id := "list.append") pl9.isList.typeIs Bn Go Gn (fun b e => by cases e; obtain ⟨nn, z⟩ := pl9; exact ⟨_, z, rfl⟩) ?_
  refine Gb ?_
  refine Ak ?_
  refine nmL n9 c11 ?_
  refine An ?_
  refine Dm pl9 ?_ (by
   have e1 := congrArg List.length ql9
   simp only [Ai, As] at e1
   have e2 := eR (y := p) c12 p pm
   rw [Az]; exact rj hps hil e1 e2)
  intro h10 pl10 s10
  have l10 : IsL sOf h10 (a8.L p) ((aw ti p).su p ++ [y]) := ⟨_, pl10, by rw [G7, Ba, ql9]; simp [sOf]⟩
  have x10 := x9.setSu pm s10 l10
  refine Ah ?_
  have nLI : s.heap.objs.size + 1 ≠ a8.L p := fun e => by rw [e, x9.rl p pm] at nL8; cases nL8
  refine ⟨Lk.of, ⟨a8, ?_, g8', S8.trans c3, kp9.then_ g8' (bH s10 (x9.rl p pm)), ?_, r8, nL8, ?_, (by rw [ctake]; exact mX c12), _, n9.sameBut s10 nLI, c10, c11⟩, ?_⟩
  ·rw [ctake]; exact x10
  ·exact fun b o e => s10.extBut b o (fun q => by have := x9.none_g e; rw [q, x9.rl p pm] at this; cases this) (O9 b o e)
  ·rw [ctake]
   have := gj ti p
   show (aw ti p).order.length ≤ _
   exact rO c8 this
  ·exact fun b hb o e => s10.extBut b o (fun q => by have := r8 b hb; rw [q, x9.rl p pm] at this; cases this) (f9 b hb o e)
 ·intro s' X4 hzl X5
  refine aB X4 ?_
  clear X4
  rintro h6 tk6 rfl
  refine mE X5 fun a' c1 c2 c3 c4 c5 c6 c7 c8 c12 Z45 => ?_
  clear X5
  refine aZ Z45 fun m c9 c10 c11 => ?_
  clear Z45
  try dsimp only
  rw [A7, <- hA] at c1
  refine Ah ?_
  exact hQ _ _ a' c1 c2 c3 c4
end
end
section
def cx (t : St) (l : List Str) : St := { t with np := fun z => if z ∈ l then -1 else t.np z }
def cQ (t : St) (l : List Str) : St := { cx t l with rd := some [], po := t.po + l.length }
theorem kj (t : St) : cx t [] = t := by simp [cx]
theorem jd (t : St) (l : List Str) (x : Str) : ({ cx t l with np := fun z => if z = x then -1 else (cx t l).np z } : St) = cx t (l ++ [x]) := by
 simp only [cx, St.mk.injEq, true_and, and_true]
 funext z
 by_cases e : z = x
 ·simp [e]
 ·by_cases e2 : z ∈ l <;> simp [e, e2]
theorem gm {α : Type} (l : List α) (i : Nat) (c : α) (h : l[i]? = some c) : l.take (i + 1) = l.take i ++ [c] := by rw [Dr, h]; rfl
section
variable {w : World} {A : Around} {E : Value -> Shared -> Prop} {s : Shared} {Q : Value -> Shared -> Prop}
theorem jD {g : Heap} {a : Ad} {t : St} {env : Env} {value slice : Expr} {pos : Pos}
  (h : wpAny (MK w) A (eval value env) (fun o s_1 => wpAny (MK w) A (eval slice env) (fun i s_2 => ∃ x tk, o = .ref a.N ∧ i = .str x tk ∧ x ∈ t.order ∧ SAt w g s_2.heap a t ∧ Q (.ref (a.I x)) { s_2 with toks := s_2.toks + 1 }) E s_1) E s)
  (hs : ∀ o x t, subscripted slice false (.ref o) (.str x t) = operate [.ref o, .str x t] (getItem (.ref o) (.str x t)) := by intro _ _ _; with_unfolding_all rfl) :
  wpAny (MK w) A (eval (.Subscript value slice pos) env) Q E s := by
 refine Dl (Aj h (fun o s_1 h_1 => Aj h_1 (fun i s_2 h_2 => ?_) fun _ _ e => e) fun _ _ e => e)
 refine nZ h_2 ?_
 clear h_2
 rintro x tk rfl rfl hx X hq
 exact tail_any X.n.typeIs slot_dict_getitem.lookup (wpAny_getItem_of (k := x) (aM x tk) X.n.mapOf (by rw [bY, if_pos hx]) hq) (hs _ _ _)
abbrev us : FuncData := fd (inC 50 4) "get_ready" "TopologicalSorter.get_ready" 3 [] .none .none .none (.str (q "cpy313.graphlib") 1763) none (.ref 1174) .none 0
theorem lu {k : Nat} {g : Heap} {a : Ad} {t : St} (R : ak A (k + 6)) (G : Gr w g) (O : Ext g s.heap) (x : SAt w g s.heap a t) {rl : List Str} (hrd : t.rd = some rl) (hrl : ∀ y ∈ rl, y ∈ t.order) (hlen : rl.length ≤ 100) {S : Addr} (hS : a.S = S)
  (hQ : ∀ h' tk' T vs, SAt w g h' a (cQ t rl) -> h'.get? T = some { cls := .type "tuple", data := .seq vs } -> vs.toList.map sOf = rl.map some -> a.role T = none -> s.heap.get? T = none -> be a s.heap h' -> Q (.ref T) { s with heap := h', toks := tk' }) :
  wpAny (MK w) A (call (.ref 1175) [.ref S]) Q E s := by
 subst hS
 refine dP (binds := [(q "self", .ref a.S)]) (fd := us) R (G.ext O) rfl rfl rfl rfl (Dy rfl) (by decide) rfl ?_
 intro h1 n1 k1
 have hR := R.deeper (callEnv us s.heap.objs.size 1175)
 have x1 := x.ext k1
 have O1 := Ext.trans O k1
 have nL : a.role s.heap.objs.size = none := x.none_of (ae _)
 have gL : g.get? s.heap.objs.size = none := ap O (ae _)
 have fL : s.heap.get? s.heap.objs.size = none := ae _
 refine cC x1.inst fun mm I d1 d2 d3 => ?_
 have hv0 : bs a t = .ref a.R := by rw [bs, hrd]
 rw [hv0] at d2
 refine ad ?_
 intro Qb
 refine Ab ?_
 refine ad ?_
 intro Qb
 refine B7 ?_
 refine Ao ?_
 refine Bm ?_
 refine nmL n1 rfl ?_
 refine fZ (G.ext O1) I d2 rfl (h := ?_)
 refine Bs ?_
 refine wpAny_is_other rfl (by simp) ?_
 refine Am ?_
 simp only [Al, Be]
 refine Ah ?_
 refine ad ?_
 intro Qb
 refine Ab ?_
 refine Aq ?_
 refine bX (G.ext O1) rfl rfl ?_
 refine Ak ?_
 refine Bm ?_
 refine nmL n1 rfl ?_
 refine fZ (s := { s with heap := h1, toks := _ }) (G.ext O1) I d2 rfl (h := ?_)
 refine An ?_
 refine ag (x1.r rl hrd) fun its pR qR => ?_
 have hil := congrArg List.length qR
 simp only [Ai, As] at hil
 refine call_tuple_list pR.isList ?_ (by rw [Az]; exact oQ hlen hil)
 intro h2 k2
 dsimp only at k2
 have k3 : Ext h1 (h2.push { cls := .type "tuple", data := .seq its }) := Ext.trans k2 (ac _ _)
 have t3 : (h2.push { cls := .type "tuple", data := .seq its }).get? h2.objs.size = some { cls := .type "tuple", data := .seq its } := Heap.get?_push_size _ rfl
 have fT : h1.get? h2.objs.size = none := ap k2 (ae _)
 generalize hH3 : h2.push { cls := .type "tuple", dict := none, data := .seq its, slots := #[] } = h3 at *
 generalize h2.objs.size = T at *
 have n3 := n1.keeps k3
 have hTL : T ≠ s.heap.objs.size := fun e => by obtain ⟨o, _, _, ho, _⟩ := n1; rw [<- e, fT] at ho; cases ho
 have nT : a.role T = none := x1.none_of fT
 refine stL n3 fun h4 n4 s4 => ?_
 have t4 := s4.extBut _ _ hTL t3
 have x4 := (x1.ext k3).sb s4 nL
 have O4 : Ext g h4 := fun b o e => s4.extBut b o (fun q => by rw [q, gL] at e; cases e) (k3 b o (O1 b o e))
 have kp4 : be a s.heap h4 := fun b o hb e => s4.extBut b o (fun q => by rw [q, fL] at e; cases e) (k3 b o (k1 b o e))
 have fT0 : s.heap.get? T = none := ap k1 fT
 have qR' : its.toList.map sOf = rl.map some := qR
 clear s4 t3 n3 k3 hH3 I d1 d2 d3 x1 O1 n1 k1 k2 pR qR fT
 refine ad ?_
 intro Qb
 refine Ab ?_
 refine Aq ?_
 refine cZ (s := { s with heap := h4, toks := _ }) G O4 x4 n4 rfl ?_
 intro tk5
 refine stL n4 fun h5 n5 s5 => ?_
 have t5 := s5.extBut _ _ hTL t4
 have x5 := x4.sb s5 nL
 have O5 : Ext g h5 := fun b o e => s5.extBut b o (fun q => by rw [q, gL] at e; cases e) (O4 b o e)
 have kp5 : be a s.heap h5 := fun b o hb e => s5.extBut b o (fun q => by rw [q, fL] at e; cases e) (kp4 b o hb e)
 clear s5 t4 x4 O4 kp4 n4
 refine ad ?_
 intro Qb
 refine Ab ?_
 refine ad ?_
 intro Qb
 refine FOR (k := sOf) ?_
 refine nmL n5 rfl ?_
 refine ad ?_
 intro Qb
 refine Aj (dY hR.h ⟨_, t5, rfl, 0, rfl⟩ qR') ?_ (fun _ _ e => e)
 intro it s_2 h_2
 refine EI2 [T] rl ⟨h_2, ?_⟩
 intro fp wr hfp hfs hwr
 refine cB h_2 ?_
 clear h_2
 rintro _ _ _ _ _ _ rfl _ _ _ _ _ _ _ Z29
 refine aG Z29 ?_
 clear Z29
 rintro h6 tk6 rfl k6
 dsimp only at k6 hfs hfp hwr ⊢
 have rfp : ∀ b ∈ fp, a.role b = none := fun b hb => (hfp b hb).elim (fun h => by rw [Ac.mp h]; exact nT) fun e => x5.none_of e
 have Lfp : s.heap.objs.size ∉ fp := fun hb => (hfp _ hb).elim (fun h => hTL (Ac.mp h).symm) fun e => by obtain ⟨o, _, _, ho, _⟩ := n5; rw [show h5.get? s.heap.objs.size = none from e] at ho; cases ho
 have wfp : ∀ b ∈ wr, b ∈ fp := fun b hb => (hwr b hb).1
 have old : ∀ b o, a.role b = none -> s.heap.get? b = some o -> b ∉ wr := fun b o hb e hw => by have := (hwr b hw).2; have z := kp5 b o hb e; rw [show h5.get? b = none from this] at z; cases z
 have gold : ∀ b o, g.get? b = some o -> b ∉ wr := fun b o e hw => by have := (hwr b hw).2; have z := O5 b o e; rw [show h5.get? b = none from this] at z; cases z
 have tw : T ∉ wr := fun hw => by have := (hwr _ hw).2; rw [show h5.get? T = none from this] at t5; cases t5
 refine ⟨fun i h => SAt w g h a (cx t (rl.take i)) ∧ be a s.heap h ∧ Ext g h ∧ h.get? T = some { cls := .type "tuple", data := .seq its } ∧
  ∃ m, h.Ns s.heap.objs.size m ∧ m (q "self") = some (.ref a.S) ∧ m (q "result") = some (.ref T) ∧ m (q "n2i") = some (.ref a.N), ?_, ?_, ?_, ?_⟩
 ·refine ⟨?_, kp5.trans (Ext.kept k6), Ext.trans O5 k6, k6 _ _ t5, _, n5.keeps k6, rfl, rfl, rfl⟩
  rw [List.take_zero, kj]; exact x5.ext k6
 ·intro i h h' X1 hk
  refine ce X1 fun c1 c2 c3 c4 Z30 => ?_
  clear X1
  refine cC Z30 fun m c5 c6 c7 c8 => ?_
  clear Z30
  exact ⟨c1.move (fun b o hb e => hk b o (fun hw => hb (rfp b (wfp b hw))) e), fun b o hb e => hk b o (old b o hb e) (c2 b o hb e), fun b o e => hk b o (gold b o e) (c3 b o e), hk _ _ tw c4, m, c5.at' (fun o e => hk _ o (fun hw => Lfp (wfp _ hw)) e), c6, c7, c8⟩
 ·intro i v y s' E' hc hv2 X2 hzl X3
  refine aB X2 ?_
  clear X2
  rintro h7 tk7 rfl
  refine ce X3 fun c1 c2 c3 c4 Z31 => ?_
  clear X3
  refine cC Z31 fun m c5 c6 c7 c8 => ?_
  clear Z31
  dsimp only at c1 c2 c3 c4 c5 ⊢
  refine ah (ai hv2) ?_
  rintro ty rfl
  have hyo : y ∈ t.order := hrl y (List.mem_of_getElem? hc)
  refine Ae ?_
  refine Ay ?_
  refine stL c5 fun h8 n8 s8 => ?_
  have x8 := c1.sb s8 nL
  have O8 : Ext g h8 := fun b o e => s8.extBut b o (fun q => by rw [q, gL] at e; cases e) (c3 b o e)
  have kp8 : be a s.heap h8 := fun b o hb e => s8.extBut b o (fun q => by rw [q, fL] at e; cases e) (c2 b o hb e)
  have f8 : ∀ b ∈ fp, ∀ o, h7.get? b = some o -> h8.get? b = some o := fun b hb o e => s8.extBut b o (fun q => Lfp (q ▸ hb)) e
  have t8 := s8.extBut _ _ hTL c4
  refine ad ?_
  intro Qb
  refine Ab ?_
  refine Bb ?_
  refine nmG (G.ext O8) rfl ?_
  refine jD (g := g) (a := a) (t := cx t (rl.take i)) ?_
  refine nmL n8 c8 ?_
  refine nmL n8 rfl ?_
  refine EI2 y ty ⟨rfl, rfl, hyo, x8, ?_⟩
  refine aB (x8.i y hyo) fun tc tn Sl => ?_
  refine i7 (s := { s with heap := h8, toks := _ }) (i := 1) (G.ext O8) Sl (by decide) ?_
  intro h9 S9 s9
  have x9 := x8.setNp hyo s9 ⟨tc, _, S9⟩
  rw [jd, <- gm rl i y hc] at x9
  have rI := x8.ri y hyo
  refine Ah ?_
  refine ⟨Lk.of, ⟨x9, kp8.trans (bH s9 rI), ?_, ?_, _, n8.sameBut s9 (fun e => by rw [e, rI] at nL; cases nL), c6, c7, c8⟩, ?_⟩
  ·exact fun b o e => s9.extBut b o (fun q => by have := x8.none_g e; rw [q, rI] at this; cases this) (O8 b o e)
  ·exact s9.extBut _ _ (fun e => by rw [e, rI] at nT; cases nT) t8
  ·exact fun b hb o e => s9.extBut b o (fun q => by have := rfp b hb; rw [q, rI] at this; cases this) (f8 b hb o e)
 ·intro s' X4 hzl X5
  refine aB X4 ?_
  clear X4
  rintro h7 tk7 rfl
  refine ce X5 fun c1 c2 c3 c4 Z32 => ?_
  clear X5
  refine cC Z32 fun m c5 c6 c7 c8 => ?_
  clear Z32
  dsimp only at c1 c2 c3 c4 c5 ⊢
  rw [A7] at c1
  refine cC c1.inst fun mm I d1 d2 d3 => ?_
  have hv0 : bs a (cx t rl) = .ref a.R := by rw [bs]; simp only [cx, hrd]
  rw [hv0] at d2
  have hR7 : a.role a.R = some .r := c1.rr (by simp only [cx, hrd]; simp)
  refine Ab ?_
  refine Gm ?_
  refine ad ?_
  intro Qb
  refine Bc (pl := _) ?_
  refine Bm ?_
  refine nmL c5 c6 ?_
  refine fZ (G.ext c3) I d2 rfl (h := ?_)
  refine ag (c1.r rl hrd) ?_
  rintro itr ⟨nn, pr⟩ qr
  have hil2 := congrArg List.length qr
  simp only [Ai, As] at hil2
  refine Bi (T := "list") (id := "list.clear") ⟨_, pr, rfl⟩ Bn PySem.F.slot_list_clear PySem.F.type_list_clear (fun b e => by cases e; exact ⟨_, pr, rfl⟩) ?_
  refine P.clear_list (s := { s with heap := h7, toks := _ }) pr ?_ (by rw [Az]; exact oQ hlen hil2)
  have s8 : Heap.SameBut a.R h7 (h7.update a.R (Obj.mapSeq fun _ => #[])) := A8 ..
  have l8 : IsL sOf (h7.update a.R (Obj.mapSeq fun _ => #[])) a.R [] := ⟨#[], ⟨_, PySem.IsL.update pr fun _ => #[]⟩, rfl⟩
  generalize h7.update a.R (Obj.mapSeq fun _ => #[]) = h8 at *
  have x8 := c1.setRd (rl := rl) hrd s8 l8
  have nLR : s.heap.objs.size ≠ a.R := fun e => by rw [e, hR7] at nL; cases nL
  have n8 := c5.sameBut s8 nLR
  have O8 : Ext g h8 := fun b o e => s8.extBut b o (fun q => by have := c1.none_g e; rw [q, hR7] at this; cases this) (c3 b o e)
  have kp8 : be a s.heap h8 := c2.trans (bH s8 hR7)
  have t8 := s8.extBut _ _ (fun e => by rw [e, hR7] at nT; cases nT) c4
  clear I d1 d2 d3 pr qr s8 l8 c1 c2 c3 c4 c5
  refine Ab ?_
  refine Gy ?_
  refine eK x8.inst ?_
  rintro mm I d1 d2 ⟨tp, d3⟩ d4 d5
  refine nmL n8 c6 ?_
  refine fZ (s := { s with heap := h8, toks := _ }) (G.ext O8) I d3 rfl (h := ?_)
  refine bE (G.ext O8) rfl rfl ?_
  refine Ak ?_
  refine nmL n8 c7 ?_
  refine An ?_
  refine P.len_tuple (items := its) (n := 0) t8 (by omega) ?_
  refine P.iadd_int ?_
  refine i8 (s := { s with heap := h8, toks := _ }) (G.ext O8) I (by decide) ?_
  intro h9 N9 s9
  have e4 : (if (mm (Str.ofString "_npassedout")).isSome = true then 4 else 4 + 1) = 4 := if_pos (by rw [show mm (Str.ofString "_npassedout") = _ from d3]; rfl)
  rw [e4] at N9
  obtain ⟨tok, hN9⟩ : ∃ tok, NsN h9 a.D (fun y => if y = q "_npassedout" then some (.int (t.po + (its.size : Int)) tok) else mm y) 4 := ⟨_, N9⟩
  have x9 : SAt w g h9 a (cQ t rl) := by
   refine SAt.setD (x := x8) s9 hN9 rfl rfl rfl (fun _ e => e) ⟨d1, ?_, ⟨tok, ?_⟩, ?_, ?_⟩
   ·show mm (q "_ready_nodes") = _
    exact d2
   ·show some _ = some _
    rw [hil]; rfl
   ·refine ah d4 fun kk d4 => ?_
    exact ⟨kk, d4⟩
   ·intro y hy
    have : y ≠ q "_npassedout" := fun e => hy (by rw [e]; decide)
    simp only [if_neg this]
    exact d5 y hy
  have nLD : s.heap.objs.size ≠ a.D := fun e => by rw [e, x8.rd] at nL; cases nL
  refine Ab ?_
  refine Bu ?_
  refine nmL (n8.sameBut s9 nLD) c7 ?_
  exact hQ h9 _ T its x9 (s9.extBut _ _ (fun e => by rw [e, x8.rd] at nT; cases nT) t8) qR' nT fT0 (kp8.trans (bH s9 x8.rd))
end
end
section
def aj (t : St) (z : Str) : St := if t.np z - 1 = 0 then { aD t z (t.np z - 1) with rd := some ((t.rd.getD []) ++ [z]) } else aD t z (t.np z - 1)
def cp (t : St) (y : Str) : St := let u := (t.su y).foldl aj (aD t y (-2)); { u with nf := u.nf + 1 }
abbrev pe : FuncData := fd (inC 50 7) "done" "TopologicalSorter.done" 3 [] .none .none .none (.str (q "cpy313.graphlib") 1763) none (.ref 1195) .none 0
theorem jp (S : Addr) (y : Value) : bindArgs pe ⟨[.ref S, y], []⟩ = (newTuple [y] >>= fun t => pure [(q "self", .ref S), (q "nodes", t)]) := by rfl
theorem bo (t : St) (z : Str) : (aj t z).order = t.order := by unfold aj; split <;> rfl
theorem eB (t : St) (z : Str) : (aj t z).su = t.su := by unfold aj; split <;> rfl
section
variable {w : World} {A : Around} {E : Value -> Shared -> Prop} {s : Shared} {Q : Value -> Shared -> Prop}
theorem uv {k : Nat} {g : Heap} {a : Ad} {t : St} (R : ak A (k + 6)) (G : Gr w g) (O : Ext g s.heap) (x : SAt w g s.heap a t) {rl : List Str} (hrd : t.rd = some rl) (hlen : rl.length ≤ 100) {y : Str} {tk : Tok} (hy : y ∈ t.order) (hnp : t.np y = -1)
  (hsu : ∀ z ∈ t.su y, z ∈ t.order) (hsl : (t.su y).length ≤ 100) {S : Addr} (hS : a.S = S)
  (hQ : ∀ h' tk', SAt w g h' a (cp t y) -> be a s.heap h' -> Q .none { s with heap := h', toks := tk' }) :
  wpAny (MK w) A (call (.ref 1196) [.ref S, .str y tk]) Q E s := by
 subst hS
 refine Bf (lX (fd := pe) (ps := [.str y tk]) (binds := fun t => [(q "self", .ref a.S), (q "nodes", t)]) R (G.ext O) rfl rfl rfl rfl (jp _ _) (by simp) (by decide) (fun _ => rfl) ?_)
 intro h1 tk1 n1 k1 t1
 try dsimp only
 have hR := R.deeper (callEnv pe (s.heap.objs.size + 1) 1196)
 have fL : s.heap.get? (s.heap.objs.size + 1) = none := av (B2 _)
 have gL : g.get? (s.heap.objs.size + 1) = none := ap O fL
 have x1 := x.ext k1
 have O1 := Ext.trans O k1
 have nL : a.role (s.heap.objs.size + 1) = none := x.none_of fL
 have nT : a.role s.heap.objs.size = none := x.none_of (ae _)
 have hv0 : bs a t = .ref a.R := by rw [bs, hrd]
 refine ad ?_
 intro Qb
 refine Ab ?_
 refine ad ?_
 intro Qb
 refine B7 ?_
 refine Ao ?_
 refine cC x1.inst fun mm I d1 d2 d3 => ?_
 rw [hv0] at d2
 refine ad ?_
 intro Qb
 refine Bm ?_
 refine nmL n1 rfl ?_
 refine fZ (G.ext O1) I d2 rfl (h := ?_)
 refine Bs ?_
 refine wpAny_is_other rfl (by simp) ?_
 refine Am ?_
 simp only [Al, Be]
 refine Ah ?_
 refine ad ?_
 intro Qb
 refine Ab ?_
 refine Aq ?_
 refine cZ (s := { s with heap := h1, toks := _ }) G O1 x1 n1 rfl ?_
 intro tk2
 refine stL n1 fun h2 n2 s2 => ?_
 have x2 := x1.sb s2 nL
 have O2 : Ext g h2 := fun b o e => s2.extBut b o (fun q => by rw [q, gL] at e; cases e) (O1 b o e)
 have kp2 : be a s.heap h2 := fun b o hb e => s2.extBut b o (fun q => by rw [q, fL] at e; cases e) (k1 b o e)
 have t2 : h2.get? s.heap.objs.size = _ := s2.extBut _ _ (by k_ne) t1
 clear I d1 d2 d3 x1 O1 n1 k1 t1 s2
 refine ad ?_
 intro Qb
 refine Ab ?_
 refine ad ?_
 intro Qb
 refine FOR (k := sOf) ?_
 refine nmL n2 rfl ?_
 refine ad ?_
 intro Qb
 refine Aj (dY hR.h ⟨_, t2, rfl, 0, rfl⟩ (k := sOf) (cs := [y]) rfl) ?_ (fun _ _ e => e)
 intro it s_2 h_2
 refine EI2 [s.heap.objs.size] [y] ⟨h_2, ?_⟩
 intro fp wr hfp hfs hwr
 refine cB h_2 ?_
 clear h_2
 rintro _ _ _ _ _ _ rfl _ _ _ _ _ _ _ Z5
 refine aG Z5 ?_
 clear Z5
 rintro h3 tk3 rfl k3
 dsimp only at k3 hfs hfp hwr ⊢
 have rfp : ∀ b ∈ fp, a.role b = none := fun b hb => (hfp b hb).elim (fun h => by rw [Ac.mp h]; exact nT) fun e => x2.none_of e
 have Lfp : s.heap.objs.size + 1 ∉ fp := fun hb => (hfp _ hb).elim (fun h => by have := Ac.mp h; exact absurd this (by k_ne)) fun e => by obtain ⟨o, _, _, ho, _⟩ := n2; rw [show h2.get? (s.heap.objs.size + 1) = none from e] at ho; cases ho
 have wfp : ∀ b ∈ wr, b ∈ fp := fun b hb => (hwr b hb).1
 have old : ∀ b o, a.role b = none -> s.heap.get? b = some o -> b ∉ wr := fun b o hb e hw => by have := (hwr b hw).2; have z := kp2 b o hb e; rw [show h2.get? b = none from this] at z; cases z
 have gold : ∀ b o, g.get? b = some o -> b ∉ wr := fun b o e hw => by have := (hwr b hw).2; have z := O2 b o e; rw [show h2.get? b = none from this] at z; cases z
 refine ⟨fun i h => SAt w g h a (if i = 0 then t else cp t y) ∧ be a s.heap h ∧ Ext g h ∧
  ∃ m, h.Ns (s.heap.objs.size + 1) m ∧ m (q "self") = some (.ref a.S) ∧ m (q "n2i") = some (.ref a.N), ?_, ?_, ?_, ?_⟩
 ·exact ⟨x2.ext k3, kp2.trans (Ext.kept k3), Ext.trans O2 k3, _, n2.keeps k3, rfl, rfl⟩
 ·intro i h h' X1 hk
  refine dh X1 fun c1 c2 c3 Z6 => ?_
  clear X1
  refine aZ Z6 fun m c5 c6 c7 => ?_
  clear Z6
  exact ⟨c1.move (fun b o hb e => hk b o (fun hw => hb (rfp b (wfp b hw))) e), fun b o hb e => hk b o (old b o hb e) (c2 b o hb e), fun b o e => hk b o (gold b o e) (c3 b o e), m, c5.at' (fun o e => hk _ o (fun hw => Lfp (wfp _ hw)) e), c6, c7⟩
 ·intro i v y' s' E' hc hv2 X2 hzl X3
  refine aB X2 ?_
  clear X2
  rintro h4 tk4 rfl
  refine dh X3 fun c1 c2 c3 Z7 => ?_
  clear X3
  refine aZ Z7 fun m c5 c6 c7 => ?_
  clear Z7
  dsimp only at c1 c2 c3 c5 ⊢
  have hi0 : i = 0 ∧ y' = y := by
   cases i with
   | zero => simpa using hc.symm
   | succ n => simp at hc
  refine ao hi0 ?_
  clear hi0
  rintro rfl rfl
  rw [if_pos rfl] at c1
  refine ah (ai hv2) ?_
  rintro ty rfl
  refine Ae ?_
  refine Ay ?_
  refine stL c5 fun h5 n5 s5 => ?_
  have x5 := c1.sb s5 nL
  have O5 : Ext g h5 := fun b o e => s5.extBut b o (fun q => by rw [q, gL] at e; cases e) (c3 b o e)
  have kp5 : be a s.heap h5 := fun b o hb e => s5.extBut b o (fun q => by rw [q, fL] at e; cases e) (c2 b o hb e)
  have f5 : ∀ b ∈ fp, ∀ o, h4.get? b = some o -> h5.get? b = some o := fun b hb o e => s5.extBut b o (fun q => Lfp (q ▸ hb)) e
  have z5 : @LE.le Nat _ h3.objs.size h5.objs.size := by rw [s5.1]; exact hzl
  clear c1 c2 c3 c5 s5
  refine ad ?_
  intro Qb
  refine Ab ?_
  refine ad ?_
  intro Qb
  refine B7 ?_
  refine Ao ?_
  refine wpAny_NamedExpr ?_
  refine ad ?_
  intro Qb
  refine Bc (pl := _) ?_
  refine nmL n5 c7 ?_
  refine Bi (s := { s with heap := h5, toks := _ }) x5.n.typeIs Gq PySem.F.slot_dict_get PySem.F.type_dict_get x5.n.mapOf.noDict ?_
  refine wpAny_dict_get1 (knd := sK w) (d := a.N) (x := eval _ _) x5.nb ?_
  refine nmL n5 rfl ?_
  refine EI2 y' _ ⟨aM y' ty, x5.n.mapOf, ?_⟩
  rw [bY, if_pos hy]
  refine Ay ?_
  refine stL n5 fun h6 n6 s6 => ?_
  have x6 := x5.sb s6 nL
  have O6 : Ext g h6 := fun b o e => s6.extBut b o (fun q => by rw [q, gL] at e; cases e) (O5 b o e)
  have kp6 : be a s.heap h6 := fun b o hb e => s6.extBut b o (fun q => by rw [q, fL] at e; cases e) (kp5 b o hb e)
  have f6 : ∀ b ∈ fp, ∀ o, h4.get? b = some o -> h6.get? b = some o := fun b hb o e => s6.extBut b o (fun q => Lfp (q ▸ hb)) (f5 b hb o e)
  have z6 : @LE.le Nat _ h3.objs.size h6.objs.size := by rw [s6.1]; exact z5
  clear x5 O5 kp5 f5 z5 s6 n5
  refine Bs ?_
  refine wpAny_is_other rfl (by simp) ?_
  refine Am ?_
  simp only [Al, Be]
  refine Ah ?_
  refine ad ?_
  intro Qb
  refine Ab ?_
  refine ad ?_
  intro Qb
  refine Aq ?_
  refine aB (x6.i y' hy) fun tc tn Sl => ?_
  rw [hnp] at Sl
  refine ad ?_
  intro Qb
  refine Bm ?_
  refine nmL n6 rfl ?_
  refine gR (s := { s with heap := h6, toks := _ }) (i := 1) (G.ext O6) Sl rfl rfl (h := ?_)
  refine stL n6 fun h7 n7 s7 => ?_
  have x7 := x6.sb s7 nL
  have O7 : Ext g h7 := fun b o e => s7.extBut b o (fun q => by rw [q, gL] at e; cases e) (O6 b o e)
  have kp7 : be a s.heap h7 := fun b o hb e => s7.extBut b o (fun q => by rw [q, fL] at e; cases e) (kp6 b o hb e)
  have f7 : ∀ b ∈ fp, ∀ o, h4.get? b = some o -> h7.get? b = some o := fun b hb o e => s7.extBut b o (fun q => Lfp (q ▸ hb)) (f6 b hb o e)
  have z7 : @LE.le Nat _ h3.objs.size h7.objs.size := by rw [s7.1]; exact z6
  clear x6 O6 kp6 f6 z6 s7 n6 Sl
  refine ad ?_
  intro Qb
  refine Ab ?_
  refine ad ?_
  intro Qb
  refine B7 ?_
  refine Ao ?_
  refine nmL n7 rfl ?_
  refine nmG (s := { s with heap := h7, toks := _ }) (G.ext O7) rfl ?_
  refine P.ne_int ?_
  refine Am ?_
  rw [show ((-1 : Int) != -1) = false from rfl]
  simp only [Al, Be]
  refine Ah ?_
  refine ad ?_
  intro Qb
  refine Ab ?_
  refine Bb ?_
  refine nmG (s := { s with heap := h7, toks := _ }) (G.ext O7) rfl ?_
  refine nmL n7 rfl ?_
  refine aB (x7.i y' hy) fun tc tn Sl => ?_
  refine i7 (s := { s with heap := h7, toks := _ }) (i := 1) (G.ext O7) Sl (by decide) ?_
  intro h8 S8 s8
  have x8 : SAt w g h8 a (aD t y' (-2)) := x7.setNp hy s8 ⟨tc, _, S8⟩
  have rI := x7.ri y' hy
  have n8 := n7.sameBut s8 (fun e => by rw [e, rI] at nL; cases nL)
  have O8 : Ext g h8 := fun b o e => s8.extBut b o (fun q => by have := x7.none_g e; rw [q, rI] at this; cases this) (O7 b o e)
  have kp8 : be a s.heap h8 := kp7.trans (bH s8 rI)
  have f8 : ∀ b ∈ fp, ∀ o, h4.get? b = some o -> h8.get? b = some o := fun b hb o e => s8.extBut b o (fun q => by have := rfp b hb; rw [q, rI] at this; cases this) (f7 b hb o e)
  clear x7 O7 kp7 f7 s8 n7 Sl S8
  refine ad ?_
  intro Qb
  refine Ab ?_
  refine ad ?_
  intro Qb
  refine FOR (k := sOf) ?_
  refine ad ?_
  intro Qb
  refine Bm ?_
  refine nmL n8 rfl ?_
  refine aB (x8.i y' hy) fun tc tn Sl => ?_
  refine gR (s := { s with heap := h8, toks := _ }) (i := 2) (G.ext O8) Sl rfl rfl (h := ?_)
  refine ag (x8.l y' hy) fun its pl8 ql8 => ?_
  refine Aj (aL hR.h pl8.isList ql8) ?_ (fun _ _ e => e)
  intro it2 s_4 h_4
  refine EI2 [a.L y'] (t.su y') ⟨h_4, ?_⟩
  intro fp2 wr2 hfp2 hfs2 hwr2
  refine cB h_4 ?_
  clear h_4
  rintro _ _ _ _ _ _ rfl _ _ _ _ _ _ _ Z8
  refine aG Z8 ?_
  clear Z8
  rintro h9 tk9 rfl k9
  dsimp only at k9 hfs2 hfp2 hwr2 ⊢
  have hor : ∀ l : List Str, (l.foldl aj (aD t y' (-2))).order = t.order := fun l => by
   have : ∀ (l : List Str) (u : St), (l.foldl aj u).order = u.order := fun l => by
    induction l with
    | nil => exact fun u => rfl
    | cons z l ih => exact fun u => by rw [A6, ih, bo]
   exact this l _
  have lfp : ∀ b ∈ fp2, a.role b = none ∨ a.role b = some (.l y') := fun b hb => (hfp2 b hb).elim (fun h => .inr (by rw [Ac.mp h]; exact x8.rl y' hy)) fun e => .inl (x8.none_of e)
  have wn2 : ∀ b ∈ wr2, a.role b = none := fun b hb => x8.none_of (hwr2 b hb).2
  have Lfp2 : s.heap.objs.size + 1 ∉ fp2 := fun hb => (hfp2 _ hb).elim (fun h => by have := x8.rl y' hy; rw [<- Ac.mp h, nL] at this; cases this) fun e => by obtain ⟨o, _, _, ho, _⟩ := n8; rw [show h8.get? (s.heap.objs.size + 1) = none from e] at ho; cases ho
  have old2 : ∀ b o, a.role b = none -> s.heap.get? b = some o -> b ∉ wr2 := fun b o hb e hw => by have := (hwr2 b hw).2; have z := kp8 b o hb e; rw [show h8.get? b = none from this] at z; cases z
  have gold2 : ∀ b o, g.get? b = some o -> b ∉ wr2 := fun b o e hw => by have := (hwr2 b hw).2; have z := O8 b o e; rw [show h8.get? b = none from this] at z; cases z
  refine ⟨fun j h => SAt w g h a (((t.su y').take j).foldl aj (aD t y' (-2))) ∧ be a s.heap h ∧ Ext g h ∧ (∀ b ∈ fp, ∀ o, h4.get? b = some o -> h.get? b = some o) ∧ (∃ rl', (((t.su y').take j).foldl aj (aD t y' (-2))).rd = some rl' ∧ rl'.length ≤ 100 + j) ∧
   ∃ m2, h.Ns (s.heap.objs.size + 1) m2 ∧ m2 (q "self") = some (.ref a.S) ∧ m2 (q "n2i") = some (.ref a.N), ?_, ?_, ?_, ?_⟩
  ·exact ⟨x8.ext k9, kp8.trans (Ext.kept k9), Ext.trans O8 k9, fun b hb o e => k9 b o (f8 b hb o e), ⟨rl, hrd, (vi hlen)⟩, _, n8.keeps k9, c6, c7⟩
  ·intro j h h' X4 hk
   refine fW X4 fun e1 e2 e3 e4 e5 Z9 => ?_
   clear X4
   refine aZ Z9 fun m2 e6 e7 e8 => ?_
   clear Z9
   refine ⟨e1.move (fun b o hb e => hk b o (fun hw => hb (wn2 b hw)) e), fun b o hb e => hk b o (old2 b o hb e) (e2 b o hb e), fun b o e => hk b o (gold2 b o e) (e3 b o e), fun b hb o e => hk b o (fun hw => ?_) (e4 b hb o e), e5, m2, e6.at' (fun o e => hk _ o (fun hw => Lfp2 (hwr2 _ hw).1) e), e7, e8⟩
   have := (hwr2 b hw).2
   have z := f8 b hb o e
   rw [show h8.get? b = none from this] at z; cases z
  ·intro j v z s'' E'' hc3 hv3 X5 hzl2 X6
   refine aB X5 ?_
   clear X5
   rintro h10 tk10 rfl
   refine fW X6 ?_
   clear X6
   rintro e1 e2 e3 e4 ⟨rl', e5, e5'⟩ Z10
   refine aZ Z10 fun m2 e6 e7 e8 => ?_
   clear Z10
   dsimp only at e1 e2 e3 e4 e6 ⊢
   refine ah (ai hv3) ?_
   rintro tz rfl
   have hzo : z ∈ t.order := hsu z (List.mem_of_getElem? hc3)
   have hjl : j < (t.su y').length := (List.getElem?_eq_some_iff.mp hc3).1
   have ctake := bh aj (aD t y' (-2)) (t.su y') j z hc3
   have hou := hor ((t.su y').take j)
   generalize hU : ((t.su y').take j).foldl aj (aD t y' (-2)) = u at *
   have hzu : z ∈ u.order := by rw [hou]; exact hzo
   refine Ae ?_
   refine Ay ?_
   refine stL e6 fun h11 n11 s11 => ?_
   have x11 := e1.sb s11 nL
   have O11 : Ext g h11 := fun b o e => s11.extBut b o (fun q => by rw [q, gL] at e; cases e) (e3 b o e)
   have kp11 : be a s.heap h11 := fun b o hb e => s11.extBut b o (fun q => by rw [q, fL] at e; cases e) (e2 b o hb e)
   have f11 : ∀ b ∈ fp, ∀ o, h4.get? b = some o -> h11.get? b = some o := fun b hb o e => s11.extBut b o (fun q => Lfp (q ▸ hb)) (e4 b hb o e)
   have p11 : ∀ b ∈ fp2, ∀ o, h10.get? b = some o -> h11.get? b = some o := fun b hb o e => s11.extBut b o (fun q => Lfp2 (q ▸ hb)) e
   clear e1 e2 e3 e4 e6 s11
   refine ad ?_
   intro Qb
   refine Ab ?_
   refine ad ?_
   intro Qb
   refine Aq ?_
   refine jD (s := { s with heap := h11, toks := _ }) (g := g) (a := a) (t := u) ?_
   refine nmL n11 e8 ?_
   refine nmL n11 rfl ?_
   refine EI2 z tz ⟨rfl, rfl, hzu, x11, ?_⟩
   refine stL n11 fun h12 n12 s12 => ?_
   have x12 := x11.sb s12 nL
   have O12 : Ext g h12 := fun b o e => s12.extBut b o (fun q => by rw [q, gL] at e; cases e) (O11 b o e)
   have kp12 : be a s.heap h12 := fun b o hb e => s12.extBut b o (fun q => by rw [q, fL] at e; cases e) (kp11 b o hb e)
   have f12 : ∀ b ∈ fp, ∀ o, h4.get? b = some o -> h12.get? b = some o := fun b hb o e => s12.extBut b o (fun q => Lfp (q ▸ hb)) (f11 b hb o e)
   have p12 : ∀ b ∈ fp2, ∀ o, h10.get? b = some o -> h12.get? b = some o := fun b hb o e => s12.extBut b o (fun q => Lfp2 (q ▸ hb)) (p11 b hb o e)
   clear x11 O11 kp11 f11 p11 s12 n11
   refine ad ?_
   intro Qb
   refine Ab ?_
   refine Gy ?_
   refine nmL n12 rfl ?_
   refine aB (x12.i z hzu) fun tc tn Sl => ?_
   refine gR (s := { s with heap := h12, toks := _ }) (i := 1) (G.ext O12) Sl rfl rfl (h := ?_)
   refine Av ?_
   refine P.isub_int ?_
   refine i7 (s := { s with heap := h12, toks := _ }) (i := 1) (G.ext O12) Sl (by decide) ?_
   intro h13 S13 s13
   have x13 : SAt w g h13 a (aD u z (u.np z - 1)) := x12.setNp hzu s13 ⟨tc, _, S13⟩
   have rI := x12.ri z hzu
   have n13 := n12.sameBut s13 (fun e => by rw [e, rI] at nL; cases nL)
   have O13 : Ext g h13 := fun b o e => s13.extBut b o (fun q => by have := x12.none_g e; rw [q, rI] at this; cases this) (O12 b o e)
   have kp13 : be a s.heap h13 := kp12.trans (bH s13 rI)
   have f13 : ∀ b ∈ fp, ∀ o, h4.get? b = some o -> h13.get? b = some o := fun b hb o e => s13.extBut b o (fun q => by have := rfp b hb; rw [q, rI] at this; cases this) (f12 b hb o e)
   have p13 : ∀ b ∈ fp2, ∀ o, h10.get? b = some o -> h13.get? b = some o := fun b hb o e => s13.extBut b o (fun q => by have := lfp b hb; rw [q, rI] at this; rcases this with h | h <;> cases h) (p12 b hb o e)
   clear x12 O12 kp12 f12 p12 s13 n12 Sl S13
   refine ad ?_
   intro Qb
   refine Ab ?_
   refine ad ?_
   intro Qb
   refine B7 ?_
   refine Ao ?_
   refine aB (x13.i z hzu) fun tc tn Sl => ?_
   refine Bm ?_
   refine nmL n13 rfl ?_
   refine gR (s := { s with heap := h13, toks := _ }) (i := 1) (G.ext O13) Sl rfl rfl (h := ?_)
   refine Av ?_
   refine P.eq_int ?_
   refine Am ?_
   have hnp1 : (aD u z (u.np z - 1)).np z = u.np z - 1 := by simp [aD]
   rw [hnp1]
   cases hb0 : (u.np z - 1 == 0) with
   | false =>
    simp only [Al, Be]
    refine Ah ?_
    refine Ah ?_
    have hst : aj u z = aD u z (u.np z - 1) := by unfold aj; rw [if_neg (by simpa using hb0)]
    refine ⟨Lk.of, ⟨by rw [ctake, hst]; exact x13, kp13, O13, f13, ⟨rl', by rw [ctake, hst]; exact e5, (sT e5')⟩, _, n13, e7, e8⟩, p13⟩
   | true =>
    simp only [if_true]
    have hst : aj u z = { aD u z (u.np z - 1) with rd := some (rl' ++ [z]) } := by unfold aj; rw [if_pos (by simpa using hb0), e5]; rfl
    refine ad ?_
    intro Qb
    refine Ab ?_
    refine Gm ?_
    refine ad ?_
    intro Qb
    refine Bc (pl := _) ?_
    refine cC x13.inst fun mm I d1 d2 d3 => ?_
    have hv1 : bs a (aD u z (u.np z - 1)) = .ref a.R := by rw [bs, show (aD u z (u.np z - 1)).rd = some rl' from e5]
    rw [hv1] at d2
    refine Bm ?_
    refine nmL n13 e7 ?_
    refine fZ (s := { s with heap := h13, toks := _ }) (G.ext O13) I d2 rfl (h := ?_)
    refine ag (x13.r rl' e5) fun itr pr qr => ?_
    have hil2 := congrArg List.length qr
    simp only [Ai, As] at hil2
    refine Bi (T := "list") (id := "list.append") pr.isList.typeIs Bn Go Gn (fun b e => by cases e; obtain ⟨nn, q⟩ := pr; exact ⟨_, q, rfl⟩) ?_
    refine Gb ?_
    refine Ak ?_
    refine nmL n13 rfl ?_
    refine An ?_
    refine Dm pr ?_ (by rw [Az]; exact ro hsl e5' hjl hil2)
    intro h14 pr14 s14
    have l14 : IsL sOf h14 a.R (rl' ++ [z]) := ⟨_, pr14, by rw [G7, Ba, qr]; simp [sOf]⟩
    have hRr : a.role a.R = some .r := x13.rr (by rw [show (aD u z (u.np z - 1)).rd = some rl' from e5]; simp)
    have x14 := x13.setRd (rl := rl') e5 s14 l14
    refine Ah ?_
    refine Ah ?_
    refine ⟨Lk.of, ⟨by rw [ctake, hst]; exact x14, kp13.trans (bH s14 hRr), ?_, ?_, ⟨rl' ++ [z], by rw [ctake, hst], by simp only [A3, Dd]; exact sU e5'⟩, _, n13.sameBut s14 (fun e => by rw [e, hRr] at nL; cases nL), e7, e8⟩, ?_⟩
    ·exact fun b o e => s14.extBut b o (fun q => by have := x13.none_g e; rw [q, hRr] at this; cases this) (O13 b o e)
    ·exact fun b hb o e => s14.extBut b o (fun q => by have := rfp b hb; rw [q, hRr] at this; cases this) (f13 b hb o e)
    ·exact fun b hb o e => s14.extBut b o (fun q => by have := lfp b hb; rw [q, hRr] at this; rcases this with h | h <;> cases h) (p13 b hb o e)
  ·intro s'' X7 hzl2 X8
   refine aB X7 ?_
   clear X7
   rintro h10 tk10 rfl
   refine fW X8 fun e1 e2 e3 e4 e5 Z11 => ?_
   clear X8
   refine aZ Z11 fun m2 e6 e7 e8 => ?_
   clear Z11
   dsimp only at e1 e2 e3 e4 e6 ⊢
   rw [A7] at e1
   refine ad ?_
   intro Qb
   refine Ab ?_
   refine Gy ?_
   refine eK e1.inst ?_
   rintro mm I d1 d2 d3 ⟨tf, d4⟩ d5
   refine nmL e6 e7 ?_
   refine fZ (s := { s with heap := h10, toks := _ }) (G.ext e3) I d4 rfl (h := ?_)
   refine Av ?_
   refine P.iadd_int ?_
   refine i8 (s := { s with heap := h10, toks := _ }) (G.ext e3) I (by decide) ?_
   intro h11 N11 s11
   have en : (if (mm (Str.ofString "_nfinished")).isSome = true then 4 else 4 + 1) = 4 := if_pos (by rw [show mm (Str.ofString "_nfinished") = _ from d4]; rfl)
   rw [en] at N11
   obtain ⟨tok, N11'⟩ : ∃ tok, NsN h11 a.D (fun y => if y = q "_nfinished" then some (.int (((t.su y').foldl aj (aD t y' (-2))).nf + 1) tok) else mm y) 4 := ⟨_, N11⟩
   have x11 : SAt w g h11 a (cp t y') := by
    refine SAt.setD (x := e1) s11 N11' rfl rfl rfl (fun _ e => e) ⟨d1, ?_, ?_, ⟨tok, ?_⟩, ?_⟩
    ·show mm (q "_ready_nodes") = _
     exact d2
    ·refine ah d3 fun kk d3 => ?_
     exact ⟨kk, d3⟩
    ·rfl
    ·intro y hy
     have : y ≠ q "_nfinished" := fun e => hy (by rw [e]; decide)
     simp only [if_neg this]
     exact d5 y hy
   have nLD : s.heap.objs.size + 1 ≠ a.D := fun e => by rw [e, e1.rd] at nL; cases nL
   refine Ah ?_
   refine ⟨Lk.of, ⟨?_, e2.trans (bH s11 e1.rd), ?_, m2, e6.sameBut s11 nLD, e7, e8⟩, ?_⟩
   ·rw [if_neg (by simp)]; exact x11
   ·exact fun b o e => s11.extBut b o (fun q => by have := e1.none_g e; rw [q, e1.rd] at this; cases this) (e3 b o e)
   ·exact fun b hb o e => s11.extBut b o (fun q => by have := rfp b hb; rw [q, e1.rd] at this; cases this) (e4 b hb o e)
 ·intro s' X9 hzl X10
  refine aB X9 ?_
  clear X9
  rintro h4 tk4 rfl
  refine dh X10 fun c1 c2 c3 Z12 => ?_
  clear X10
  refine aZ Z12 fun m c5 c6 c7 => ?_
  clear Z12
  try dsimp only
  refine Ah ?_
  exact hQ _ _ c1 c2
end
end
end Mine
end
section
open PySem PySem.W
namespace Mine
structure Ok (t : St) : Prop where
 nd : t.order.Nodup
 un : ∀ z, z ∉ t.order -> t.su z = [] ∧ t.np z = 0
theorem ey {t : St} (h : Ok t) (y : Str) : Ok (aw t y) ∧ (aw t y).rd = t.rd ∧ (∀ z, (aw t y).np z = t.np z) ∧ (∀ z, (aw t y).su z = t.su z) ∧ (∀ z, z ∈ (aw t y).order ↔ z ∈ t.order ∨ z = y) := by
 unfold aw
 split
 ·rename_i hy
  exact ⟨h, rfl, fun _ => rfl, fun _ => rfl, fun z => ⟨.inl, fun q => q.elim id fun e => e ▸ hy⟩⟩
 ·rename_i hy
  have hu := h.un y hy
  have np : ∀ z, (t.node y).np z = t.np z := fun z => by
   simp only [St.node]; split
   ·rename_i e; rw [e, hu.2]
   ·rfl
  have su : ∀ z, (t.node y).su z = t.su z := fun z => by
   simp only [St.node]; split
   ·rename_i e; rw [e, hu.1]
   ·rfl
  have mem : ∀ z, z ∈ (t.node y).order ↔ z ∈ t.order ∨ z = y := fun z => by simp [St.node]
  refine ⟨⟨?_, fun z hz => ?_⟩, rfl, np, su, mem⟩
  ·show (t.order ++ [y]).Nodup
   rw [B5]
   exact ⟨h.nd, by simp, fun a ha b hb e => hy (by rw [Ac.mp hb] at e; exact e ▸ ha)⟩
  ·rw [np, su]
   exact h.un z fun q => hz ((mem z).mpr (.inl q))
theorem jb {t : St} (h : Ok t) (y p : Str) : Ok (aH y t p) ∧ (aH y t p).rd = t.rd ∧ (∀ z, (aH y t p).np z = t.np z) ∧ (∀ z, (aH y t p).su z = t.su z ++ (if z = p then [y] else [])) ∧
  (∀ z, z ∈ (aH y t p).order ↔ z ∈ t.order ∨ z = p) := by
 obtain ⟨h1, h2, h3, h4, h5⟩ := ey h p
 have su : ∀ z, (aH y t p).su z = t.su z ++ (if z = p then [y] else []) := fun z => by
  simp only [aH, oj]
  by_cases e : z = p
  ·simp [e, h4]
  ·simp [e, h4]
 refine ⟨⟨h1.nd, fun z hz => ?_⟩, h2, h3, su, h5⟩
 have hz' : z ∉ (aw t p).order := hz
 have := h1.un z hz'
 rw [h4, h3] at this
 have hp : z ≠ p := fun e => hz' ((h5 z).mpr (.inr e))
 refine ⟨by rw [su, if_neg hp, this.1]; rfl, ?_⟩
 show (aw t p).np z = 0
 rw [h3]; exact this.2
theorem dz (y : Str) : ∀ (ps : List Str) {t : St}, Ok t -> Ok (ps.foldl (aH y) t) ∧ (ps.foldl (aH y) t).rd = t.rd ∧ (∀ z, (ps.foldl (aH y) t).np z = t.np z) ∧ (∀ z, (ps.foldl (aH y) t).su z = t.su z ++ List.replicate (ps.count z) y) ∧
  (∀ z, z ∈ (ps.foldl (aH y) t).order ↔ z ∈ t.order ∨ z ∈ ps)
 | [], t, h => ⟨h, rfl, fun _ => rfl, fun z => by simp, fun z => by simp⟩
 | p :: ps, t, h => by
  obtain ⟨h1, h2, h3, h4, h5⟩ := jb h y p
  obtain ⟨k1, k2, k3, k4, k5⟩ := dz y ps h1
  refine ⟨k1, k2.trans h2, fun z => (k3 z).trans (h3 z), fun z => ?_, fun z => ?_⟩
  ·rw [A6, k4, h4, List.append_assoc]
   congr 1
   by_cases e : z = p
   ·subst e
    rw [if_pos rfl, List.count_cons_self, List.replicate_succ]; rfl
   ·rw [if_neg e, List.count_cons_of_ne (fun q => e q.symm)]; rfl
  ·rw [A6, k5, h5, Ap, or_assoc]
def da (need : Str -> List Str) (l : List Str) : St := l.foldl (fun t y => iT t y (need y)) bS
structure b6 (need : Str -> List Str) (l : List Str) (t : St) : Prop where
 ok : Ok t
 rd : t.rd = none
 su : ∀ z, t.su z = l.flatMap fun y => List.replicate ((need y).count z) y
 np : ∀ y, t.np y = if y ∈ l then ((need y).length : Int) else 0
 mem : ∀ z, z ∈ t.order ↔ z ∈ l ∨ ∃ y ∈ l, z ∈ need y
theorem nV {need : Str -> List Str} {l : List Str} {t : St} (h : b6 need l t) {y : Str} (hy : y ∉ l) : b6 need (l ++ [y]) (iT t y (need y)) := by
 obtain ⟨h1, h2, h3, h4, h5⟩ := ey h.ok y
 have hok : Ok (aD (aw t y) y ((aw t y).np y + (need y).length)) := by
  refine ⟨h1.nd, fun z hz => ?_⟩
  have hz' : z ∉ (aw t y).order := hz
  have e : z ≠ y := fun e => hz' ((h5 z).mpr (.inr e))
  refine ⟨(h1.un z hz').1, ?_⟩
  show (if z = y then _ else (aw t y).np z) = 0
  rw [if_neg e]; exact (h1.un z hz').2
 obtain ⟨k1, k2, k3, k4, k5⟩ := dz y (need y) hok
 refine ⟨k1, k2.trans (h2.trans h.rd), fun z => ?_, fun z => ?_, fun z => ?_⟩
 ·show ((need y).foldl (aH y) _).su z = _
  rw [k4]
  show (aw t y).su z ++ _ = _
  rw [h4, h.su, List.flatMap_append, List.flatMap_singleton]
 ·show ((need y).foldl (aH y) _).np z = _
  rw [k3]
  show (if z = y then (aw t y).np y + _ else (aw t y).np z) = _
  rw [h3, h3, h.np, h.np, if_neg hy]
  by_cases e : z = y
  ·subst e; simp
  ·simp [e]
 ·show z ∈ ((need y).foldl (aH y) _).order ↔ _
  rw [k5]
  show z ∈ (aw t y).order ∨ _ ↔ _
  rw [h5, h.mem]
  simp only [Au, Ac]
  constructor
  ·rintro (((q | ⟨u, hu, q⟩) | q) | q)
   ·exact .inl (.inl q)
   ·exact .inr ⟨u, .inl hu, q⟩
   ·exact .inl (.inr q)
   ·exact .inr ⟨y, .inr rfl, q⟩
  ·rintro ((q | q) | ⟨u, hu | rfl, q⟩)
   ·exact .inl (.inl (.inl q))
   ·exact .inl (.inr q)
   ·exact .inl (.inl (.inr ⟨u, hu, q⟩))
   ·exact .inr q
theorem fU (need : Str -> List Str) : ∀ (l2 l1 : List Str) (t : St), b6 need l1 t -> (l1 ++ l2).Nodup -> b6 need (l1 ++ l2) (l2.foldl (fun t y => iT t y (need y)) t)
 | [], l1, t, h, _ => by rw [Gi]; exact h
 | y :: l2, l1, t, h, hn => by
  have hy : y ∉ l1 := fun q => by
   rw [B5] at hn
   exact hn.2.2 y q y Ar rfl
  have := fU need l2 (l1 ++ [y]) _ (nV h hy) (by simpa using hn)
  simpa using this
theorem jP (need : Str -> List Str) : b6 need [] bS := ⟨⟨by simp [bS], fun _ _ => ⟨rfl, rfl⟩⟩, rfl, fun _ => rfl, fun _ => rfl, fun z => by simp [bS]⟩
theorem eu : ∀ (l : List Str) (t : St) (r : List Str), t.rd = some r -> (∀ z ∈ l, (l.count z : Int) ≤ t.np z) ->
  ∃ R, (l.foldl aj t).rd = some (r ++ R) ∧ R.Nodup ∧ (∀ z, z ∈ R ↔ z ∈ l ∧ t.np z = l.count z) ∧ (∀ z, (l.foldl aj t).np z = t.np z - l.count z) ∧ (l.foldl aj t).order = t.order ∧ (l.foldl aj t).su = t.su
 | [], t, r, hr, _ => ⟨[], by simpa using hr, by simp, by simp, by simp, rfl, rfl⟩
 | z :: l, t, r, hr, hc => by
  have hz := hc z Ar
  rw [List.count_cons_self] at hz
  have np' : ∀ u, (aj t z).np u = if u = z then t.np z - 1 else t.np u := fun u => by unfold aj; split <;> rfl
  have hc' : ∀ u ∈ l, (l.count u : Int) ≤ (aj t z).np u := fun u hu => by
   rw [np']
   have := hc u (A1 _ hu)
   by_cases e : u = z
   ·subst e; rw [if_pos rfl]; rw [List.count_cons_self] at this; exact tT hz
   ·rw [if_neg e]; rw [List.count_cons_of_ne (fun q => e q.symm)] at this; exact this
  have cnt : ∀ u, ((z :: l).count u : Int) = (if u = z then 1 else 0) + l.count u := fun u => by
   by_cases e : u = z
   ·subst e; rw [List.count_cons_self, if_pos rfl]; exact u5
   ·rw [List.count_cons_of_ne (fun q => e q.symm), if_neg e]; exact qL
  have fin : ∀ {R : List Str}, (∀ u, (l.foldl aj (aj t z)).np u = (aj t z).np u - l.count u) -> ∀ u, ((z :: l).foldl aj t).np u = t.np u - (z :: l).count u := fun h u => by
   rw [A6, h, np', cnt]
   by_cases e : u = z
   ·subst e; simp only [if_true]; exact qK
   ·simp only [if_neg e]; exact qJ
  by_cases h0 : t.np z - 1 = 0
  ·have hl : z ∉ l := fun q => by have := Gw.mpr q; exact tU hz h0 this
   have hr' : (aj t z).rd = some (r ++ [z]) := by unfold aj; rw [if_pos h0, hr]; rfl
   obtain ⟨R, a1, a2, a3, a4, a5, a6⟩ := eu l _ _ hr' hc'
   refine ⟨z :: R, by rw [A6, a1]; simp, ?_, fun u => ?_, fin (R := R) a4, by rw [A6, a5, bo], by rw [A6, a6, eB]⟩
   ·rw [Br]
    exact ⟨fun q => hl ((a3 z).mp q).1, a2⟩
   ·rw [Ap, Ap, a3, np', cnt]
    by_cases e : u = z
    ·subst e
     have : l.count u = 0 := List.count_eq_zero.mpr hl
     simp [this]; exact vy h0
    ·simp [e]
  ·have hr' : (aj t z).rd = some r := by unfold aj; rw [if_neg h0]; exact hr
   obtain ⟨R, a1, a2, a3, a4, a5, a6⟩ := eu l _ _ hr' hc'
   refine ⟨R, by rw [A6, a1], a2, fun u => ?_, fin (R := R) a4, by rw [A6, a5, bo], by rw [A6, a6, eB]⟩
   rw [a3, np', Ap, cnt]
   by_cases e : u = z
   ·subst e
    simp only [if_true, true_or, true_and]
    constructor
    ·rintro ⟨_, q⟩; exact qO q
    ·intro q
     have : l.count u ≠ 0 := (qM h0 q)
     exact ⟨Gw.mp (by omega), (qN q)⟩
   ·simp [e]
end Mine
end
section
open PySem PySem.W PyProof.Rows PySem.Calls PySem.Spec Builtin
namespace Mine
section
def cy (It : Addr) : Obj := { cls := .type "method-wrapper", data := .fields #[.builtin "list_iterator.__next__", .ref It] }
structure my (h h' : Heap) (e : Addr) : Prop where
 keeps : ∀ b o, h.get? b = some o -> h'.get? b = some o
 new : h.get? e = none
 there : ∃ ob vs a0, h'.get? e = some ob ∧ ob.cls = .type "StopIteration" ∧ ob.data = .fields vs ∧ vs[0]? = some a0 ∧ vs[1]? = some .none
section
variable {prog : Program} {w : World} {A : Around} {E : Value -> Shared -> Prop}
theorem jA (It : Addr) : checkBoundCall "list_iterator.__next__" ⟨[.ref It], []⟩ = pure () := by kernel_rfl
theorem fx : plainId "list_iterator.__next__" = true := by decide +kernel
theorem gu {s : Shared} {mw It : Addr} {Q : Value -> Shared -> Prop} (hm : s.heap.get? mw = some (cy It))
  (h : wpAny (model prog w) A.in1 (Builtin.«list_iterator.__next__» ⟨[.ref It], []⟩) (fun fin s' => match fin with | .done (.ret v) => Q v s' | _ => False) E s) :
  wpAny (model prog w) A (call (.ref mw) []) Q E s := by
 refine Bf (codeAny_of_tree ?_)
 show wpAny _ _ (callAny (.ref mw) _) _ _ _
 refine nd_load hm ?_
 show wpAny _ _ (checkBoundCall "list_iterator.__next__" ⟨[.ref It], []⟩ >>= fun _ => again (.builtin "list_iterator.__next__" ⟨[.ref It], []⟩) >>= fun x => pure x) _ _ _
 rw [jA]
 refine Aa (Ae (Aa (Ae (Ae ⟨plainId_quiet fx _, G0 entry_listiter_next ?_⟩))))
 rw [Around.under_plainId fx]
 refine Aj h (fun fin s' hq => ?_) fun _ _ e => e
 rcases fin with (_ | _ | _ | _) | _ <;> first | exact hq | exact hq.elim
theorem kn {s : Shared} {mw It l : Addr} {i : Nat} {items : Array Value} {x : Value} {Q : Value -> Shared -> Prop} (hm : s.heap.get? mw = some (cy It)) (hit : s.heap.IsListIter It l i) (hl : s.heap.IsList l items) (hx : items[i]? = some x)
  (hQ : ∀ h', h'.IsListIter It l (i + 1) -> Heap.SameBut It s.heap h' -> Q x { s with heap := h' }) : wpAny (model prog w) A (call (.ref mw) []) Q E s := by
 refine gu hm ?_
 refine aZ (id hit) fun o ho hc hd => ?_
 refine aZ hl fun ol hol _ Z37 => ?_
 clear hl
 refine ah Z37 fun nl hdl => ?_
 clear Z37
 show wpAny _ _ (field (.ref It) 0 >>= _) _ _ s
 refine Aa (wpAny_field ho hd (x := .ref l) rfl ?_)
 show wpAny _ _ (if (Value.ref l == Value.none) = true then _ else _) _ _ s
 rw [if_neg (show ¬ ((Value.ref l == Value.none) = true) from Gx)]
 show wpAny _ _ (field (.ref It) 1 >>= _) _ _ s
 refine Aa (wpAny_field ho hd (x := .int i 0) rfl ?_)
 show wpAny _ _ (seqItems? (.ref l) >>= _) _ _ s
 refine Aa (wpAny_seqItems hol hdl ?_)
 simp only [Bo, hx]
 refine Aa (wpAny_setField ho hd (by simp) (Ae (hQ _ ?_ (A8 ..))))
 exact ⟨_, Heap.get?_update_self _ ho (Obj.isFreed_of_fields (Obj.data_mapFields hd _)), (Obj.cls_mapFields ..).trans hc, by
  rw [Obj.data_mapFields hd]; simp [rawInt]⟩
theorem km {s : Shared} {mw It l : Addr} {i : Nat} {items : Array Value} {Q : Value -> Shared -> Prop} (hh : A.handled = none) (hm : s.heap.get? mw = some (cy It)) (hit : s.heap.IsListIter It l i) (hl : s.heap.IsList l items) (hx : items[i]? = none)
  (hE : ∀ h' h'' e, Heap.SameBut It s.heap h' -> my h' h'' e -> E (.ref e) { s with heap := h'' }) : wpAny (model prog w) A (call (.ref mw) []) Q E s := by
 refine gu hm ?_
 refine aZ (id hit) fun o ho hc hd => ?_
 refine aZ hl fun ol hol _ Z38 => ?_
 clear hl
 refine ah Z38 fun nl hdl => ?_
 clear Z38
 show wpAny _ _ (field (.ref It) 0 >>= _) _ _ s
 refine Aa (wpAny_field ho hd (x := .ref l) rfl ?_)
 show wpAny _ _ (if (Value.ref l == Value.none) = true then _ else _) _ _ s
 rw [if_neg (show ¬ ((Value.ref l == Value.none) = true) from Gx)]
 show wpAny _ _ (field (.ref It) 1 >>= _) _ _ s
 refine Aa (wpAny_field ho hd (x := .int i 0) rfl ?_)
 show wpAny _ _ (seqItems? (.ref l) >>= _) _ _ s
 refine Aa (wpAny_seqItems hol hdl ?_)
 simp only [Bo, hx]
 refine Aa (wpAny_rule (Aa (wpAny_setField ho hd (by simp) ?_)))
 show wpAny _ _ (newExc (.type "StopIteration") [] >>= _) _ _ _
 refine Aa ?_
 simp only [newExc, newTuple]
 refine Aa (Dp ?_ (by size_fits))
 refine Aa (m := firstArgMember _ _) (B6 (a := Value.none) (by first | rfl | (simp only [firstArgMember]; rfl)) ?_)
 refine Dp ?_ (by size_fits)
 simp only [raiseNew]
 refine Aa (wpAny_handled ?_)
 rw [show A.in1.handled = none from hh]
 refine Aa (Ae (wpAny_throw ?_))
 have key : ∀ h1 : Heap, Heap.SameBut It s.heap h1 -> ∀ h2 e, my h1 h2 e -> E (.ref e) { s with heap := h2 } := fun h1 x h2 e y => hE h1 h2 e x y
 refine key _ ?_ _ _ ⟨fun b o hb => Heap.get?_push_of_some _ (Heap.get?_push_of_some _ hb), Heap.get?_none_of_le (by simp), _, _, _, Heap.get?_push_size _ rfl, rfl, rfl, rfl, rfl⟩
 exact A8 ..
end
end
section
section
variable {prog : Program} {w : World} {A : Around} {E : Value -> Shared -> Prop} {s : Shared}
theorem jn : entryFor table "iter" = some Builtin.«iter» := entryFor_of_fast (by kernel_rfl)
theorem jc : plainId "iter" = true := by decide +kernel
theorem jC (v : Value) : argsOk "iter" ⟨[v], []⟩ := by unfold argsOk; kernel_rfl
theorem kE : builtinKind "iter" = none := by decide +kernel
theorem kH {l : Addr} {items : Array Value} {Q : Value -> Shared -> Prop} (hl : s.heap.IsList l items)
  (hQ : Q (.ref s.heap.objs.size) { s with heap := s.heap.push { cls := .type "list_iterator", data := .fields #[.ref l, .int 0 0] } }) :
  wpAny (model prog w) A (call (.builtin "iter") [.ref l]) Q E s := by
 refine call_function_entry kE jc jn (jC _) ?_
 show wpAny _ _ (pyIter (.ref l) >>= fun x => ret x) _ _ _
 refine Aa (wpAny_pyIter_list hl ?_)
 exact Ae ⟨_, rfl, hQ⟩
end
end
section
abbrev fra (l : List Env) : List Addr := l.filterMap (·.frame)
def FF (h : Heap) (l : List Env) : Prop := h.FunFrames (hideAll h (fra l)) l
section
variable {w : World} {A : Around} {E : Value -> Shared -> Prop} {s : Shared}
theorem pv {env : Env} {outer : List Env} {L : Addr} {g h : Heap} {e : Addr} {b_0 : Stmt} {suite : List Stmt} {np pos : Pos} {rest : List ExceptHandler} {Q : Flow -> Shared -> Prop}
  (hfr : A.frames = some (env :: outer)) (hf : env.frame = some L) (G : Gr w g) (O : ∀ b o, g.get? b = some o -> b ∉ fra (env :: outer) ∧ h.get? b = some o) (fl : FF h (env :: outer)) (x : my h s.heap e)
  (hx : nsIn (K w.params) mainGlobals (q "StopIteration") = some none)
  (hQ : ∀ h', Slo (fra (env :: outer)) h h' -> wpAny (MK w) (A.mark (some (.ref e))) (execs (b_0 :: suite) env) Q (notedBy (MK w) (A.mark (some (.ref e))) env (cameBackBy (MK w) A env E)) { s with heap := h' })
  (hk : env.scope.kind = .function := by rfl) (hg : env.globals = mainGlobals := by rfl)
  (hb : env.builtins = builtinsNs := by rfl) (hl : env.kindOf (q "StopIteration") = some .globalImplicit := by rfl) :
  wpAny (MK w) A (noteFrame (.ref e) env) (fun _ s_2 => wpAny (MK w) A (setFlight (.ref e) none) (fun _ s_3 => wpAny (MK w) A (handleBy (.ref e) env (.ExceptHandler (some (.Name (q "StopIteration") np)) none (b_0 :: suite) pos :: rest)) Q E s_3) E s_2) E s := by
 refine jG x.there fun ob vs a0 he hc hd h0 h1 => ?_
 have base : (hideAll h (fra (env :: outer))).StaysIn s.heap := fun b o q => x.keeps b o (of_hideAll _ q)
 have hen : (hideAll h (fra (env :: outer))).get? e = none := by
  cases q : (hideAll h (fra (env :: outer))).get? e with
  | none => rfl
  | some o => have := of_hideAll _ q; rw [x.new] at this; cases this
 have fl' : s.heap.FunFrames (hideAll h (fra (env :: outer))) (env :: outer) := fl.of_keeps fun b o hb _ => ⟨o, x.keeps b o hb, rfl⟩
 unfold noteFrame
 simp only [hf]
 refine Aa (wpAny_field he hd h1 ?_)
 rw [if_neg (by decide)]
 refine wpAny_newEntryW hfr fl' hf he base hen hd (Array.getElem?_eq_some_iff.mp h1).1 h0 fun h2 hL => ?_
 refine dh hL fun k1 k2 k3 k4 => ?_
 clear hL
 have S2 : Slo (fra (env :: outer)) h h2 := ⟨fun b o n q => k1 b o (hideAll_get _ q n), (Heap.UpToSlots.of_keeps x.keeps).trans k4⟩
 have G2 : Gr w h2 := G.ext fun b o q => S2.keep b o (O b o q).1 (O b o q).2
 refine ag (Heap.TracedAtW.there k3.at) fun oe he2 hc2 => ?_
 refine wpAny_handleBy_builtin (X := "StopIteration") (T := "StopIteration") (b := true) (isSubtype_of_subB (by decide +kernel)) (isSubtype_of_subB (by decide +kernel)) (isSubtype_of_subB (by decide +kernel)) ?_
 refine nmB (v := .type "StopIteration") G2 hx (by decide +kernel) ⟨rfl, ⟨oe, he2, hc2.trans hc⟩, ?_⟩ (by decide) hk hg hb hl
 rw [if_pos rfl]
 refine wpAny_setFlight_noneW k1 k2 k3.at fun h3 m1 m2 m3 m4 => ?_
 exact hQ h3 ⟨fun b o n q => m1 b o (hideAll_get _ q n), S2.up.trans fun b o q n => ⟨o.slots, m4 b o q n⟩⟩
end
end
section
def KD (w : World) (h : Heap) (a : Addr) (ks : List Str) : Prop := ∃ kvs, h.DictOf (sK w) a kvs ∧ kvs.map (·.1) = ks
section
variable {w : World} {A : Around} {E : Value -> Shared -> Prop} {s : Shared}
theorem KD.at {h h' : Heap} {a : Addr} {ks : List Str} (x : KD w h a ks) (e : ∀ o, h.get? a = some o -> h'.get? a = some o) : KD w h' a ks := let ⟨k, d, r⟩ := x; ⟨k, d.at e, r⟩
theorem pI {a : Addr} {x : Str} {t : Tok} {v : Value} {ks : List Str} {Q : Unit -> Shared -> Prop} (hd : KD w s.heap a ks) (hx : x ∉ ks) (hsz : ks.length ≤ sizeLine)
  (h : ∀ h', KD w h' a (ks ++ [x]) -> Heap.SameBut a s.heap h' -> Q () { s with heap := h', toks := s.toks + 1 }) : wpAny (MK w) A (setItem (.ref a) (.str x t) v) Q E s := by
 refine ag hd ?_
 clear hd
 rintro kvs d rfl
 refine wpAny_setItem_pairs (knd := sK w) (aM x t) d (fun h' d' hs => h h' ⟨_, d', ?_⟩ hs) (by simpa using hsz)
 have : (kvs.any fun kv => decide (kv.1 = x)) = false := by
  rw [List.any_eq_false]; intro kv hk
  simp only [Bx]
  exact fun e => hx (e ▸ List.mem_map_of_mem hk)
 unfold stored
 rw [this]; simp
theorem pJ {a : Addr} {x : Str} {t : Tok} {ks : List Str} {Q : Unit -> Shared -> Prop} (hd : KD w s.heap a (ks ++ [x])) (hx : x ∉ ks) (hsz : ks.length + 1 ≤ sizeLine)
  (h : ∀ h', KD w h' a ks -> Heap.SameBut a s.heap h' -> Q () { s with heap := h', toks := s.toks + 1 }) : wpAny (MK w) A (delItem (.ref a) (.str x t)) Q E s := by
 refine ag hd fun kvs d hk => ?_
 clear hd
 have hl := congrArg List.length hk
 simp only [Ai, A3, Bj, Gh] at hl
 refine wpAny_delItem_slot d.typeIs (by decide) F.slot_dict_delitem (call_meetsIn F.slot_dict_delitem d.typeIs F.entry_dict_delitem (F.args_dict_delitem_2 _ _) (meets_dict_delitem_pairs (sK w) a (aM x t)) ⟨kvs, d, by omega, ?_, fun h' d' hs => h h' ⟨_, d', ?_⟩ hs⟩)
 ·have hm : x ∈ kvs.map (·.1) := by rw [hk]; simp
  refine ag (A0.mp hm) fun kv hkv e => ?_
  unfold valueAt
  rw [Option.isSome_map, List.find?_isSome]
  exact ⟨kv, hkv, by simpa using e⟩
 ·unfold without
  rw [show (fun kv : Str × Value => decide (kv.1 ≠ x)) = (fun y => decide (y ≠ x)) ∘ (·.1) from rfl, <- List.filter_map, hk, List.filter_append]
  have : ks.filter (fun y => decide (y ≠ x)) = ks := List.filter_eq_self.mpr fun y hy => by simpa using fun e : y = x => hx (e ▸ hy)
  rw [this]; simp
theorem uF {a : Addr} {x : Str} {t : Tok} {ks : List Str} {Q : Value -> Shared -> Prop} (hs : (a == sysModules) = false) (hd : KD w s.heap a ks) (hx : x ∉ ks) (h : Q (.bool false) { s with toks := s.toks + 1 }) :
  wpAny (MK w) A (compareOp .In (.str x t) (.ref a)) Q E s := by
 refine ag hd ?_
 clear hd
 rintro kvs d rfl
 refine wpAny_in_of (knd := sK w) (aM x t) hs d.mapOf ?_
 have : valueAt kvs x = none := by
  unfold valueAt
  rw [Option.map_eq_none_iff, List.find?_eq_none]
  intro kv hk
  simp only [Bx]
  exact fun e => hx (e ▸ List.mem_map_of_mem hk)
 rw [this]; exact h
end
end
end Mine
end
section
open PySem PySem.W PyProof.Rows PySem.Calls PySem.Spec
namespace Mine
section
structure Ent where
 node : Str
 i : Nat
 mw : Addr
 it : Addr
def own (K1 K2 K3 K4 : Addr) (stk : List Ent) : List Addr := K1 :: K2 :: K3 :: K4 :: stk.flatMap fun e => [e.mw, e.it]
structure Cy (w : World) (g h : Heap) (a : Ad) (t : St) (rank : Str -> Nat) (F : List Addr) (K1 K2 K3 K4 : Addr) (S : Str -> Bool) (c : Nat) (stk : List Ent) : Prop where
 x : SAt w g h a t
 O : Ext g h
 l1 : IsL sOf h K1 (stk.map (·.node))
 l2 : h.PlainList K2 (stk.map fun e => Value.ref e.mw).toArray
 l3 : h.SetOf (sK w) K3 S c
 l4 : KD w h K4 (stk.map (·.node))
 mw : ∀ e ∈ stk, h.get? e.mw = some (cy e.it)
 it : ∀ e ∈ stk, h.IsListIter e.it (a.L e.node) e.i
 inS : ∀ e ∈ stk, S e.node = true
 ord : ∀ y, S y = true -> y ∈ t.order
 rise : stk.Pairwise fun e e' => rank e.node < rank e'.node
 nd : (own K1 K2 K3 K4 stk).Nodup
 out : ∀ b ∈ own K1 K2 K3 K4 stk, a.role b = none ∧ b ∉ F ∧ g.get? b = none
 fr : ∀ b ∈ F, a.role b = none ∧ g.get? b = none
 nb : (K4 == sysModules) = false
section
variable {w : World} {g h h' : Heap} {a : Ad} {t : St} {rank : Str -> Nat} {F : List Addr} {K1 K2 K3 K4 : Addr} {S : Str -> Bool} {c : Nat} {stk : List Ent}
theorem bQ {b : Addr} (x : h.SetOf (sK w) b S c) (e : ∀ o, h.get? b = some o -> h'.get? b = some o) : h'.SetOf (sK w) b S c := let ⟨o, es, ep, tt, ho, r⟩ := x; ⟨o, es, ep, tt, e _ ho, r⟩
theorem bj {e : Ent} (he : e ∈ stk) : e.mw ∈ own K1 K2 K3 K4 stk ∧ e.it ∈ own K1 K2 K3 K4 stk := by
 unfold own
 simp only [Ap, Dw]
 exact ⟨.inr (.inr (.inr (.inr ⟨e, he, by simp⟩))), .inr (.inr (.inr (.inr ⟨e, he, by simp⟩)))⟩
theorem Cy.keep (y : Cy w g h a t rank F K1 K2 K3 K4 S c stk) (k : ∀ b o, b ∉ F -> h.get? b = some o -> h'.get? b = some o) : Cy w g h' a t rank F K1 K2 K3 K4 S c stk := by
 have ko : ∀ b ∈ own K1 K2 K3 K4 stk, ∀ o, h.get? b = some o -> h'.get? b = some o := fun b hb o e => k b o (y.out b hb).2.1 e
 refine ⟨y.x.move fun b o hr e => k b o (fun hf => hr (y.fr b hf).1) e, fun b o e => k b o (fun hf => by rw [(y.fr b hf).2] at e; cases e) (y.O b o e),
  y.l1.at (ko _ (by simp [own])), y.l2.at (ko _ (by simp [own])), bQ y.l3 (ko _ (by simp [own])), y.l4.at (ko _ (by simp [own])),
  fun e he => ko _ (bj he).1 _ (y.mw e he), fun e he => (y.it e he).at (ko _ (bj he).2), y.inS, y.ord, y.rise, y.nd, y.out, y.fr, y.nb⟩
theorem bV (st : List Ent) (e : Ent) : own K1 K2 K3 K4 (st ++ [e]) = own K1 K2 K3 K4 st ++ [e.mw, e.it] := by simp [own]
theorem dB {st : List Ent} {e : Ent} (n : (own K1 K2 K3 K4 (st ++ [e])).Nodup) : (own K1 K2 K3 K4 st).Nodup ∧ (∀ b ∈ own K1 K2 K3 K4 st, b ≠ e.mw ∧ b ≠ e.it) ∧ e.mw ≠ e.it := by
 rw [bV, B5] at n
 refine ⟨n.1, fun b hb => ⟨n.2.2 b hb _ (by simp), n.2.2 b hb _ (by simp)⟩, ?_⟩
 have := n.2.1
 simp only [Br, Ac] at this
 exact this.1
theorem Cy.next {st : List Ent} {e : Ent} (y : Cy w g h a t rank F K1 K2 K3 K4 S c (st ++ [e])) (hs : Heap.SameBut e.it h h') (hi : h'.IsListIter e.it (a.L e.node) (e.i + 1)) :
  Cy w g h' a t rank F K1 K2 K3 K4 S c (st ++ [{ e with i := e.i + 1 }]) := by
 have ei : e ∈ st ++ [e] := by simp
 refine cG (dB y.nd) fun n1 n2 n3 => ?_
 have hit := y.out _ (bj ei).2
 have ko : ∀ b, b ≠ e.it -> ∀ o, h.get? b = some o -> h'.get? b = some o := fun b hb o q => hs.extBut b o hb q
 have e1 : own K1 K2 K3 K4 (st ++ [{ e with i := e.i + 1 }]) = own K1 K2 K3 K4 (st ++ [e]) := by simp [own]
 have m1 : ∀ f : Ent -> Str, (∀ e : Ent, f { e with i := e.i + 1 } = f e) -> (st ++ [{ e with i := e.i + 1 }]).map f = (st ++ [e]).map f := fun f hf => by simp [hf]
 refine ⟨y.x.sb hs hit.1, fun b o q => ko b (fun z => by rw [z, hit.2.2] at q; cases q) o (y.O b o q), ?_, ?_, bQ y.l3 (ko _ (n2 _ (by simp [own])).2), ?_, ?_, ?_, ?_, y.ord, ?_, by rw [e1]; exact y.nd, by rw [e1]; exact y.out, y.fr, y.nb⟩
 ·rw [m1 _ fun _ => rfl]; exact y.l1.at (ko _ (n2 _ (by simp [own])).2)
 ·have : ((st ++ [{ e with i := e.i + 1 }]).map fun e : Ent => Value.ref e.mw) = (st ++ [e]).map fun e : Ent => Value.ref e.mw := by simp
  rw [this]; exact y.l2.at (ko _ (n2 _ (by simp [own])).2)
 ·rw [m1 _ fun _ => rfl]; exact y.l4.at (ko _ (n2 _ (by simp [own])).2)
 ·intro f hf
  rcases Au.mp hf with q | q
  ·exact ko _ (n2 _ (bj q).1).2 _ (y.mw f (By _ q))
  ·rw [Ac.mp q]; exact ko _ n3 _ (y.mw e ei)
 ·intro f hf
  rcases Au.mp hf with q | q
  ·exact (y.it f (By _ q)).at (ko _ (n2 _ (bj q).2).2)
  ·rw [Ac.mp q]; exact hi
 ·intro f hf
  rcases Au.mp hf with q | q
  ·exact y.inS f (By _ q)
  ·rw [Ac.mp q]; exact y.inS e ei
 ·have := y.rise
  rw [Gl] at this ⊢
  exact ⟨this.1, by simp, fun u hu v hv => by rw [Ac.mp hv]; exact this.2.2 u hu e (by simp)⟩
theorem Cy.top {st : List Ent} {e : Ent} (y : Cy w g h a t rank F K1 K2 K3 K4 S c (st ++ [e])) : e.node ∉ st.map (·.node) := by
 intro hm
 refine ag (A0.mp hm) fun u hu e1 => ?_
 have := y.rise
 rw [Gl] at this
 have := this.2.2 u hu e (by simp)
 rw [e1] at this; exact A9 _ this
theorem Cy.pop {st : List Ent} {e : Ent} (y : Cy w g h a t rank F K1 K2 K3 K4 S c (st ++ [e])) (k' : ∀ b o, b ≠ K1 -> b ≠ K2 -> b ≠ K4 -> b ≠ e.it -> b ∉ F -> h.get? b = some o -> h'.get? b = some o)
  (l1 : IsL sOf h' K1 (st.map (·.node))) (l2 : h'.PlainList K2 (st.map fun e => Value.ref e.mw).toArray) (l4 : KD w h' K4 (st.map (·.node))) : Cy w g h' a t rank F K1 K2 K3 K4 S c st := by
 refine cG (dB y.nd) fun n1 n2 n3 => ?_
 have o1 := y.out K1 (by simp [own])
 have o2 := y.out K2 (by simp [own])
 have o4 := y.out K4 (by simp [own])
 have sub : ∀ b ∈ own K1 K2 K3 K4 st, b ∈ own K1 K2 K3 K4 (st ++ [e]) := fun b hb => by rw [bV]; exact By _ hb
 have oi := y.out e.it (bj (by simp)).2
 have k : ∀ b o, b ≠ K1 -> b ≠ K2 -> b ≠ K4 -> (b ≠ e.it ∧ b ∉ F) -> h.get? b = some o -> h'.get? b = some o := fun b o x1 x2 x4 x5 => k' b o x1 x2 x4 x5.1 x5.2
 have own' : ∀ b ∈ own K1 K2 K3 K4 st, b ≠ e.it ∧ b ∉ F := fun b hb => ⟨(n2 b hb).2, (y.out b (sub b hb)).2.1⟩
 have en : ∀ f ∈ st, ∀ b, (b = f.mw ∨ b = f.it) -> b ≠ K1 ∧ b ≠ K2 ∧ b ≠ K4 := by
  intro f hf b hb
  have hm : b ∈ st.flatMap fun e => [e.mw, e.it] := Dw.mpr ⟨f, hf, by rcases hb with rfl | rfl <;> simp⟩
  have := n1
  simp only [own, Br, Ap, not_or] at this
  refine ⟨fun q => this.1.2.2.2 (q ▸ hm), fun q => this.2.1.2.2 (q ▸ hm), fun q => this.2.2.2.1 (q ▸ hm)⟩
 have k3 : K3 ≠ K1 ∧ K3 ≠ K2 ∧ K3 ≠ K4 := by
  have := n1
  simp only [own, Br, Ap, not_or] at this
  exact ⟨fun q => this.1.2.1 q.symm, fun q => this.2.1.1 q.symm, this.2.2.1.1⟩
 refine ⟨y.x.move fun b o hr q => k b o (fun z => hr (z ▸ o1.1)) (fun z => hr (z ▸ o2.1)) (fun z => hr (z ▸ o4.1)) ⟨fun z => hr (z ▸ oi.1), fun hf => hr (y.fr b hf).1⟩ q,
  fun b o q => k b o (fun z => by rw [z, o1.2.2] at q; cases q) (fun z => by rw [z, o2.2.2] at q; cases q) (fun z => by rw [z, o4.2.2] at q; cases q) ⟨fun z => (by rw [z, oi.2.2] at q; cases q), fun hf => (by rw [(y.fr b hf).2] at q; cases q)⟩ (y.O b o q),
  l1, l2, bQ y.l3 fun o => k _ o k3.1 k3.2.1 k3.2.2 (own' _ (by simp [own])), l4, ?_, ?_, fun f hf => y.inS f (By _ hf), y.ord, (Gl.mp y.rise).1, n1, fun b hb => y.out b (sub b hb), y.fr, y.nb⟩
 ·intro f hf
  refine cG (en f hf _ (.inl rfl)) fun q1 q2 q3 => ?_
  exact k _ _ q1 q2 q3 (own' _ (bj hf).1) (y.mw f (By _ hf))
 ·intro f hf
  refine cG (en f hf _ (.inr rfl)) fun q1 q2 q3 => ?_
  exact (y.it f (By _ hf)).at fun o => k _ o q1 q2 q3 (own' _ (bj hf).2)
theorem Cy.ex (y : Cy w g h a t rank F K1 K2 K3 K4 S c stk) : ∀ b ∈ own K1 K2 K3 K4 stk, h.get? b ≠ none := by
 intro b hb q
 simp only [own, Ap, Dw, Bw, Gz] at hb
 rcases hb with rfl | rfl | rfl | rfl | ⟨e, he, rfl | rfl⟩
 ·obtain ⟨o, z⟩ := y.l1.ex; rw [q] at z; cases z
 ·obtain ⟨n, z⟩ := y.l2; rw [q] at z; cases z
 ·obtain ⟨o, _, _, _, z, _⟩ := y.l3; rw [q] at z; cases z
 ·obtain ⟨_, ⟨o, _, _, z, _⟩, _⟩ := y.l4; rw [q] at z; cases z
 ·have z := y.mw e he; rw [q] at z; cases z
 ·obtain ⟨o, z, _⟩ := y.it e he; rw [q] at z; cases z
theorem Cy.push {e : Ent} {S' : Str -> Bool} {c' : Nat} (y : Cy w g h a t rank F K1 K2 K3 K4 S c stk) (k : ∀ b o, b ≠ K1 -> b ≠ K2 -> b ≠ K3 -> b ≠ K4 -> h.get? b = some o -> h'.get? b = some o)
  (l1 : IsL sOf h' K1 ((stk ++ [e]).map (·.node))) (l2 : h'.PlainList K2 ((stk ++ [e]).map fun e => Value.ref e.mw).toArray) (l3 : h'.SetOf (sK w) K3 S' c') (l4 : KD w h' K4 ((stk ++ [e]).map (·.node)))
  (m : h'.get? e.mw = some (cy e.it)) (i : h'.IsListIter e.it (a.L e.node) e.i) (f1 : h.get? e.mw = none) (f2 : h.get? e.it = none) (f3 : e.mw ≠ e.it) (f4 : e.mw ∉ F) (f5 : e.it ∉ F)
  (hS : ∀ z, S' z = (S z || decide (z = e.node))) (ho : e.node ∈ t.order) (hr : ∀ u ∈ stk, rank u.node < rank e.node) : Cy w g h' a t rank F K1 K2 K3 K4 S' c' (stk ++ [e]) := by
 have o1 := y.out K1 (by simp [own])
 have o2 := y.out K2 (by simp [own])
 have o3 := y.out K3 (by simp [own])
 have o4 := y.out K4 (by simp [own])
 have en : ∀ f ∈ stk, ∀ b, (b = f.mw ∨ b = f.it) -> b ≠ K1 ∧ b ≠ K2 ∧ b ≠ K3 ∧ b ≠ K4 := by
  intro f hf b hb
  have hm : b ∈ stk.flatMap fun e => [e.mw, e.it] := Dw.mpr ⟨f, hf, by rcases hb with rfl | rfl <;> simp⟩
  have := y.nd
  simp only [own, Br, Ap, not_or] at this
  refine ⟨fun q => this.1.2.2.2 (q ▸ hm), fun q => this.2.1.2.2 (q ▸ hm), fun q => this.2.2.1.2 (q ▸ hm), fun q => this.2.2.2.1 (q ▸ hm)⟩
 refine ⟨y.x.move fun b o hr q => k b o (fun z => hr (z ▸ o1.1)) (fun z => hr (z ▸ o2.1)) (fun z => hr (z ▸ o3.1)) (fun z => hr (z ▸ o4.1)) q,
  fun b o q => k b o (fun z => by rw [z, o1.2.2] at q; cases q) (fun z => by rw [z, o2.2.2] at q; cases q) (fun z => by rw [z, o3.2.2] at q; cases q) (fun z => by rw [z, o4.2.2] at q; cases q) (y.O b o q),
  l1, l2, l3, l4, ?_, ?_, ?_, ?_, ?_, ?_, ?_, y.fr, y.nb⟩
 ·intro f hf
  rcases Au.mp hf with q | q
  ·refine dh (en f q _ (.inl rfl)) fun q1 q2 q3 q4 => ?_
   exact k _ _ q1 q2 q3 q4 (y.mw f q)
  ·rw [Ac.mp q]; exact m
 ·intro f hf
  rcases Au.mp hf with q | q
  ·refine dh (en f q _ (.inr rfl)) fun q1 q2 q3 q4 => ?_
   exact (y.it f q).at fun o => k _ o q1 q2 q3 q4
  ·rw [Ac.mp q]; exact i
 ·intro f hf
  rw [hS]
  rcases Au.mp hf with q | q
  ·rw [y.inS f q]; rfl
  ·rw [Ac.mp q]; simp
 ·intro z hz
  rw [hS, Bool.or_eq_true] at hz
  rcases hz with q | q
  ·exact y.ord z q
  ·rw [Dz q]; exact ho
 ·rw [Gl]
  exact ⟨y.rise, by simp, fun u hu v hv => by rw [Ac.mp hv]; exact hr u hu⟩
 ·rw [bV, B5]
  refine ⟨y.nd, by simp [f3], fun b hb v hv => ?_⟩
  intro q
  have := y.ex b hb
  rcases Ap.mp hv with z | z
  ·rw [q, z] at this; exact this f1
  ·rw [q, Ac.mp z] at this; exact this f2
 ·intro b hb
  rw [bV] at hb
  rcases Au.mp hb with q | q
  ·exact y.out b q
  ·rcases Ap.mp q with z | z
   ·rw [z]; exact ⟨y.x.none_of f1, f4, ap y.O f1⟩
   ·rw [Ac.mp z]; exact ⟨y.x.none_of f2, f5, ap y.O f2⟩
end
end
section
abbrev pd : FuncData := fd (inC 50 8) "_find_cycle" "TopologicalSorter._find_cycle" 3 [] .none .none .none (.str (q "cpy313.graphlib") 1763) none (.ref 1202) .none 0
abbrev eFc (L : Addr) : Env := callEnv pd L 1203
def sub : Stmt -> Nat -> Stmt
 | .For _ _ b _ _, j => nth (.Pass ⟨0, 0, 0, 0⟩) b j
 | .While _ b _ _, j => nth (.Pass ⟨0, 0, 0, 0⟩) b j
 | x, _ => x
abbrev n0 : Stmt := sub (nth (.Pass ⟨0, 0, 0, 0⟩) (fnB (inC 50 8)) 5) 1
abbrev oX : Stmt := sub n0 1
theorem Slo.sb {F : List Addr} {a h h' : Heap} {b : Addr} (x : Slo F a h) (hs : Heap.SameBut b h h') (hb : a.get? b = none) : Slo F a h' :=
 x.of fun c o n e => hs.extBut c o (fun q => n (q ▸ hb)) e
theorem Slo.ext {F : List Addr} {a h h' : Heap} (x : Slo F a h) (e : Ext h h') : Slo F a h' := x.of fun c o _ z => e c o z
theorem Slo.less {F : List Addr} {a h h' : Heap} {L : Addr} (x : Slo F a h) (y : Slo (L :: F) h h') (hL : a.get? L = none) : Slo F a h' := by
 refine ⟨fun b o n e => y.keep b o (fun m => ?_) (x.keep b o n e), x.up.trans y.up⟩
 rcases Ap.mp m with rfl | m
 ·rw [hL] at e; cases e
 ·exact n m
theorem FF.slo {h h' : Heap} {l : List Env} (x : FF h l) (y : Slo (fra l) h h') : FF h' l :=
 funFrames_hide (x.of_keeps fun b o e d => let ⟨_, q⟩ := y.up b o e d; ⟨_, q, rfl⟩) fun env he b hb => List.mem_filterMap.mpr ⟨env, he, hb⟩
theorem FF.cons {h : Heap} {env : Env} {l : List Env} {L : Addr} {m : Str -> Option Value} (x : FF h l) (hk : env.scope.kind ≠ .module) (hf : env.frame = some L) (hn : h.Ns L m) : FF h (env :: l) := by
 have hm : ∀ e ∈ env :: l, ∀ b, e.frame = some b -> b ∈ fra (env :: l) := fun e he b hb => List.mem_filterMap.mpr ⟨e, he, hb⟩
 exact Heap.FunFrames.cons hk hf hn (hideAll_none _ (hm env (.head _) L hf)) (funFrames_hide x fun e he => hm e (.tail _ he))
structure Wn (w : World) (g h0 : Heap) (a : Ad) (t : St) (rank : Str -> Nat) (l : List Env) (L K1 K2 K3 K4 : Addr) (S : Str -> Bool) (c : Nat) (stk : List Ent) (y : Str) (h : Heap) : Prop where
 C : Cy w g h a t rank (L :: fra l) K1 K2 K3 K4 S c stk
 z : ∀ b ∈ own K1 K2 K3 K4 stk, h0.get? b = none
 zl : h0.get? L = none
 up : Slo (fra l) h0 h
 n : ∃ m, h.Ns L m ∧ m (q "stack") = some (.ref K1) ∧ m (q "itstack") = some (.ref K2) ∧ m (q "seen") = some (.ref K3) ∧ m (q "node2stacki") = some (.ref K4) ∧ m (q "n2i") = some (.ref a.N) ∧ ∃ tk, m (q "node") = some (.str y tk)
theorem Cy.frame {w : World} {g h h' : Heap} {a : Ad} {t : St} {rank : Str -> Nat} {F : List Addr} {L K1 K2 K3 K4 : Addr} {S : Str -> Bool} {c : Nat} {stk : List Ent} (y : Cy w g h a t rank (L :: F) K1 K2 K3 K4 S c stk) (hs : Heap.SameBut L h h') : Cy w g h' a t rank (L :: F) K1 K2 K3 K4 S c stk :=
 y.keep fun b o hb e => hs.extBut b o (fun q => hb (q ▸ Ar)) e
theorem fJ (items : Array Value) : (items.eraseIdxIfInBounds (items.size - 1)).toList = items.toList.dropLast := by
 rcases Nat.eq_zero_or_pos items.size with h | h
 ·have : items = #[] := Array.eq_empty_of_size_eq_zero h
  subst this; rfl
 ·rw [Array.eraseIdxIfInBounds, dif_pos ((vj h)), Array.toList_eraseIdx]
  rw [<- As, List.eraseIdx_eq_take_drop_succ, List.drop_of_length_le (tW), Gi, List.dropLast_eq_take]
theorem lK {α β : Type} {k : α -> Option β} {items : Array α} {st : List β} {b : β} (h : items.toList.map k = (st ++ [b]).map some) : ∃ y, items[items.size - 1]? = some y ∧ k y = some b ∧ items.toList.dropLast.map k = st.map some := by
 have hl := congrArg List.length h
 simp only [Ai, As, A3, Dd] at hl
 have := congrArg (fun l => l[items.size - 1]?) h
 simp only [List.getElem?_map, Array.getElem?_toList] at this
 rw [List.getElem?_append_right (by omega), show items.size - 1 - st.length = 0 by omega] at this
 refine ⟨items[items.size - 1]'((oR hl)), Array.getElem?_eq_getElem ((oR hl)), ?_, ?_⟩
 ·rw [Array.getElem?_eq_getElem ((oR hl))] at this; simpa using this
 ·rw [List.map_dropLast, h]; simp
section
variable {M : Model} {A : Around} {E : Value -> Shared -> Prop} {s : Shared} {env : Env} {Q : Value -> Shared -> Prop}
theorem mI {a b : Expr} {p pos : Pos} {args : List Expr} {kws : List Keyword}
  (h : wpAny M A (eval (.Subscript a b p) env) (fun f s_1 => wpAny M A (callWith pos f [] (backTo pos (starEach args env)) (backToKw pos (keywordEach kws env))) Q E s_1) E s) :
  wpAny M A (eval (.Call (.Subscript a b p) args kws pos) env) Q E s := by
 show wpAny M A (eval (.Subscript a b p) env >>= fun f => callWith pos f [] (backTo pos (starEach args env)) (backToKw pos (keywordEach kws env))) Q E s
 exact Aa h
theorem iN {mw It : Addr} {pos : Pos} (hm : s.heap.get? mw = some (cy It)) (h : wpAny M A (call (.ref mw) [] []) Q E s) : wpAny M A (callWith pos (.ref mw) [] (backTo pos (starEach [] env)) []) Q E s := by
 unfold callWith
 refine Aa (At (evalArgs_nil3 (Aa (Bz ?_))))
 have L : Looks M s.heap (keeperOf (.ref mw)) .machine := by
  refine (Gs (part := none) hm).andThen ?_
  exact .now
 refine Aa (L.here ?_)
 exact Aa (Aj h (fun r s_2 hr => Aa (At (wpAny_point (Ae hr)))) fun _ _ y => y)
end
section
variable {w : World} {A : Around} {E : Value -> Shared -> Prop} {s : Shared} {Q : Flow -> Shared -> Prop}
theorem lM {k : Nat} {g h0 : Heap} {a : Ad} {t : St} {rank : Str -> Nat} {l : List Env} {L K1 K2 K3 K4 : Addr} {S : Str -> Bool} {c : Nat} {stk : List Ent} {y : Str}
  (R : ak A (k + 2)) (G : Gr w g) (hfr : A.frames = some (eFc L :: l)) (fl : FF h0 l) (X : Wn w g h0 a t rank l L K1 K2 K3 K4 S c stk y s.heap) (hsl : stk.length ≤ 100) (hsu : ∀ z, (t.su z).length ≤ 100)
  (hQ1 : ∀ h' tk' st e z, st ++ [e] <+: stk -> (t.su e.node)[e.i]? = some z -> Wn w g h0 a t rank l L K1 K2 K3 K4 S c (st ++ [{ e with i := e.i + 1 }]) z h' -> Q .next { s with heap := h', toks := tk' })
  (hQ2 : ∀ h' tk', Wn w g h0 a t rank l L K1 K2 K3 K4 S c [] y h' -> Q .brk { s with heap := h', toks := tk' }) :
  wpAny (MK w) A (exec oX (eFc L)) Q E s := by
 refine wpAny_While ?_
 refine codeAny_whileLoop (fun n s' => ∃ st, st <+: stk ∧ n = st.length ∧ Lk s s' ∧ Wn w g h0 a t rank l L K1 K2 K3 K4 S c st y s'.heap) ?_ stk.length ⟨stk, List.prefix_refl _, rfl, Lk.refl _, X⟩
 intro n s' X1
 refine cC X1 ?_
 clear X1
 rintro st hp rfl ⟨h1, tk1, rfl⟩ X1
 dsimp only at X1 ⊢
 have O1 := X1.C.O
 refine jI X1.n fun m n1 e1 e2 e3 e4 e5 Z52 => ?_
 refine ah Z52 fun tky e6 => ?_
 clear Z52
 have lst : st.length ≤ 100 := Ag hp.length_le hsl
 refine ag X1.C.l1 fun i1 P1 q1 => ?_
 have hl1 := congrArg List.length q1
 simp only [Ai, As] at hl1
 refine B0 ?_
 refine nmL n1 e1 ?_
 refine wpAny_truthy_list P1.isList (by omega) ?_
 rcases List.eq_nil_or_concat st with rfl | ⟨st', e, rfl⟩
 ·have he : i1 = #[] := Array.eq_empty_of_size_eq_zero (by simpa using hl1)
  subst he
  refine Ab ?_
  refine wpAny_Break ?_
  exact hQ2 _ _ X1
 ·have hne : (!i1.isEmpty) = true := by
   simp only [Array.isEmpty, Bool.not_eq_true', decide_eq_false_iff_not]
   rw [hl1]; simp
  rw [hne]
  refine ad ?_
  intro Qb
  refine Ab ?_
  refine wpAny_Try_except ?_
  refine ad ?_
  intro Qb
  refine Ab ?_
  refine Aq ?_
  refine mI ?_
  refine Dl ?_
  refine nmL n1 e2 ?_
  refine wpAny_UnaryOp ?_
  refine Av ?_
  refine P.neg_int ?_
  have ei : e ∈ st' ++ [e] := by simp
  have P2 := X1.C.l2
  rw [List.concat_eq_append] at *
  refine tail_any P2.isList.typeIs slot_list_getitem.lookup ?_ (by with_unfolding_all rfl)
  have sz2 : ((st' ++ [e]).map fun e => Value.ref e.mw).toArray.size = st'.length + 1 := by simp
  refine wpAny_getItem_list_neg (x := .ref e.mw) P2.isList (by decide) (by rw [sz2]; omega) (by decide) (by rw [sz2, show (-1 + ((st'.length + 1 : Nat) : Int)).toNat = st'.length by omega]; simp) ?_
  have hmw := X1.C.mw e ei
  have hit := X1.C.it e ei
  have no : e.node ∈ t.order := X1.C.ord _ (X1.C.inS e ei)
  refine ag (X1.C.x.l e.node no) fun il Pl ql => ?_
  have hh : (A.handled = none) := R.h
  refine iN hmw ?_
  have oit := X1.C.out e.it (bj ei).2
  have hLit : L ≠ e.it := fun q => oit.2.1 (q ▸ Ar)
  cases hx : il[e.i]? with
  | some v =>
   refine kn hmw hit Pl.isList hx ?_
   intro h2 it2 s2
   have hz : ∃ z, (t.su e.node)[e.i]? = some z ∧ sOf v = some z := by
    have := congrArg (fun l => l[e.i]?) ql
    simp only [List.getElem?_map, Array.getElem?_toList, hx, Dg] at this
    cases hq : (t.su e.node)[e.i]? with
    | none => rw [hq] at this; cases this
    | some z => rw [hq] at this; exact ⟨z, rfl, by simpa using this⟩
   refine ag hz fun z hz1 hz2 => ?_
   clear hz
   refine ah (ai hz2) ?_
   rintro tz rfl
   refine stL (n1.sameBut s2 hLit) fun h3 n3 s3 => ?_
   refine Ab ?_
   refine wpAny_Break ?_
   exact hQ1 _ _ st' e z hp hz1 ⟨(X1.C.next s2 it2).frame s3, fun b hb => X1.z b (by rw [bV] at hb ⊢; exact hb), X1.zl, (X1.up.sb s2 (X1.z _ (bj ei).2)).sb s3 X1.zl, _, n3, e1, e2, e3, e4, e5, _, rfl⟩
  | none =>
   refine km hh hmw hit Pl.isList hx ?_
   intro h2 h3 ex s2 x3
   have n2 := n1.sameBut s2 hLit
   have up2 := X1.up.sb s2 (X1.z _ (bj ei).2)
   have ff2 : FF h2 (eFc L :: l) := (fl.slo up2).cons (env := eFc L) (fun h => by cases h) rfl n2
   have O2 : Ext g h2 := fun b o q => s2.extBut b o (fun z => by rw [z, oit.2.2] at q; cases q) (O1 b o q)
   refine pv hfr rfl G (fun b o q => ⟨fun hb => (by rw [(X1.C.fr b hb).2] at q; cases q), O2 b o q⟩) ff2 x3 rfl ?_
   intro h4 S4
   have n4 : h4.Ns L m := Heap.UpToSlots.ns S4.up n2
   have up4 : Slo (fra l) h0 h4 := up2.less S4 X1.zl
   have kS : ∀ b ∈ own K1 K2 K3 K4 st', ∀ o, h1.get? b = some o -> h4.get? b = some o := fun b hb o q =>
    S4.keep b o (X1.C.out b (by rw [bV]; exact By _ hb)).2.1 (s2.extBut b o ((dB X1.C.nd).2.1 b hb).2 q)
   have nd' := (dB X1.C.nd).1
   have k12 : K1 ≠ K2 ∧ K1 ≠ K4 ∧ K2 ≠ K4 := by
    simp only [own, Br, Ap, not_or] at nd'
    exact ⟨nd'.1.1, nd'.1.2.2.1, nd'.2.1.2.1⟩
   have m1 : K1 ∈ own K1 K2 K3 K4 st' := by simp [own]
   have m2 : K2 ∈ own K1 K2 K3 K4 st' := by simp [own]
   have m4 : K4 ∈ own K1 K2 K3 K4 st' := by simp [own]
   have up' : ∀ b ∈ own K1 K2 K3 K4 st', b ∈ own K1 K2 K3 K4 (st' ++ [e]) := fun b hb => by rw [bV]; exact By _ hb
   have L1 : L ≠ K1 := fun q => (X1.C.out K1 (up' _ m1)).2.1 (q ▸ Ar)
   have L2 : L ≠ K2 := fun q => (X1.C.out K2 (up' _ m2)).2.1 (q ▸ Ar)
   have L4 : L ≠ K4 := fun q => (X1.C.out K4 (up' _ m4)).2.1 (q ▸ Ar)
   have P1' := P1.at (kS _ m1)
   have P2' := P2.at (kS _ m2)
   have D4 := X1.C.l4.at (kS _ m4)
   rw [Ba] at q1 D4 P2'
   refine aZ (lK q1) fun v hv hsv hdl => ?_
   refine ah (ai hsv) ?_
   rintro tv rfl
   refine ah P1' fun nn1 p1' => ?_
   clear P1'
   have top := X1.C.top
   refine ad ?_
   intro Qb
   refine Ab ?_
   refine wpAny_Delete ?_
   refine wpAny_deleteEach_cons ?_
   refine wpAny_delete_Subscript ?_
   refine nmL n4 e4 ?_
   refine ad ?_
   intro Qb
   refine Bc (pl := _) ?_
   refine nmL n4 e1 ?_
   refine Bi (T := "list") (id := "list.pop") ⟨_, p1', rfl⟩ Bn PySem.F.slot_list_pop PySem.F.type_list_pop (fun b e => by cases e; exact ⟨_, p1', rfl⟩) ?_
   refine P.pop_list p1' hv ?_ (by rw [Az]; exact oQ lst hl1)
   have s5 : Heap.SameBut K1 h4 (h4.update K1 (Obj.mapSeq fun xs => xs.eraseIdxIfInBounds (i1.size - 1))) := A8 ..
   have l5 : IsL sOf (h4.update K1 (Obj.mapSeq fun xs => xs.eraseIdxIfInBounds (i1.size - 1))) K1 (st'.map (·.node)) := ⟨_, ⟨_, PySem.IsL.update p1' _⟩, by rw [fJ]; exact hdl⟩
   generalize h4.update K1 (Obj.mapSeq fun xs => xs.eraseIdxIfInBounds (i1.size - 1)) = h5 at *
   have n5 := n4.sameBut s5 L1
   refine pJ (D4.at fun o => s5.extBut _ o k12.2.1.symm) top (by rw [Az, Ai]; simp at lst; exact u7 lst) ?_
   intro h6 D6 s6
   have n6 := n5.sameBut s6 L4
   refine wpAny_deleteEach_nil ?_
   refine ad ?_
   intro Qb
   refine Ab ?_
   refine wpAny_Expr_any ?_
   refine ah P2' fun nn2 p2 => ?_
   clear P2'
   have p2 := s6.extBut _ _ k12.2.2 (s5.extBut _ _ k12.1.symm p2)
   refine ad ?_
   intro Qb
   refine Bc (pl := _) ?_
   refine nmL n6 e2 ?_
   refine Bi (T := "list") (id := "list.pop") ⟨_, p2, rfl⟩ Bn PySem.F.slot_list_pop PySem.F.type_list_pop (fun b e => by cases e; exact ⟨_, p2, rfl⟩) ?_
   refine P.pop_list (y := .ref e.mw) p2 (by simp) ?_ (by rw [Az]; simp at lst ⊢; exact u6 lst)
   generalize hIT : (st'.map (fun e => Value.ref e.mw) ++ [e].map fun e => Value.ref e.mw).toArray = its at *
   have s7 : Heap.SameBut K2 h6 (h6.update K2 (Obj.mapSeq fun xs => xs.eraseIdxIfInBounds (its.size - 1))) := A8 ..
   have l7 : (h6.update K2 (Obj.mapSeq fun xs => xs.eraseIdxIfInBounds (its.size - 1))).PlainList K2 (st'.map fun e => Value.ref e.mw).toArray := by
    have : its.eraseIdxIfInBounds (its.size - 1) = (st'.map fun e => Value.ref e.mw).toArray := by
     apply Array.toList_inj.mp
     rw [fJ, <- hIT]; simp
    rw [<- this]
    exact ⟨_, PySem.IsL.update p2 _⟩
   generalize h6.update K2 (Obj.mapSeq fun xs => xs.eraseIdxIfInBounds (its.size - 1)) = h7 at *
   refine Ah ?_
   refine Ah ?_
   refine ⟨st'.length, by simp, st', (List.prefix_append _ _).trans hp, rfl, Lk.of, ?_, fun b hb => X1.z b (up' b hb), X1.zl, ((up4.sb s5 (X1.z _ (up' _ m1))).sb s6 (X1.z _ (up' _ m4))).sb s7 (X1.z _ (up' _ m2)), m, n6.sameBut s7 L2, e1, e2, e3, e4, e5, _, e6⟩
   refine X1.C.pop (fun b o x1 x2 x4 x5 x6 q => ?_) (l5.at fun o q => s7.extBut _ o k12.1 (s6.extBut _ o k12.2.1 q)) l7 (D6.at fun o => s7.extBut _ o k12.2.2.symm)
   exact s7.extBut b o x2 (s6.extBut b o x4 (s5.extBut b o x1 (S4.keep b o x6 (s2.extBut b o x5 q))))
end
end
end Mine
end
section
open PySem PySem.W PyProof.Rows PySem.Calls PySem.Spec Builtin Builtin.ObjectAttr
namespace Mine
section
section
variable {w : World} {A : Around} {E : Value -> Shared -> Prop}
theorem kq {hh : Heap} {g d t os} {It L : Addr} {i : Nat} {expr : Bool} {Q : Value -> Shared -> Prop} (ho : hh.get? It = some { cls := .type "list_iterator", data := .fields #[.ref L, .int i 0] })
  (h : ∀ tk, Q (.ref hh.objs.size) ⟨hh.push { cls := .type "method-wrapper", data := .fields #[.builtin "list_iterator.__next__", .ref It] }, g, d, tk, os⟩) :
  wpAny (MK w) A (getAttr (.ref It) (q "__next__") expr) Q E ⟨hh, g, d, t, os⟩ := by
 have L0 : Looks (MK w) hh (typeOf (.ref It)) (.type "list_iterator") := (Gs ho).andThen .now
 have L1 : Looks (MK w) hh (typeLookup (.type "list_iterator") "__getattribute__") (some (.builtin "object.__getattribute__")) := B4 (by rw [Du, B1]; kernel_rfl)
 have L2 : Looks (MK w) hh (typeLookup (.type "list_iterator") (q "__next__")) (some (.builtin "list_iterator.__next__")) := B4 (by rw [Du, B1]; kernel_rfl)
 unfold getAttr getAttrBy
 refine Aa (wpAny_mkText (At (Aa (L0.at (Aa (L1.at ?_))))))
 show wpAny _ _ (getAttrByItsOwn (.ref It) (.str (q "__next__") t) (.type "list_iterator") (.builtin "object.__getattribute__") true expr) _ _ _
 unfold getAttrByItsOwn hookBefore callGetattribute boundAndCalled
 refine Aa (B6 (show (if onTheHeap (.type "list_iterator") then typeLookup (.type "list_iterator") "__getattr__" else pure none) = pure none from rfl) ?_)
 refine Aa (wpAny_attempt (At ?_))
 have SG : Slot "list_iterator" "__getattribute__" "object.__getattribute__" := .of (owner := "object") (n := "__getattribute__") (by rw [Du, B1]; kernel_rfl) (by decide +kernel) (by decide +kernel) (by decide +kernel)
  (by first | exact .inl (by decide +kernel) | exact .inr (by decide +kernel)) (by rw [isSubtype_type]; kernel_rfl)
 have EG : entryFor table "object.__getattribute__" = some Builtin.«object.__getattribute__» := entryFor_of_tree (by kernel_rfl)
 have AG : ∀ a b, argsOk "object.__getattribute__" ⟨[a, b], []⟩ := fun a b => by unfold argsOk; kernel_rfl
 have hT : ∀ t', (⟨hh, g, d, t', os⟩ : Shared).TypeIs (.ref It) "list_iterator" := fun _ => ⟨_, ho, rfl⟩
 rw [show onTheHeap (.builtin "object.__getattribute__") = false from rfl, Bool.and_false]
 simp only [Al, Be]
 refine Aa (B6 (SG.bind _) ?_)
 have GT : Looks (MK w) hh (typeLookup (.type "wrapper_descriptor") "__get__") (some (.builtin "wrapper_descriptor.__get__")) := B4 (by rw [Du, B1]; kernel_rfl)
 have GS : Looks (MK w) hh (typeLookup (.type "wrapper_descriptor") "__set__") none := B4 (by rw [Du, B1]; kernel_rfl)
 have GD : Looks (MK w) hh (typeLookup (.type "wrapper_descriptor") "__delete__") none := B4 (by rw [Du, B1]; kernel_rfl)
 have TW : Looks (MK w) hh (typeOf (.builtin "list_iterator.__next__")) (.type "wrapper_descriptor") := B4 (by show builtinType _ = _; rw [builtinType_eq_fast]; kernel_rfl)
 refine Aj (Q := fun v s' => ∃ tk, v = .ref hh.objs.size ∧ s' = ⟨hh.push { cls := .type "method-wrapper", data := .fields #[.builtin "list_iterator.__next__", .ref It] }, g, d, tk, os⟩) (E := fun _ _ => False)
  (wpAny_call_entry SG (hT _) EG ?_ (AG _ _)) (fun v s' hv => ?_) fun _ _ z => z.elim
 ·unfold Builtin.«object.__getattribute__» find getOf dataDescriptor? ownThenClass inOwnDict specialOf takesStores
  have SW : Slot "wrapper_descriptor" "__get__" "wrapper_descriptor.__get__" := .of (owner := "wrapper_descriptor") (n := "__get__") (by rw [Du, B1]; kernel_rfl) (by decide +kernel) (by decide +kernel) (by decide +kernel)
   (by first | exact .inl (by decide +kernel) | exact .inr (by decide +kernel)) (by rw [isSubtype_type]; kernel_rfl)
  have EW : entryFor table "wrapper_descriptor.__get__" = some Builtin.«wrapper_descriptor.__get__» := entryFor_of_tree (by kernel_rfl)
  have AW : argsOk "wrapper_descriptor.__get__" ⟨[.builtin "list_iterator.__next__", .ref It, .type "list_iterator"], []⟩ := by unfold argsOk; kernel_rfl
  have TS : ∀ t', (⟨hh, g, d, t', os⟩ : Shared).TypeIs (.builtin "list_iterator.__next__") "wrapper_descriptor" := fun _ => by show typeOf (.builtin "list_iterator.__next__") = pure (.type "wrapper_descriptor"); show builtinType _ = _; rw [builtinType_eq_fast]; kernel_rfl
  repeat (first | (with_reducible refine wpAny_call_entry SW (TS _) EW ?_ AW) | lk)
  exact ⟨_, rfl, Ae ⟨_, rfl, _, rfl, rfl⟩⟩
 ·refine ag hv ?_
  clear hv
  rintro tk rfl rfl
  exact Ae (h tk)
end
end
end Mine
end
section
open PySem PySem.W PyProof.Rows PySem.Calls PySem.Spec
namespace Mine
section
def di (t : St) (S : Str -> Bool) : Nat := (t.order.filter fun z => !S z).length
def mu (t : St) (S : Str -> Bool) (stk : List Ent) : Nat := ((t.order.filter fun z => !S z).map fun z => (t.su z).length + 1).sum + (stk.map fun e => (t.su e.node).length - e.i).sum
theorem gw {α : Type} [DecidableEq α] (S : α -> Bool) (f : α -> Nat) (y : α) : ∀ l : List α, ((l.filter fun z => !(S z || decide (z = y))).map f).sum ≤ ((l.filter fun z => !S z).map f).sum
 | [] => Aw _
 | u :: l => by
  have ih := gw S f y l
  simp only [List.filter_cons]
  by_cases e : u = y <;> cases hS : S u <;> simp [e] at ih ⊢ <;> omega
theorem cI {α : Type} [DecidableEq α] (S : α -> Bool) (f : α -> Nat) (y : α) (hy : S y = false) : ∀ l : List α, y ∈ l -> ((l.filter fun z => !(S z || decide (z = y))).map f).sum + f y ≤ ((l.filter fun z => !S z).map f).sum
 | x :: l, h => by
  by_cases e : x = y
  ·subst e
   have := gw S f x l
   simp [hy] at this ⊢; exact rA this
  ·have ih := cI S f y hy l (by rcases Ap.mp h with r | r; exact absurd r.symm e; exact r)
   simp only [List.filter_cons]
   cases hS : S x <;> simp [e] at ih ⊢ <;> omega
theorem ng {t : St} {S : Str -> Bool} {stk : List Ent} {y : Str} {mw it : Addr} (hS : S y = false) (hy : y ∈ t.order) : mu t (fun z => S z || decide (z = y)) (stk ++ [⟨y, 0, mw, it⟩]) < mu t S stk := by
 have := cI S (fun z => (t.su z).length + 1) y hS t.order hy
 simp only [mu, Ba, List.sum_append, A2, Gv, Gp, List.sum_nil]
 exact rv this
theorem g7 {t : St} {S : Str -> Bool} {y : Str} (hS : S y = false) (hy : y ∈ t.order) : di t (fun z => S z || decide (z = y)) + 1 ≤ di t S := by
 have := cI S (fun _ => 1) y hS t.order hy
 have one : ∀ l : List Str, (l.map fun _ => 1).sum = l.length := by
  intro l
  induction l with
  | nil => rfl
  | cons x l ih => rw [A2, Gp, ih, Bj]; exact u2
 rw [one, one] at this
 exact this
theorem jQ {t : St} {S : Str -> Bool} {stk st : List Ent} {e : Ent} {z : Str} (hp : st ++ [e] <+: stk) (hz : (t.su e.node)[e.i]? = some z) : mu t S (st ++ [{ e with i := e.i + 1 }]) < mu t S stk := by
 refine ah hp ?_
 clear hp
 rintro r rfl
 have := (List.getElem?_eq_some_iff.mp hz).1
 simp only [mu, Ba, List.sum_append, A2, Gv, Gp, List.sum_nil]
 exact q8 this
section
variable {w : World} {A : Around} {E : Value -> Shared -> Prop} {s : Shared} {Q : Flow -> Shared -> Prop}
theorem mK {k : Nat} {g h0 : Heap} {a : Ad} {t : St} {rank : Str -> Nat} {l : List Env} {L K1 K2 K3 K4 : Addr} {S : Str -> Bool} {c : Nat} {y : Str}
  (R : ak A (k + 3)) (G : Gr w g) (hfr : A.frames = some (eFc L :: l)) (fl : FF h0 l) (X : Wn w g h0 a t rank l L K1 K2 K3 K4 S c [] y s.heap) (hy : y ∈ t.order) (hc : c + di t S ≤ t.order.length) (hlen : t.order.length ≤ 100) (hsu : ∀ z, (t.su z).length ≤ 100)
  (hrank : ∀ y ∈ t.order, ∀ z ∈ t.su y, z ∈ t.order ∧ rank y < rank z)
  (hQ : ∀ h' tk' S' c' y', Wn w g h0 a t rank l L K1 K2 K3 K4 S' c' [] y' h' -> c' + di t S' ≤ t.order.length -> Q .next { s with heap := h', toks := tk' }) :
  wpAny (MK w) A (exec n0 (eFc L)) Q E s := by
 refine wpAny_While ?_
 refine codeAny_whileLoop (fun n s' => ∃ S c stk y, Lk s s' ∧ Wn w g h0 a t rank l L K1 K2 K3 K4 S c stk y s'.heap ∧ y ∈ t.order ∧ (∀ e ∈ stk, rank e.node < rank y) ∧ stk.length ≤ c ∧ c + di t S ≤ t.order.length ∧ n = mu t S stk) ?_ (mu t S []) ⟨S, c, [], y, Lk.refl _, X, hy, by simp, by simp, hc, rfl⟩
 intro n s' X1
 refine wf X1 ?_
 clear X1
 rintro S c stk y ⟨h1, tk1, rfl⟩ X1 hy hrk hsc hc rfl
 dsimp only at X1 ⊢
 have O1 := X1.C.O
 refine jI X1.n fun m n1 e1 e2 e3 e4 e5 Z1 => ?_
 refine ah Z1 fun tky e6 => ?_
 clear Z1
 have nin : y ∉ stk.map (·.node) := fun hm => by
  refine ag (A0.mp hm) fun e he q => ?_
  have := hrk e he
  rw [q] at this; exact A9 _ this
 refine B0 ?_
 refine wpAny_Constant_bool ?_
 refine Am ?_
 simp only [if_true]
 refine ad ?_
 intro Qb
 refine Ab ?_
 refine ad ?_
 intro Qb
 refine B7 ?_
 refine Ao ?_
 refine nmL n1 e6 ?_
 refine nmL n1 e3 ?_
 refine wpAny_inSet_of (knd := sK w) (k := y) (aM y tky) rfl X1.C.l3 ?_
 refine Am ?_
 have R2 : ak A (k + 2) := R.le (uY)
 cases hS : S y with
 | true =>
  simp only [if_true]
  refine ad ?_
  intro Qb
  refine Ab ?_
  refine ad ?_
  intro Qb
  refine B7 ?_
  refine Ao ?_
  refine nmL n1 e6 ?_
  refine nmL n1 e4 ?_
  refine uF X1.C.nb X1.C.l4 nin ?_
  refine Am ?_
  simp only [Al, Be]
  refine Ah ?_
  refine Ah ?_
  refine ad ?_
  intro Qb
  refine Ab ?_
  refine lM (k := k) R2 G hfr fl X1 ((rk hlen hsc hc)) hsu ?_ ?_
  ·intro h' tk' st e z hp hz X'
   try dsimp only
   refine Ah ?_
   have he : e ∈ st ++ [e] := by simp
   have hes : e ∈ stk := hp.subset he
   refine ao (hrank e.node (X1.C.ord _ (X1.C.inS e hes)) z (List.mem_of_getElem? hz)) fun hzo hzr => ?_
   refine ⟨_, jQ hp hz, S, c, _, z, Lk.of, X', hzo, ?_, ?_, hc, rfl⟩
   ·intro f hf
    rcases Au.mp hf with q | q
    ·have hr := X'.C.rise
     rw [Gl] at hr
     exact Gj (hr.2.2 f q _ (Ac.mpr rfl)) hzr
    ·rw [Ac.mp q]; exact hzr
   ·have := hp.length_le
    simp only [A3, Dd] at this ⊢; exact rF hsc this
  ·intro h' tk' X'
   try dsimp only
   exact hQ _ _ S c y X' hc
 | false =>
  simp only [Al, Be]
  have nd := X1.C.nd
  have k12 : (K3 ≠ K1 ∧ K3 ≠ K2 ∧ K3 ≠ K4) ∧ K1 ≠ K2 ∧ K1 ≠ K4 ∧ K2 ≠ K4 := by
   simp only [own, Br, Ap, not_or] at nd
   exact ⟨⟨fun q => nd.1.2.1 q.symm, fun q => nd.2.1.1 q.symm, nd.2.2.1.1⟩, nd.1.1, nd.1.2.2.1, nd.2.1.2.1⟩
  refine dh k12 ?_
  clear k12
  rintro ⟨k31, k32, k34⟩ k12 k14 k24
  have o1 := X1.C.out K1 (by simp [own])
  have o2 := X1.C.out K2 (by simp [own])
  have o3 := X1.C.out K3 (by simp [own])
  have o4 := X1.C.out K4 (by simp [own])
  have z1 := X1.z K1 (by simp [own])
  have z2 := X1.z K2 (by simp [own])
  have z3 := X1.z K3 (by simp [own])
  have z4 := X1.z K4 (by simp [own])
  have L1 : L ≠ K1 := fun q => o1.2.1 (q ▸ Ar)
  have L2 : L ≠ K2 := fun q => o2.2.1 (q ▸ Ar)
  have L3 : L ≠ K3 := fun q => o3.2.1 (q ▸ Ar)
  have L4 : L ≠ K4 := fun q => o4.2.1 (q ▸ Ar)
  have ff1 := fl.slo X1.up
  have fnew : ∀ b, h1.get? b = none -> b ∉ L :: fra l ∧ h0.get? b = none := by
   intro b hb
   have nf : b ∉ L :: fra l := fun hm => by
    rcases Ap.mp hm with rfl | hm
    ·obtain ⟨o, _, _, ho, _⟩ := n1; rw [hb] at ho; cases ho
    ·obtain ⟨_, o, ho, _⟩ := ff1.mem hm; rw [hb] at ho; cases ho
   refine ⟨nf, ?_⟩
   cases q : h0.get? b with
   | none => rfl
   | some o => have := X1.up.keep b o (fun hm => nf (A1 _ hm)) q; rw [hb] at this; cases this
  have uS := g7 hS hy
  refine ad ?_
  intro Qb
  refine Ab ?_
  refine Gm ?_
  refine ad ?_
  intro Qb
  refine Bc (pl := _) ?_
  refine nmL n1 e3 ?_
  refine getMethod_set_add X1.C.l3 ?_
  refine Gb ?_
  refine Ak ?_
  refine nmL n1 e6 ?_
  refine An ?_
  refine call_set_add (knd := sK w) (k := y) (aM y tky) rfl X1.C.l3 (by simp only [scanBound]; exact rQ hlen hc) ?_
  intro h2 s2 l3
  rw [hS] at l3
  simp only [Al, Be] at l3
  have n2 := n1.sameBut s2 L3
  have x2 := X1.C.x.sb s2 o3.1
  have O2 : Ext g h2 := fun b o q => s2.extBut b o (fun z => by rw [z, o3.2.2] at q; cases q) (O1 b o q)
  have P2 := X1.C.l2.at fun o => s2.extBut _ o k32.symm
  refine ah (id P2) fun nn2 p2 => ?_
  refine ad ?_
  intro Qb
  refine Ab ?_
  refine Gm ?_
  refine ad ?_
  intro Qb
  refine Bc (pl := _) ?_
  refine nmL n2 e2 ?_
  refine Bi (T := "list") (id := "list.append") ⟨_, p2, rfl⟩ Bn Go Gn (fun b e => by cases e; exact ⟨_, p2, rfl⟩) ?_
  refine Gb ?_
  refine Ak ?_
  refine Attribute_any_ ?_
  refine ad ?_
  intro Qb
  refine bE (G.ext O2) rfl rfl ?_
  refine Ak ?_
  refine Attribute_any_ ?_
  refine jD (g := g) (a := a) (t := t) ?_
  refine nmL n2 e5 ?_
  refine nmL n2 e6 ?_
  refine EI2 y tky ⟨rfl, rfl, hy, x2, ?_⟩
  refine aB (x2.i y hy) fun tc tn Sl => ?_
  refine gR (s := { s with heap := h2, toks := _ }) (i := 2) (G.ext O2) Sl rfl rfl (h := ?_)
  refine An ?_
  refine ag (x2.l y hy) fun il Pl ql => ?_
  refine kH Pl.isList ?_
  refine kq (i := 0) (Heap.get?_push_size _ rfl) ?_
  intro tk3
  refine An ?_
  have k4 : Ext h2 ((h2.push { cls := .type "list_iterator", data := .fields #[.ref (a.L y), .int 0 0] }).push (cy h2.objs.size)) := Ext.trans (ac _ _) (ac _ _)
  have t4 : ((h2.push { cls := .type "list_iterator", data := .fields #[.ref (a.L y), .int 0 0] }).push (cy h2.objs.size)).IsListIter h2.objs.size (a.L y) 0 := ⟨_, ac _ _ _ _ (Heap.get?_push_size _ rfl), rfl, rfl⟩
  have u4 : ((h2.push { cls := .type "list_iterator", data := .fields #[.ref (a.L y), .int 0 0] }).push (cy h2.objs.size)).get? (h2.push { cls := .type "list_iterator", data := .fields #[.ref (a.L y), .int 0 0] }).objs.size = some (cy h2.objs.size) := Heap.get?_push_size _ rfl
  have fit : h1.get? h2.objs.size = none := av (by rw [s2.1]; exact Aw _)
  have fmw : h1.get? (h2.push { cls := .type "list_iterator", data := .fields #[.ref (a.L y), .int 0 0] }).objs.size = none := av (by rw [A4, s2.1]; exact B2 _)
  have fne : (h2.push { cls := .type "list_iterator", data := .fields #[.ref (a.L y), .int 0 0] }).objs.size ≠ h2.objs.size := by rw [A4]; exact Nat.succ_ne_self _
  show wpAny _ _ (call (.builtin "list.append") [.ref K2, .ref (h2.push { cls := .type "list_iterator", data := .fields #[.ref (a.L y), .int 0 0] }).objs.size]) _ _ { s with heap := (h2.push { cls := .type "list_iterator", data := .fields #[.ref (a.L y), .int 0 0] }).push (cy h2.objs.size), toks := _ }
  generalize (h2.push { cls := .type "list_iterator", data := .fields #[.ref (a.L y), .int 0 0] }).push (cy h2.objs.size) = h4 at *
  generalize (h2.push { cls := .type "list_iterator", data := .fields #[.ref (a.L y), .int 0 0] }).objs.size = mw at *
  generalize h2.objs.size = it at *
  refine Dm (P2.at fun o => k4 _ o) ?_ (by rw [Az, List.size_toArray, Ai]; exact qj hlen hsc hc)
  intro h5 P5 s5
  have n5 := (n2.keeps k4).sameBut s5 L2
  have O5 : Ext g h5 := fun b o q => s5.extBut b o (fun z => by rw [z, o2.2.2] at q; cases q) (k4 b o (O2 b o q))
  refine ad ?_
  intro Qb
  refine Ab ?_
  refine Ga ?_
  refine ad ?_
  intro Qb
  refine bE (G.ext O5) rfl rfl ?_
  refine Ak ?_
  refine nmL n5 e1 ?_
  refine An ?_
  refine ag X1.C.l1 fun i1 P1 q1 => ?_
  have hl1 := congrArg List.length q1
  simp only [Ai, As] at hl1
  have P15 := P1.at fun o q => s5.extBut _ o k12 (k4 _ o (s2.extBut _ o k31.symm q))
  refine PyProof.Rows.len_list P15.isList (by omega) ?_
  refine nmL n5 e4 ?_
  refine nmL n5 e6 ?_
  refine pI (X1.C.l4.at fun o q => s5.extBut _ o k24.symm (k4 _ o (s2.extBut _ o k34.symm q))) nin (by rw [Az, Ai]; exact qj hlen hsc hc) ?_
  intro h6 D6 s6
  have n6 := n5.sameBut s6 L4
  refine ah (P15.at fun o => s6.extBut _ o k14) fun nn1 p1 => ?_
  refine ad ?_
  intro Qb
  refine Ab ?_
  refine Gm ?_
  refine ad ?_
  intro Qb
  refine Bc (pl := _) ?_
  refine nmL n6 e1 ?_
  refine Bi (T := "list") (id := "list.append") ⟨_, p1, rfl⟩ Bn Go Gn (fun b e => by cases e; exact ⟨_, p1, rfl⟩) ?_
  refine Gb ?_
  refine Ak ?_
  refine nmL n6 e6 ?_
  refine An ?_
  refine Dm ⟨_, p1⟩ ?_ (by rw [Az]; exact qZ hlen hsc hc hl1)
  intro h7 P7 s7
  refine Ah ?_
  refine ad ?_
  intro Qb
  refine Ab ?_
  have X7 : Wn w g h0 a t rank l L K1 K2 K3 K4 (fun z => S z || decide (z = y)) (c + 1) (stk ++ [⟨y, 0, mw, it⟩]) y h7 := by
   refine ⟨X1.C.push (e := ⟨y, 0, mw, it⟩) (fun b o y1 y2 y3 y4 q => s7.extBut b o y1 (s6.extBut b o y4 (s5.extBut b o y2 (k4 b o (s2.extBut b o y3 q)))))
    ⟨_, P7, by rw [G7, Ba, q1]; simp [sOf]⟩ ?_ ?_ ?_ ?_ ?_ fmw fit fne (fnew _ fmw).1 (fnew _ fit).1 (fun _ => rfl) hy hrk, ?_, X1.zl, ?_, m, n6.sameBut s7 L1, e1, e2, e3, e4, e5, _, e6⟩
   ·have : ((stk ++ [(⟨y, 0, mw, it⟩ : Ent)]).map fun e => Value.ref e.mw).toArray = (stk.map fun e => Value.ref e.mw).toArray.push (.ref mw) := by simp
    rw [this]
    exact P5.at fun o q => s7.extBut _ o k12.symm (s6.extBut _ o k24 q)
   ·exact bQ l3 fun o q => s7.extBut _ o k31 (s6.extBut _ o k34 (s5.extBut _ o k32 (k4 _ o q)))
   ·rw [Ba]
    exact D6.at fun o q => s7.extBut _ o k14.symm q
   ·have a1 : mw ≠ K1 := fun q => by have := X1.C.ex K1 (by simp [own]); rw [<- q, fmw] at this; exact this rfl
    have a2 : mw ≠ K2 := fun q => by have := X1.C.ex K2 (by simp [own]); rw [<- q, fmw] at this; exact this rfl
    have a4 : mw ≠ K4 := fun q => by have := X1.C.ex K4 (by simp [own]); rw [<- q, fmw] at this; exact this rfl
    exact s7.extBut _ _ a1 (s6.extBut _ _ a4 (s5.extBut _ _ a2 u4))
   ·have a1 : it ≠ K1 := fun q => by have := X1.C.ex K1 (by simp [own]); rw [<- q, fit] at this; exact this rfl
    have a2 : it ≠ K2 := fun q => by have := X1.C.ex K2 (by simp [own]); rw [<- q, fit] at this; exact this rfl
    have a4 : it ≠ K4 := fun q => by have := X1.C.ex K4 (by simp [own]); rw [<- q, fit] at this; exact this rfl
    exact t4.at fun o q => s7.extBut _ o a1 (s6.extBut _ o a4 (s5.extBut _ o a2 q))
   ·intro b hb
    rw [bV] at hb
    rcases Au.mp hb with q | q
    ·exact X1.z b q
    ·rcases Ap.mp q with r | r
     ·rw [r]; exact (fnew _ fmw).2
     ·rw [Ac.mp r]; exact (fnew _ fit).2
   ·exact ((((X1.up.sb s2 z3).ext k4).sb s5 z2).sb s6 z4).sb s7 z1
  refine lM (k := k) R2 G hfr fl X7 (by rw [A3, Dd]; exact q0 hlen hsc hc uS) hsu ?_ ?_
  ·intro h' tk' st e z hp hz X'
   try dsimp only
   refine Ah ?_
   have he : e ∈ st ++ [e] := by simp
   have hes := hp.subset he
   refine ao (hrank e.node (X7.C.ord _ (X7.C.inS e hes)) z (List.mem_of_getElem? hz)) fun hzo hzr => ?_
   refine ⟨_, Gj (jQ hp hz) (ng hS hy), _, c + 1, _, z, Lk.of, X', hzo, ?_, ?_, (qn hc uS), rfl⟩
   ·intro f hf
    rcases Au.mp hf with q | q
    ·have hr := X'.C.rise
     rw [Gl] at hr
     exact Gj (hr.2.2 f q _ (Ac.mpr rfl)) hzr
    ·rw [Ac.mp q]; exact hzr
   ·have := hp.length_le
    simp only [A3, Dd] at this ⊢; exact rG hsc this
  ·intro h' tk' X'
   try dsimp only
   exact hQ _ _ _ (c + 1) y X' ((qn hc uS))
end
end
section
theorem Slo.hide {F H : List Addr} {a h h' : Heap} (x : Slo F a h) (y : Slo F (hideAll h H) h') (hH : ∀ b ∈ H, a.get? b = none) : Slo F a h' := by
 have out : ∀ b o, a.get? b = some o -> b ∉ H := fun b o e hm => by rw [hH b hm] at e; cases e
 refine ⟨fun b o n e => y.keep b o n (hideAll_get _ (x.keep b o n e) (out b o e)), fun b o e d => ?_⟩
 refine ah (x.up b o e d) fun sl q => ?_
 refine ah (y.up b _ (hideAll_get _ q (out b o e)) (fun vs z => d vs z)) fun sl' q' => ?_
 exact ⟨sl', q'⟩
theorem dR {h h' base : Heap} : ∀ {l : List Env}, h.FunFrames base l -> (∀ b ∈ fra l, ∀ o, h.get? b = some o -> h'.get? b = some o) -> h'.FunFrames base l
 | [], _, _ => trivial
 | env :: l, ⟨hk, ⟨L, o, hf, hn, ho, hd⟩, hr⟩, k => by
  have e : fra (env :: l) = L :: fra l := by simp [fra, hf]
  rw [e] at k
  exact ⟨hk, ⟨L, o, hf, hn, k L Ar o ho, hd⟩, dR hr fun b hb => k b (A1 _ hb)⟩
theorem FF.at {h h' : Heap} {l : List Env} (x : FF h l) (k : ∀ b ∈ fra l, ∀ o, h.get? b = some o -> h'.get? b = some o) : FF h' l :=
 funFrames_hide (dR x k) fun env he b hb => List.mem_filterMap.mpr ⟨env, he, hb⟩
theorem FF.ext {h h' : Heap} {l : List Env} (x : FF h l) (k : Ext h h') : FF h' l := x.at fun b _ o => k b o
theorem FF.some {h : Heap} {l : List Env} (x : FF h l) {b : Addr} (hb : b ∈ fra l) : h.get? b ≠ none := fun e => by
 obtain ⟨_, o, ho, _⟩ := x.mem hb; rw [e] at ho; cases ho
theorem Cy.keepW {w : World} {g h h' : Heap} {a : Ad} {t : St} {rank : Str -> Nat} {F wr : List Addr} {K1 K2 K3 K4 : Addr} {S : Str -> Bool} {c : Nat} {stk : List Ent} (y : Cy w g h a t rank F K1 K2 K3 K4 S c stk)
  (hw : ∀ b ∈ wr, a.role b = none ∧ g.get? b = none ∧ b ∉ own K1 K2 K3 K4 stk) (k : ∀ b o, b ∉ wr -> h.get? b = some o -> h'.get? b = some o) : Cy w g h' a t rank F K1 K2 K3 K4 S c stk := by
 have ko : ∀ b ∈ own K1 K2 K3 K4 stk, ∀ o, h.get? b = some o -> h'.get? b = some o := fun b hb o e => k b o (fun hm => (hw b hm).2.2 hb) e
 refine ⟨y.x.move fun b o hr e => k b o (fun hf => hr (hw b hf).1) e, fun b o e => k b o (fun hf => by rw [(hw b hf).2.1] at e; cases e) (y.O b o e),
  y.l1.at (ko _ (by simp [own])), y.l2.at (ko _ (by simp [own])), bQ y.l3 (ko _ (by simp [own])), y.l4.at (ko _ (by simp [own])),
  fun e he => ko _ (bj he).1 _ (y.mw e he), fun e he => (y.it e he).at (ko _ (bj he).2), y.inS, y.ord, y.rise, y.nd, y.out, y.fr, y.nb⟩
def Jn (w : World) (g h0 : Heap) (a : Ad) (t : St) (rank : Str -> Nat) (l : List Env) (L K1 K2 K3 K4 : Addr) (h : Heap) : Prop :=
 ∃ S c, Cy w g h a t rank (L :: fra l) K1 K2 K3 K4 S c [] ∧ c + di t S ≤ t.order.length ∧ Slo (fra l) h0 h ∧
  ∃ m, h.Ns L m ∧ m (q "stack") = some (.ref K1) ∧ m (q "itstack") = some (.ref K2) ∧ m (q "seen") = some (.ref K3) ∧ m (q "node2stacki") = some (.ref K4) ∧ m (q "n2i") = some (.ref a.N)
section
variable {w : World} {A : Around} {E : Value -> Shared -> Prop} {s : Shared} {Q : Value -> Shared -> Prop}
theorem pi {k : Nat} {g : Heap} {a : Ad} {t : St} {rank : Str -> Nat} {l : List Env} (R : ak A (k + 4)) (G : Gr w g) (O : Ext g s.heap) (x : SAt w g s.heap a t) (hfr : A.frames = some l) (fl : FF s.heap l)
  (fr : ∀ b ∈ fra l, a.role b = none ∧ g.get? b = none) (hlen : t.order.length ≤ 100) (hsu : ∀ z, (t.su z).length ≤ 100) (hrank : ∀ y ∈ t.order, ∀ z ∈ t.su y, z ∈ t.order ∧ rank y < rank z) {S : Addr} (hS : a.S = S)
  (hQ : ∀ h' tk', SAt w g h' a t -> Ext g h' -> Slo (fra l) s.heap h' -> Q .none { s with heap := h', toks := tk' }) :
  wpAny (MK w) A (call (.ref 1203) [.ref S]) Q E s := by
 subst hS
 refine dP (binds := [(q "self", .ref a.S)]) (fd := pd) R (G.ext O) rfl rfl rfl rfl (Dy rfl) (by decide) rfl ?_
 intro h1 n1 k1
 have fL := ae s.heap
 generalize hLs : s.heap.objs.size = L at *
 have hR : ak (A.deeper (callEnv pd L 1203)) (k + 3) := R.deeper _
 have O1 := Ext.trans O k1
 have x1 := x.ext k1
 have nL : a.role L = none := x.none_of fL
 have gL : g.get? L = none := ap O fL
 refine ad ?_
 intro Qb
 refine Ab ?_
 refine Aq ?_
 refine cZ G O1 x1 n1 rfl ?_
 intro tk2
 refine stL n1 fun h2 n2 s2 => ?_
 have k2 : Ext s.heap h2 := aA k1 s2 fL
 clear s2 O1 x1 k1 n1
 refine ad ?_
 intro Qb
 refine Ab ?_
 refine Aq ?_
 refine bW ?_
 intro h3 l3 k3
 dsimp only at l3 k3 ⊢
 have f1 := ae h2
 generalize h2.objs.size = K1 at *
 have kL1 : K1 ≠ L := fun q => by obtain ⟨o, _, _, ho, _⟩ := n2; rw [<- q, f1] at ho; cases ho
 refine stL (n2.keeps k3) fun h4 n4 s4 => ?_
 have k4 : Ext s.heap h4 := aA (Ext.trans k2 k3) s4 fL
 have l1 : IsL sOf h4 K1 [] := (l3 _ _).at fun o => s4.extBut _ o kL1
 have g1 : s.heap.get? K1 = none := ap k2 f1
 clear n2 s4 l3 k3
 refine ad ?_
 intro Qb
 refine Ab ?_
 refine Aq ?_
 refine bW ?_
 intro h5 l5 k5
 dsimp only at l5 k5 ⊢
 have f2 := ae h4
 generalize h4.objs.size = K2 at *
 have kL2 : K2 ≠ L := fun q => by obtain ⟨o, _, _, ho, _⟩ := n4; rw [<- q, f2] at ho; cases ho
 refine stL (n4.keeps k5) fun h6 n6 s6 => ?_
 have k6 : Ext s.heap h6 := aA (Ext.trans k4 k5) s6 fL
 have l2 : IsL sOf h6 K2 [] := (l5 _ _).at fun o => s6.extBut _ o kL2
 have k12 : K1 ≠ K2 := fun q => by obtain ⟨o, ho⟩ := l1.ex; rw [q, f2] at ho; cases ho
 have l1 : IsL sOf h6 K1 [] := l1.at fun o q => s6.extBut _ o kL1 (k5 _ o q)
 have g2 : s.heap.get? K2 = none := ap k4 f2
 clear n4 s6 l5 k5 k4 k2
 refine ad ?_
 intro Qb
 refine Ab ?_
 refine Aq ?_
 refine Dn ?_
 refine nmB (v := .type "set") (s := { s with heap := h6, toks := _ }) (G.ext (Ext.trans O k6)) rfl rfl ?_
 refine callWith_type0 ?_
 refine call_set_0 ?_
 intro led
 dsimp only
 have f3 := ae h6
 have l7 : (h6.push { cls := .type "set", dict := none, data := .set #[] 0 (.fresh 0 0 led) }).SetOf (sK w) h6.objs.size (fun _ => false) 0 := ⟨_, by
  refine ao (setObjOf_fresh (knd := sK w) led) fun a Z15 => ?_
  refine jG Z15 fun es ep t r1 r2 r3 r4 r5 => ?_
  clear Z15
  exact ⟨es, ep, t, Heap.get?_push_size _ rfl, a, r1, r2, r3, by rw [r4]; decide, r5, r4⟩⟩
 have k7 : Ext h6 (h6.push { cls := .type "set", dict := none, data := .set #[] 0 (.fresh 0 0 led) }) := ac _ _
 generalize h6.push { cls := .type "set", dict := none, data := .set #[] 0 (.fresh 0 0 led) } = h7 at *
 generalize h6.objs.size = K3 at *
 have kL3 : K3 ≠ L := fun q => by obtain ⟨o, _, _, ho, _⟩ := n6; rw [<- q, f3] at ho; cases ho
 refine stL (n6.keeps k7) fun h8 n8 s8 => ?_
 have k8 : Ext s.heap h8 := aA (Ext.trans k6 k7) s8 fL
 have k13 : K1 ≠ K3 := fun q => by obtain ⟨o, ho⟩ := l1.ex; rw [q, f3] at ho; cases ho
 have k23 : K2 ≠ K3 := fun q => by obtain ⟨o, ho⟩ := l2.ex; rw [q, f3] at ho; cases ho
 have l3 : h8.SetOf (sK w) K3 (fun _ => false) 0 := bQ l7 fun o => s8.extBut _ o kL3
 have l1 : IsL sOf h8 K1 [] := l1.at fun o q => s8.extBut _ o kL1 (k7 _ o q)
 have l2 : IsL sOf h8 K2 [] := l2.at fun o q => s8.extBut _ o kL2 (k7 _ o q)
 have g3 : s.heap.get? K3 = none := ap k6 f3
 clear n6 s8 l7 k7 k6
 refine ad ?_
 intro Qb
 refine Ab ?_
 refine Aq ?_
 refine gT ?_
 intro h9 l9 k9
 dsimp only at l9 k9 ⊢
 have f4 := ae h8
 have nb4 := (G.ext (Ext.trans O k8)).notMods (Aw h8.objs.size)
 generalize h8.objs.size = K4 at *
 have kL4 : K4 ≠ L := fun q => by obtain ⟨o, _, _, ho, _⟩ := n8; rw [<- q, f4] at ho; cases ho
 refine stL (n8.keeps k9) fun h10 n10 s10 => ?_
 have k10 : Ext s.heap h10 := aA (Ext.trans k8 k9) s10 fL
 have k14 : K1 ≠ K4 := fun q => by obtain ⟨o, ho⟩ := l1.ex; rw [q, f4] at ho; cases ho
 have k24 : K2 ≠ K4 := fun q => by obtain ⟨o, ho⟩ := l2.ex; rw [q, f4] at ho; cases ho
 have k34 : K3 ≠ K4 := fun q => by obtain ⟨o, _, _, _, ho, _⟩ := l3; rw [q, f4] at ho; cases ho
 have l4 : KD w h10 K4 [] := by
  refine ag (l9 Str sOf) fun vs d r => ?_
  exact ⟨vs, d.at fun o => s10.extBut _ o kL4, r.keys⟩
 have l1 : IsL sOf h10 K1 [] := l1.at fun o q => s10.extBut _ o kL1 (k9 _ o q)
 have l2 : IsL sOf h10 K2 [] := l2.at fun o q => s10.extBut _ o kL2 (k9 _ o q)
 have l3 := bQ l3 fun o q => s10.extBut _ o kL3 (k9 _ o q)
 have g4 : s.heap.get? K4 = none := ap k8 f4
 clear n8 s10 l9 k9 k8
 have O10 := Ext.trans O k10
 have frs : ∀ b, s.heap.get? b = none -> b ∉ fra l := fun b hb hm => fl.some hm hb
 have J0 : Jn w g s.heap a t rank l L K1 K2 K3 K4 h10 := by
  refine EI2 (fun _ => false) 0 ⟨⟨x.ext k10, O10, l1, ?_, l3, l4, by simp, by simp, by simp, by simp, by simp, ?_, ?_, ?_, nb4⟩, by (have := Dv (fun z : Str => !(false)) t.order; simp only [di]; exact sB this), .of_ext k10, _, n10, rfl, rfl, rfl, rfl, rfl⟩
  ·refine ag l2 fun i p qq => ?_
   clear l2
   have : i = #[] := Array.eq_empty_of_size_eq_zero (by have := congrArg List.length qq; simpa using this)
   rw [this] at p; exact p
  ·simp [own, k12, k13, k14, k23, k24, k34]
  ·intro b hb
   have hb0 : s.heap.get? b = none ∧ b ≠ L := by
    simp only [own, List.flatMap_nil, Ap, Bw, Gz] at hb
    rcases hb with rfl | rfl | rfl | rfl
    ·exact ⟨g1, kL1⟩
    ·exact ⟨g2, kL2⟩
    ·exact ⟨g3, kL3⟩
    ·exact ⟨g4, kL4⟩
   refine ⟨x.none_of hb0.1, fun hm => ?_, ap O hb0.1⟩
   rcases Ap.mp hm with q | q
   ·exact hb0.2 q
   ·exact frs b hb0.1 q
  ·intro b hb
   rcases Ap.mp hb with rfl | q
   ·exact ⟨nL, gL⟩
   ·exact fr b q
 have gK : ∀ b ∈ L :: own K1 K2 K3 K4 [], s.heap.get? b = none := by
  intro b hb
  simp only [own, List.flatMap_nil, Ap, Bw, Gz] at hb
  rcases hb with rfl | rfl | rfl | rfl | rfl
  ·exact fL
  ·exact g1
  ·exact g2
  ·exact g3
  ·exact g4
 have sK : ∀ b ∈ L :: own K1 K2 K3 K4 [], h10.get? b ≠ none := by
  intro b hb
  rcases Ap.mp hb with rfl | hb
  ·intro q; obtain ⟨o, _, _, ho, _⟩ := n10; rw [q] at ho; cases ho
  ·obtain ⟨S, c, C, _⟩ := J0; exact C.ex b hb
 refine ad ?_
 intro Qb
 refine Ab ?_
 refine ad ?_
 intro Qb
 refine FOR (k := sOf) ?_
 refine nmL n10 rfl ?_
 refine mC ((x.ext k10).n) fun o es ep d => ?_
 refine Aj (ik hR.h x.nb ⟨o, es, d.1, d.2⟩) ?_ (fun _ _ e => e)
 intro it s_2 h_2
 have eo : (t.order.map fun x => (x, Value.ref (a.I x))).map (·.1) = t.order := by simp [Function.comp_def]
 rw [eo] at h_2
 refine EI2 [a.N] (t.order) ⟨h_2, ?_⟩
 intro fp wr hfp hfs hwr
 refine cB h_2 ?_
 clear h_2
 rintro _ _ _ _ _ _ rfl _ _ _ _ _ _ _ Z16
 refine aG Z16 ?_
 clear Z16
 rintro h11 tk11 rfl k11
 dsimp only at k11 hfs hfp hwr ⊢
 have wfp : ∀ b ∈ wr, a.role b = none ∧ g.get? b = none ∧ b ∉ L :: own K1 K2 K3 K4 [] ∧ s.heap.get? b = none := fun b hb => by
  have q := (hwr b hb).2
  exact ⟨(x.ext k10).none_of q, ap O10 q, fun hm => sK b hm q, ap k10 q⟩
 have ffp : ∀ b ∈ fp, b ∉ fra l ∧ b ∉ L :: own K1 K2 K3 K4 [] := fun b hb => by
  rcases hfp b hb with q | q
  ·rw [Ac.mp q]
   refine ⟨fun hm => (by have := (fr _ hm).1; rw [x.rn] at this; cases this), fun hm => (by have := x.none_of (gK _ hm); rw [x.rn] at this; cases this)⟩
  ·exact ⟨frs b (ap k10 q), fun hm => sK b hm q⟩
 refine ⟨fun _ h => Jn w g s.heap a t rank l L K1 K2 K3 K4 h, ?_, ?_, ?_, ?_⟩
 ·refine dv J0 fun S c C hc up Z17 => ?_
  clear J0
  refine ag Z17 fun m n e => ?_
  clear Z17
  exact EI2 S c ⟨C.keep fun b o _ => k11 b o, hc, up.ext k11, m, n.keeps k11, e⟩
 ·intro i h h' X1 hk
  refine dv X1 fun S c C hc up Z18 => ?_
  clear X1
  refine ag Z18 fun m n e => ?_
  clear Z18
  refine EI2 S c ⟨C.keepW (fun b hb => ⟨(wfp b hb).1, (wfp b hb).2.1, fun hm => (wfp b hb).2.2.1 (A1 _ hm)⟩) hk, hc, up.of fun b o hb q => hk b o (fun hm => hb (wfp b hm).2.2.2) q, m, n.at' fun o q => hk _ o (fun hm => (wfp _ hm).2.2.1 Ar) q, e⟩
 ·intro i v y s' E' hc hv X2 hzl X3
  refine aB X2 ?_
  clear X2
  rintro h' tk' rfl
  refine dv X3 fun S c C hcu up Z19 => ?_
  clear X3
  refine eK Z19 fun m n e1 e2 e3 e4 e5 => ?_
  clear Z19
  try dsimp only
  refine ah (ai hv) ?_
  rintro ty rfl
  have hyo : y ∈ t.order := List.mem_of_getElem? hc
  refine Ae ?_
  refine Ay ?_
  refine stL n fun h12 n12 s12 => ?_
  have C12 := C.frame s12
  have up12 := up.sb s12 fL
  have fp12 : ∀ b ∈ fp, ∀ o, h'.get? b = some o -> h12.get? b = some o := fun b hb o q => s12.extBut b o (fun z => (ffp b hb).2 (z ▸ Ar)) q
  refine ad ?_
  intro Qb
  refine Ab ?_
  refine ad ?_
  intro Qb
  refine B7 ?_
  refine Ao ?_
  refine nmL n12 rfl ?_
  refine nmL n12 e3 ?_
  refine wpAny_inSet_of (knd := Mine.sK w) (k := y) (aM y ty) rfl C12.l3 ?_
  refine Am ?_
  cases hS : S y with
  | true =>
   simp only [if_true]
   refine ad ?_
   intro Qb
   refine Ab ?_
   refine wpAny_Continue ?_
   exact ⟨Lk.of, ⟨S, c, C12, hcu, up12, _, n12, e1, e2, e3, e4, e5⟩, fp12⟩
  | false =>
   simp only [Al, Be]
   refine Ah ?_
   refine Ab ?_
   have hid : ∀ b, b ∉ L :: own K1 K2 K3 K4 [] -> ∀ o, h12.get? b = some o -> (hideAll h12 (L :: own K1 K2 K3 K4 [])).get? b = some o := fun b hb o q => hideAll_get _ q hb
   refine mK (k := k) (g := g) (h0 := hideAll h12 (L :: own K1 K2 K3 K4 [])) (l := l) (S := S) (c := c) (y := y) hR G (Around.frames_deeper hfr) ?_ ⟨C12, fun b hb => hideAll_none _ (A1 _ hb), hideAll_none _ Ar, ⟨fun b o _ q => of_hideAll _ q, .of_keeps fun b o q => of_hideAll _ q⟩, _, n12, e1, e2, e3, e4, e5, _, rfl⟩ hyo hcu hlen hsu hrank ?_
   ·exact (fl.slo up12).at fun b hb o q => hid b (fun hm => frs b (gK b hm) hb) o q
   ·intro h13 tk13 S' c' y' X13 hc13
    try dsimp only
    refine Ah ?_
    refine jI X13.n fun m' n' d1 d2 d3 d4 d5 _ => ?_
    refine ⟨Lk.of, ⟨S', c', X13.C, hc13, up12.hide X13.up gK, m', n', d1, d2, d3, d4, d5⟩, fun b hb o q => ?_⟩
    exact X13.up.keep b o (ffp b hb).1 (hid b (ffp b hb).2 o (fp12 b hb o q))
 ·intro s' X4 hzl X5
  refine aB X4 ?_
  clear X4
  rintro h12 tk12 rfl
  refine dv X5 fun S c C hc up _ => ?_
  clear X5
  try dsimp only
  refine Ab ?_
  refine Bu ?_
  refine Bs ?_
  exact hQ _ _ C.x C.O up
end
end
section
theorem i5 {α : Type} {prog : Program} {w : World} {A : Around} {E : Value -> Shared -> Prop} {s : Shared} {k : Value -> Option α} {cs : List α} {v d : Addr} {kvs : List (Str × Value)} {ep : Nat} (hA : A.handled = none)
  (hv : s.heap.IsValuesView v d) (hm : s.heap.DictAt (strKind prog w) d kvs ep) (hk : (kvs.map (·.2)).map k = cs.map some) : wpAny (model prog w) A (pyIter (.ref v)) (bk prog w A [d] k cs s) E s := by
 refine wpAny_pyIter_values hv hm ?_
 refine aG (id hm) fun o es ho r => ?_
 have hne : d ≠ s.heap.objs.size := B3 (A5 ho)
 have hlen := congrArg List.length hk
 simp only [Ai] at hlen
 refine EI6 _ _ _ _ _ _ ⟨rfl, Walks.dictValues hA s.heap.objs.size d hne kvs ep, hlen, ⟨⟨_, Heap.get?_push_size _ rfl, rfl, rfl⟩, hm.at' fun o e => ac _ _ _ _ e⟩, ?_, ?_, ?_, ?_, ay (ac _ _)⟩
 ·intro b hb
  rw [A4]
  rcases Ap.mp hb with rfl | hb
  ·exact Do _
  ·rw [Ac.mp hb]; exact Nat.lt_succ_of_lt (A5 ho)
 ·intro i v X1 _
  refine ah X1 fun x hx => ?_
  clear X1
  have := congrArg (fun l => l[i]?) hk
  simp only [List.getElem?_map, hx, Dg] at this
  cases h : cs[i]? with
  | none => rw [h] at this; cases this
  | some c => rw [h] at this; simpa using this
 ·intro b hb; rw [Ac.mp hb]; exact ae _
 ·intro b hb
  rcases Ap.mp hb with rfl | hb
  ·exact .inr (ae _)
  ·exact .inl hb
def fv (a : Ad) (l : List Str) : Value -> Option Str
 | .ref b => l.find? fun x => decide (a.I x = b)
 | _ => none
theorem eE {a : Ad} {l : List Str} {v : Value} {x : Str} (h : fv a l v = some x) : v = .ref (a.I x) ∧ x ∈ l := by
 cases v <;> simp only [fv] at h <;> first | exact ⟨by have := List.find?_some h; simp at this; rw [this], List.mem_of_find?_eq_some h⟩ | cases h
theorem lE {a : Ad} {l : List Str} (hi : ∀ x ∈ l, ∀ y ∈ l, a.I x = a.I y -> x = y) {x : Str} (hx : x ∈ l) : fv a l (.ref (a.I x)) = some x := by
 simp only [fv]
 cases e : l.find? fun y => decide (a.I y = a.I x) with
 | none => have := List.find?_eq_none.mp e x hx; simp at this
 | some y =>
  have h1 := List.find?_some e
  have h2 := List.mem_of_find?_eq_some e
  rw [hi y h2 x hx (by simpa using h1)]
def Ad.ready (a : Ad) (D : Addr) : Ad := { a with R := D, role := fun b => if b = D then some .r else a.role b }
theorem SAt.setReady {w : World} {g h h' : Heap} {a : Ad} {t : St} (x : SAt w g h a t) {D : Addr} {rl : List Str} {m : Str -> Option Value} (nD : a.role D = none) (gD : g.get? D = none) (hl : IsL sOf h D rl) (hs : Heap.SameBut a.D h h') (hm : NsN h' a.D m 4)
  (hf : m (q "_node2info") = some (.ref a.N) ∧ m (q "_ready_nodes") = some (.ref D) ∧ (∃ k, m (q "_npassedout") = some (.int t.po k)) ∧ (∃ k, m (q "_nfinished") = some (.int t.nf k)) ∧ ∀ y, y ∉ eZ -> m y = none) :
  SAt w g h' (a.ready D) { t with rd := some rl } := by
 have rn : ∀ {b r}, a.role b = some r -> (a.ready D).role b = some r := fun {b r} e => by
  show (if b = D then some Role.r else a.role b) = _
  rw [if_neg (fun q => by rw [q, nD] at e; cases e), e]
 have key : ∀ b o, a.role b ≠ some .d -> h.get? b = some o -> h'.get? b = some o := fun b o hn e => hs.extBut b o (fun q => hn (q ▸ x.rd)) e
 refine ⟨key a.S _ (by rw [x.rs]; simp) x.s, ⟨m, hm, hf⟩, x.n.at fun o e => key a.N o (by rw [x.rn]; simp) e, fun z hz => (x.i z hz).at (fun o q => key (a.I z) o (by rw [x.ri z hz]; simp) q) fun o q => key (a.X z) o (by rw [x.rx z hz]; simp) q,
  fun z hz => (x.l z hz).at fun o q => key (a.L z) o (by rw [x.rl z hz]; simp) q, fun rl' hr => ?_, rn x.rs, rn x.rd, rn x.rn, fun _ => ?_, fun z hz => rn (x.ri z hz), fun z hz => rn (x.rx z hz), fun z hz => rn (x.rl z hz), ?_, x.nb⟩
 ·cases hr
  exact hl.at fun o q => key D o (by rw [nD]; simp) q
 ·show (if D = D then some Role.r else a.role D) = _
  rw [if_pos rfl]
 ·intro b hb
  by_cases e : b = D
  ·subst e
   refine ah hl.ex fun o ho => ?_
   exact ⟨⟨o, key _ _ (by rw [nD]; simp) ho⟩, gD⟩
  ·have hb' : a.role b ≠ none := by
    have : (a.ready D).role b = a.role b := if_neg e
    rwa [this] at hb
   refine ⟨?_, (x.live b hb').2⟩
   by_cases e2 : b = a.D
   ·subst e2; obtain ⟨o, _, _, ho, _⟩ := hm; exact ⟨o, ho⟩
   ·refine ah ((x.live b hb').1) fun o ho => ?_
    exact ⟨o, hs.extBut b o e2 ho⟩
structure KS (a : Ad) (F : List Addr) (h h' : Heap) : Prop where
 keep : ∀ b o, a.role b = none -> b ∉ F -> h.get? b = some o -> h'.get? b = some o
 up : ∀ b o, a.role b = none -> h.get? b = some o -> (∀ vs, o.data ≠ .fields vs) -> ∃ sl, h'.get? b = some { o with slots := sl }
abbrev lT : FuncData := fd (inC 50 3) "prepare" "TopologicalSorter.prepare" 3 [] .none .none .none (.str (q "cpy313.graphlib") 1763) none (.ref 1167) .none 0
def aT (t : St) : List Str := t.order.filter fun y => decide (t.np y = 0)
section
variable {w : World} {A : Around} {E : Value -> Shared -> Prop} {s : Shared} {Q : Value -> Shared -> Prop}
theorem lw {k : Nat} {g : Heap} {a : Ad} {t : St} {rank : Str -> Nat} {l : List Env} (R : ak A (k + 6)) (G : Gr w g) (O : Ext g s.heap) (x : SAt w g s.heap a t) (hfr : A.frames = some l) (fl : FF s.heap l)
  (fr : ∀ b ∈ fra l, a.role b = none ∧ g.get? b = none) (hrd : t.rd = none) (hlen : t.order.length ≤ 100) (hsu : ∀ z, (t.su z).length ≤ 100) (hrank : ∀ y ∈ t.order, ∀ z ∈ t.su y, z ∈ t.order ∧ rank y < rank z) {S : Addr} (hS : a.S = S)
  (hQ : ∀ h' tk' a', SAt w g h' a' { t with rd := some (aT t) } -> (∀ b, a'.role b ≠ none -> a.role b ≠ none ∨ s.heap.get? b = none) -> a'.S = a.S -> Ext g h' -> KS a (fra l) s.heap h' -> Q .none { s with heap := h', toks := tk' }) :
  wpAny (MK w) A (call (.ref 1168) [.ref S]) Q E s := by
 subst hS
 refine dP (binds := [(q "self", .ref a.S)]) (fd := lT) R (G.ext O) rfl rfl rfl rfl (Dy rfl) (by decide) rfl ?_
 intro h1 n1 k1
 have fL := ae s.heap
 generalize hLs : s.heap.objs.size = L at *
 have hR : ak (A.deeper (callEnv lT L 1168)) (k + 5) := R.deeper _
 have O1 := Ext.trans O k1
 have x1 := x.ext k1
 have nL : a.role L = none := x.none_of fL
 have gL : g.get? L = none := ap O fL
 refine ad ?_
 intro Qb
 refine Ab ?_
 refine ad ?_
 intro Qb
 refine B7 ?_
 refine Ao ?_
 refine cC x1.inst fun mm I d1 d2 d3 => ?_
 refine Bm ?_
 refine nmL n1 rfl ?_
 refine fZ (G.ext O1) I d2 (by rw [bs, hrd]; rfl) (h := ?_)
 refine Bs ?_
 have hv0 : bs a t = .none := by rw [bs, hrd]
 rw [hv0]
 refine wpAny_isNot_self rfl ?_
 refine Am ?_
 simp only [Al, Be]
 refine Ah ?_
 refine ad ?_
 intro Qb
 refine Ab ?_
 refine Bb ?_
 have inj : ∀ x ∈ t.order, ∀ y ∈ t.order, a.I x = a.I y -> x = y := fun u hu v hv e => by
  have := x.ri u hu
  rw [e, x.ri v hv] at this
  exact (Role.i.inj (Bk this)).symm
 refine ad ?_
 intro Qb
 refine LC (k := fv a t.order) (k' := sOf) (fun _ => t.order) (fun y => decide (t.np y = 0)) id rfl (by decide) rfl (by decide) rfl ?_
 refine Bc (pl := _) ?_
 refine cZ G O1 x1 n1 rfl ?_
 intro tk2
 refine Bi (s := { s with heap := h1, toks := tk2 }) x1.n.typeIs Gq PySem.F.slot_dict_values PySem.F.type_dict_values x1.n.mapOf.noDict ?_
 refine callWith_method0 ?_
 refine call_meetsIn PySem.F.slot_dict_values x1.n.typeIs PySem.F.entry_dict_values (PySem.F.args_dict_values_1 _) (meets_dict_values (sK w) a.N x.nb) ⟨⟨_, x1.n⟩, ?_⟩
 have k2 : Ext h1 (h1.push { cls := .type "dict_values", data := .fields #[.ref a.N] }) := ac _ _
 have v2 : (h1.push { cls := .type "dict_values", data := .fields #[.ref a.N] }).IsValuesView h1.objs.size a.N := ⟨_, Heap.get?_push_size _ rfl, rfl, rfl⟩
 dsimp only
 show _ ∧ _
 generalize h1.push { cls := .type "dict_values", data := .fields #[.ref a.N] } = h2 at *
 generalize h1.objs.size = V at *
 have x2 := x1.ext k2
 have O2 := Ext.trans O1 k2
 refine ⟨?_, by rw [Az]; exact mZ hlen, ?_, ?_, ?_⟩
 ·refine mC x2.n fun o es ep d => ?_
  refine ⟨_, i5 hR.h v2 ⟨o, es, d.1, d.2⟩ ?_⟩
  rw [List.map_map, List.map_map]
  exact List.map_congr_left fun y hy => lE inj hy
 ·intro C v c s_3 m_3 E' hC hv hc hnD hmD hkD
  refine ao (eE hv) ?_
  rintro rfl _
  have x3 := x2.ext hkD
  have O3 := Ext.trans O2 hkD
  refine aB (x3.i c hc) fun tc tn Sl => ?_
  refine Dt (Ao ?_)
  refine ad ?_
  intro Qb
  refine Bm ?_
  refine nmL hnD hmD ?_
  refine gR (i := 1) (G.ext O3) Sl rfl rfl (h := ?_)
  refine Av ?_
  refine P.eq_int ?_
  refine Am ⟨?_, ay (Ext.refl _)⟩
  rfl
 ·intro C v c s_3 m_3 E' hC hv hc _ hnD hmD hkD
  refine ao (eE hv) ?_
  rintro rfl _
  have x3 := x2.ext hkD
  have O3 := Ext.trans O2 hkD
  refine aB (x3.i c hc) fun tc tn Sl => ?_
  refine Bm ?_
  refine nmL hnD hmD ?_
  refine gR (i := 0) (G.ext O3) Sl rfl rfl (h := ?_)
  exact ⟨rfl, ay (Ext.refl _)⟩
 ·intro D h3 tk3 ys hD pl hys k3
  have hys' : ys.toList.map sOf = (aT t).map some := by rw [hys, List.map_id]; rfl
  have O3 := Ext.trans O2 k3
  have x3 := x2.ext k3
  have n3 := (n1.keeps k2).keeps k3
  have kD : s.heap.get? D = none := ap (Ext.trans k1 k2) hD
  refine eK x3.inst fun mm3 I3 b1 b2 b3 b4 b5 => ?_
  refine nmL n3 rfl ?_
  refine i8 (s := { s with heap := h3, toks := _ }) (G.ext O3) I3 (by decide) ?_
  intro h4 N4 s4
  have e4 : (if (mm3 (Str.ofString "_ready_nodes")).isSome = true then 4 else 4 + 1) = 4 := if_pos (by rw [show mm3 (Str.ofString "_ready_nodes") = _ from b2]; rfl)
  rw [e4] at N4
  have x4 : SAt w g h4 (a.ready D) { t with rd := some (aT t) } := by
   refine x3.setReady (x2.none_of hD) (ap O2 hD) ⟨_, pl, hys'⟩ s4 N4 ⟨b1, rfl, ?_, ?_, ?_⟩
   ·obtain ⟨kk, b3⟩ := b3; exact ⟨kk, b3⟩
   ·obtain ⟨kk, b4⟩ := b4; exact ⟨kk, b4⟩
   ·intro y hy
    have : y ≠ q "_ready_nodes" := fun e => hy (by rw [e]; decide)
    simp only [if_neg this]
    exact b5 y hy
  have O4 : Ext g h4 := fun b o e => s4.extBut b o (fun q => by have := x3.none_g e; rw [q, x3.rd] at this; cases this) (O3 b o e)
  have nLD : L ≠ a.D := fun e => by rw [e, x.rd] at nL; cases nL
  have LD : L ≠ D := fun e => by obtain ⟨o, _, _, ho, _⟩ := n1.keeps k2; rw [e, hD] at ho; cases ho
  have n4 := n3.sameBut s4 nLD
  have nL4 : (a.ready D).role L = none := by
   show (if L = D then some Role.r else a.role L) = none
   rw [if_neg LD, nL]
  have k4 : ∀ b o, a.role b = none -> s.heap.get? b = some o -> h4.get? b = some o := fun b o hb e =>
   s4.extBut b o (fun q => by rw [q, x.rd] at hb; cases hb) (k3 b o (k2 b o (k1 b o e)))
  have roleF : ∀ b ∈ fra l, (a.ready D).role b = none := fun b hb => by
   have : b ≠ D := fun e => fl.some hb (e ▸ kD)
   show (if b = D then some Role.r else a.role b) = none
   rw [if_neg this, (fr b hb).1]
  have fl4 : FF h4 (callEnv lT L 1168 :: l) := (fl.at fun b hb o e => k4 b o (fr b hb).1 e).cons (env := callEnv lT L 1168) (fun h => by cases h) rfl n4
  refine eK x4.inst fun mm4 I4 _ _ _ _ c5 => ?_
  refine Ab ?_
  refine Aq ?_
  refine Bc (pl := _) ?_
  refine nmL n4 rfl ?_
  refine jh (s := { s with heap := h4, toks := _ }) (f := 1203) (G.ext O4) I4 (c5 _ (by decide)) ?_
  refine callWith_K0 (G.ext O4).K rfl ?_
  refine pi (s := { s with heap := h4, toks := _ }) (k := k + 1) (l := callEnv lT L 1168 :: l) (rank := rank) hR G O4 x4 (Around.frames_deeper hfr) fl4 (fun b hb => ?_) hlen hsu hrank rfl ?_
  ·rcases Ap.mp hb with rfl | hb
   ·exact ⟨nL4, gL⟩
   ·exact ⟨roleF b hb, (fr b hb).2⟩
  ·intro h5 tk5 x5 O5 S5
   try dsimp only
   have n5 := Heap.UpToSlots.ns S5.up n4
   refine stL n5 fun h6 n6 s6 => ?_
   refine Ab ?_
   refine ad ?_
   intro Qb
   refine B7 ?_
   refine B0 ?_
   refine nmL n6 rfl ?_
   refine truthy_none ?_
   simp only [Al, Be]
   refine Ah ?_
   refine Ah ?_
   refine hQ _ _ (a.ready D) (x5.sb s6 nL4) ?_ rfl ?_ ⟨?_, ?_⟩
   ·intro b hb
    by_cases e : b = D
    ·exact .inr (e ▸ kD)
    ·have z : (a.ready D).role b = a.role b := if_neg e
     exact .inl (by rwa [z] at hb)
   ·exact fun b o e => s6.extBut b o (fun q => by rw [q, gL] at e; cases e) (O5 b o e)
   ·intro b o hb hF e
    have bL : b ≠ L := fun q => by rw [q, fL] at e; cases e
    refine s6.extBut b o bL (S5.keep b o (fun hm => ?_) (k4 b o hb e))
    rcases Ap.mp hm with q | q
    ·exact bL q
    ·exact hF q
   ·intro b o hb e d
    have bL : b ≠ L := fun q => by rw [q, fL] at e; cases e
    refine ah (S5.up b o (k4 b o hb e) d) fun sl z => ?_
    exact ⟨sl, s6.extBut b _ bL z⟩
end
end
end Mine
end
section
open PySem PySem.W
namespace Mine
def fE (need : Str -> List Str) (hp : List Str) (y : Str) : Bool := (need y).all fun z => decide (z ∈ hp)
theorem bK {need : Str -> List Str} {hp : List Str} {y : Str} : fE need hp y = true ↔ ∀ z ∈ need y, z ∈ hp := by simp [fE]
def left (need : Str -> List Str) (hp : List Str) (y : Str) : Nat := (need y).countP fun z => decide (z ∉ hp)
theorem b7 {need : Str -> List Str} {hp : List Str} {y : Str} : left need hp y = 0 ↔ fE need hp y = true := by
 rw [bK, left, List.countP_eq_zero]
 simp
structure Vst (names : List Str) (need : Str -> List Str) (hp : List Str) (t : St) : Prop where
 mem : ∀ z, z ∈ t.order ↔ z ∈ names
 len : t.order.Nodup
 su : ∀ z, t.su z = names.flatMap fun y => List.replicate ((need y).count z) y
 rd : t.rd = some []
 np : ∀ y ∈ names, t.np y = if y ∈ hp then -2 else if fE need hp y then -1 else (left need hp y : Int)
def dQ (names : List Str) (need : Str -> List Str) (hp : List Str) (W : List Str) : Prop := W.Nodup ∧ ∀ z, z ∈ W ↔ z ∈ names ∧ z ∉ hp ∧ ∀ u ∈ need z, u ∈ hp
theorem fS {names : List Str} {need : Str -> List Str} {t : St} (a : b6 need names t) (hin : ∀ y ∈ names, ∀ z ∈ need y, z ∈ names) (z : Str) : z ∈ t.order ↔ z ∈ names := by
 rw [a.mem]
 exact ⟨fun h => h.elim id fun ⟨y, hy, q⟩ => hin y hy z q, .inl⟩
theorem bU {names : List Str} {need : Str -> List Str} {t : St} (a : b6 need names t) (hin : ∀ y ∈ names, ∀ z ∈ need y, z ∈ names) (z : Str) : z ∈ aT t ↔ z ∈ names ∧ need z = [] := by
 simp only [aT, Bd, fS a hin, Bx]
 constructor
 ·rintro ⟨h, e⟩
  rw [a.np, if_pos h] at e
  exact ⟨h, Gu ((vp e))⟩
 ·rintro ⟨h, e⟩
  refine ⟨h, ?_⟩
  rw [a.np, if_pos h, e]; rfl
theorem mS {names : List Str} {need : Str -> List Str} {t : St} (a : b6 need names t) (hin : ∀ y ∈ names, ∀ z ∈ need y, z ∈ names) :
  Vst names need [] (cQ { t with rd := some (aT t) } (aT t)) ∧ dQ names need [] (aT t) := by
 refine ⟨⟨fun z => fS (t := t) a hin z, a.ok.nd, a.su, rfl, fun y hy => ?_⟩, List.Pairwise.filter _ a.ok.nd, fun z => ?_⟩
 ·show (if y ∈ aT t then (-1 : Int) else t.np y) = _
  rw [if_neg (by simp : y ∉ ([] : List Str))]
  by_cases e : need y = []
  ·rw [if_pos ((bU a hin y).mpr ⟨hy, e⟩), if_pos (by rw [bK, e]; simp)]
  ·rw [if_neg (fun q => e ((bU a hin y).mp q).2), if_neg ?_, a.np, if_pos hy]
   ·simp [left]
   ·rw [bK]
    intro q
    obtain ⟨u, hu⟩ := List.exists_mem_of_ne_nil _ e
    exact absurd (q u hu) (by simp)
 ·rw [bU a hin]
  constructor
  ·rintro ⟨h, e⟩; exact ⟨h, by simp, by rw [e]; simp⟩
  ·rintro ⟨h, _, e⟩
   refine ⟨h, ?_⟩
   cases q : need z with
   | nil => rfl
   | cons u r => exact absurd (e u (by rw [q]; simp)) (by simp)
theorem fO (c : Str -> Nat) (z : Str) : ∀ names : List Str, names.Nodup -> (names.flatMap fun v => List.replicate (c v) v).count z = if z ∈ names then c z else 0
 | [], _ => rfl
 | v :: l, h => by
  rw [Br] at h
  rw [D7, List.count_append, fO c z l h.2, List.count_replicate]
  by_cases e : v = z
  ·subst e; simp [h.1]
  ·have e' : ¬ z = v := fun q => e q.symm
   simp [e, e']
theorem cY {need : Str -> List Str} {hp : List Str} {y z : Str} (hy : y ∉ hp) : left need (hp ++ [y]) z + (need z).count y = left need hp z := by
 simp only [left]
 generalize need z = l
 induction l with
 | nil => rfl
 | cons u l ih =>
  simp only [List.countP_cons, List.count_cons, Au, Ac] at ih ⊢
  by_cases e : u = y
  ·subst e; simp [hy]; simp at ih; exact sc ih
  ·simp [e]; simp at ih; exact ru ih
theorem lm {names : List Str} {need : Str -> List Str} {hp : List Str} {t : St} (v : Vst names need hp t) (hn : names.Nodup) {y : Str} (hy : y ∈ names) (hyh : y ∉ hp) (hyn : ∀ u ∈ need y, u ∈ hp)
  (cl : ∀ z ∈ hp, z ∈ names ∧ ∀ u ∈ need z, u ∈ hp) :
  ∃ R, (cp t y).rd = some R ∧ R.Nodup ∧ (∀ z, z ∈ R ↔ z ∈ names ∧ (∃ u ∈ need z, u ∉ hp) ∧ ∀ u ∈ need z, u ∈ hp ++ [y]) ∧ (∀ z ∈ R, z ∈ names) ∧ Vst names need (hp ++ [y]) (cQ (cp t y) R) := by
 have ct : ∀ z ∈ names, (t.su y).count z = (need z).count y := fun z hz => by rw [v.su, fO _ _ _ hn, if_pos hz]
 have sub : ∀ z ∈ t.su y, z ∈ names ∧ y ∈ need z := fun z hz => by
  rw [v.su, Dw] at hz
  obtain ⟨u, hu, q⟩ := hz
  obtain ⟨q1, rfl⟩ := List.mem_replicate.mp q
  exact ⟨hu, Gw.mp ((rM q1))⟩
 have sub' : ∀ z ∈ names, y ∈ need z -> z ∈ t.su y := fun z hz q => by
  have := Gw.mpr q
  rw [<- ct z hz] at this
  exact Gw.mp this
 have nh : ∀ z, y ∈ need z -> z ∉ hp := fun z q h => hyh ((cl z h).2 y q)
 have nA : ∀ z, y ∈ need z -> ¬ fE need hp z = true := fun z q h => hyh (bK.mp h y q)
 have yny : y ∉ need y := fun q => hyh (hyn y q)
 have np0 : ∀ z, (aD t y (-2)).np z = if z = y then -2 else t.np z := fun z => rfl
 have npz : ∀ z ∈ t.su y, (aD t y (-2)).np z = left need hp z := fun z hz => by
  obtain ⟨h1, h2⟩ := sub z hz
  have e1 : ¬ z = y := fun e => yny (by rw [e] at h2; exact h2)
  rw [np0, if_neg e1, v.np z h1, if_neg (nh z h2), if_neg (nA z h2)]
 have hc : ∀ z ∈ t.su y, ((t.su y).count z : Int) ≤ (aD t y (-2)).np z := fun z hz => by
  rw [npz z hz, ct z (sub z hz).1]
  have := cY (need := need) (z := z) hyh
  exact sh this
 obtain ⟨R, a1, a2, a3, a4, a5, a6⟩ := eu (t.su y) (aD t y (-2)) [] v.rd hc
 have memR : ∀ z, z ∈ R ↔ z ∈ names ∧ y ∈ need z ∧ left need (hp ++ [y]) z = 0 := fun z => by
  rw [a3]
  constructor
  ·rintro ⟨q, e⟩
   obtain ⟨h1, h2⟩ := sub z q
   rw [npz z q, ct z h1] at e
   have := cY (need := need) (z := z) hyh
   exact ⟨h1, h2, (sm e this)⟩
  ·rintro ⟨h1, h2, e⟩
   have q := sub' z h1 h2
   refine ⟨q, ?_⟩
   rw [npz z q, ct z h1]
   have := cY (need := need) (z := z) hyh
   exact rX e this
 refine ⟨R, by (show ((t.su y).foldl aj (aD t y (-2))).rd = some R); simpa using a1, a2, fun z => ?_, fun z hz => ((memR z).mp hz).1, ⟨fun z => ?_, ?_, fun z => ?_, rfl, fun z hz => ?_⟩⟩
 ·rw [memR, b7, bK]
  constructor
  ·rintro ⟨h1, h2, h3⟩; exact ⟨h1, ⟨y, h2, hyh⟩, h3⟩
  ·rintro ⟨h1, ⟨u, hu, hun⟩, h3⟩
   refine ⟨h1, ?_, h3⟩
   rcases Au.mp (h3 u hu) with q | q
   ·exact absurd q hun
   ·exact Ac.mp q ▸ hu
 ·show z ∈ ((t.su y).foldl aj (aD t y (-2))).order ↔ _
  rw [a5]; exact v.mem z
 ·show ((t.su y).foldl aj (aD t y (-2))).order.Nodup
  rw [a5]; exact v.len
 ·show ((t.su y).foldl aj (aD t y (-2))).su z = _
  rw [a6]; exact v.su z
 ·show (if z ∈ R then (-1 : Int) else ((t.su y).foldl aj (aD t y (-2))).np z) = _
  rw [a4, np0]
  have ls := cY (need := need) (z := z) hyh
  by_cases e : z = y
  ·subst e
   have : z ∉ R := fun q => yny ((memR z).mp q).2.1
   have c0 : (t.su z).count z = 0 := by rw [ct z hz]; exact List.count_eq_zero.mpr yny
   rw [if_neg this, if_pos rfl, if_pos (by simp), c0]; rfl
  ·have mz : z ∈ hp ++ [y] ↔ z ∈ hp := by simp [e]
   have cc := ct z hz
   by_cases hR : z ∈ R
   ·obtain ⟨_, h2, h3⟩ := (memR z).mp hR
    rw [if_pos hR, if_neg (fun q => nh z h2 (mz.mp q)), if_pos (b7.mp h3)]
   ·rw [if_neg hR, if_neg e, v.np z hz, cc]
    by_cases hh : z ∈ hp
    ·rw [if_pos hh, if_pos (mz.mpr hh)]
     have : (need z).count y = 0 := List.count_eq_zero.mpr fun q => nh z q hh
     rw [this]; rfl
    ·rw [if_neg hh, if_neg (fun q => hh (mz.mp q))]
     by_cases hy2 : y ∈ need z
     ·have l0 : ¬ left need (hp ++ [y]) z = 0 := fun q => hR ((memR z).mpr ⟨hz, hy2, q⟩)
      rw [if_neg (nA z hy2), if_neg (fun q => l0 (b7.mpr q))]
      exact sd ls
     ·have c0 : (need z).count y = 0 := List.count_eq_zero.mpr hy2
      have le : left need (hp ++ [y]) z = left need hp z := (si ls c0)
      have ie : fE need (hp ++ [y]) z = fE need hp z := by
       have i1 := b7 (need := need) (hp := hp ++ [y]) (y := z)
       have i2 := b7 (need := need) (hp := hp) (y := z)
       rw [le] at i1
       rw [Bool.eq_iff_iff]
       exact i1.symm.trans i2
      rw [c0, le, ie]
      simp
theorem oL {names : List Str} {need : Str -> List Str} {hp W R : List Str} {y : Str} (h : dQ names need hp W) (hyh : y ∉ hp) (hR : R.Nodup)
  (mR : ∀ z, z ∈ R ↔ z ∈ names ∧ (∃ u ∈ need z, u ∉ hp) ∧ ∀ u ∈ need z, u ∈ hp ++ [y]) (hyn : y ∉ need y) (cl : ∀ z ∈ hp, ∀ u ∈ need z, u ∈ hp) : dQ names need (hp ++ [y]) (W.erase y ++ R) := by
 refine ⟨?_, fun z => ?_⟩
 ·rw [B5]
  refine ⟨h.1.erase _, hR, fun a ha b hb e => ?_⟩
  subst e
  obtain ⟨_, ⟨u, hu, hun⟩, _⟩ := (mR a).mp hb
  exact hun (((h.2 a).mp (List.mem_of_mem_erase ha)).2.2 u hu)
 ·rw [Au, h.1.mem_erase_iff, h.2, mR]
  simp only [Au, Ac]
  constructor
  ·rintro (⟨e, h1, h2, h3⟩ | ⟨h1, ⟨u, hu, hun⟩, h3⟩)
   ·exact ⟨h1, fun q => q.elim h2 e, fun u hu => .inl (h3 u hu)⟩
   ·refine ⟨h1, fun q => q.elim (fun q => hun (cl z q u hu)) fun q => ?_, h3⟩
    subst q
    rcases h3 u hu with q | q
    ·exact hun q
    ·exact hyn (q ▸ hu)
  ·rintro ⟨h1, h2, h3⟩
   by_cases e : ∃ u ∈ need z, u ∉ hp
   ·exact .inr ⟨h1, e, h3⟩
   ·refine .inl ⟨fun q => h2 (.inr q), h1, fun q => h2 (.inl q), fun u hu => ?_⟩
    apply Gg
    exact fun q => e ⟨u, hu, q⟩
theorem bm {l m : List Str} (h : l.Nodup) (s : ∀ x ∈ l, x ∈ m) : l.length ≤ m.length := by
 induction l generalizing m with
 | nil => exact Nat.zero_le _
 | cons x l ih =>
  rw [Br] at h
  have hx := s x Ar
  have := ih h.2 (m := m.erase x) fun z hz => (List.mem_erase_of_ne (fun e : z = x => h.1 (by rw [<- e]; exact hz))).mpr (s z (A1 _ hz))
  rw [List.length_erase_of_mem hx] at this
  have := List.length_pos_of_mem hx
  simp only [Bj]; omega
def oM (need : Str -> List Str) (names : List Str) : St × List Str := let t := da need names; (cQ { t with rd := some (aT t) } (aT t), aT t)
def hM (p : St × List Str) (y : Str) : St × List Str := (cQ (cp p.1 y) ((cp p.1 y).rd.getD []), p.2.erase y ++ (cp p.1 y).rd.getD [])
def dy (need : Str -> List Str) (names hp : List Str) : St × List Str := hp.foldl hM (oM need names)
def bv (need : Str -> List Str) (names hp : List Str) : List Str := (dy need names hp).2
def bF (names : List Str) (need : Str -> List Str) (hp : List Str) : Prop := ∀ i y, hp[i]? = some y -> y ∈ names ∧ y ∉ hp.take i ∧ ∀ u ∈ need y, u ∈ hp.take i
structure aV (names : List Str) (need : Str -> List Str) : Prop where
 nd : names.Nodup
 hin : ∀ y ∈ names, ∀ z ∈ need y, z ∈ names
theorem iS {names : List Str} {need : Str -> List Str} (N : aV names need) : b6 need names (da need names) := by
 have := fU need names [] bS (jP need) (by simpa using N.nd)
 simpa [da] using this
theorem go {need : Str -> List Str} {names hp : List Str} {i : Nat} {y : Str} (h : hp[i]? = some y) : dy need names (hp.take (i + 1)) = hM (dy need names (hp.take i)) y := by
 rw [Dr, h]
 show (hp.take i ++ [y]).foldl hM _ = _
 rw [List.foldl_append]; rfl
theorem eQ {names : List Str} {need : Str -> List Str} {hp : List Str} (V : bF names need hp) (i : Nat) : ∀ z ∈ hp.take i, z ∈ names ∧ ∀ u ∈ need z, u ∈ hp.take i := by
 intro z hz
 obtain ⟨j, hj⟩ := List.mem_iff_getElem?.mp hz
 rw [List.getElem?_take] at hj
 split at hj
 ·rename_i hji
  obtain ⟨h1, _, h3⟩ := V j z hj
  refine ⟨h1, fun u hu => ?_⟩
  have := h3 u hu
  obtain ⟨n, hn⟩ := List.mem_iff_getElem?.mp this
  rw [List.getElem?_take] at hn
  split at hn
  ·exact List.mem_iff_getElem?.mpr ⟨n, by rw [List.getElem?_take, if_pos (by omega)]; exact hn⟩
  ·cases hn
 ·cases hj
theorem i9 {names : List Str} {need : Str -> List Str} {hp : List Str} (N : aV names need) (V : bF names need hp) : ∀ i, i ≤ hp.length -> Vst names need (hp.take i) (dy need names (hp.take i)).1 ∧ dQ names need (hp.take i) (dy need names (hp.take i)).2
 | 0, _ => by
  rw [List.take_zero]
  exact mS (iS N) N.hin
 | i + 1, hi => by
  obtain ⟨v, W⟩ := i9 N V i ((qD hi))
  have hy : hp[i]? = some (hp[i]'((om1 hi))) := List.getElem?_eq_getElem ((om1 hi))
  obtain ⟨h1, h2, h3⟩ := V i _ hy
  have cl := eQ V i
  obtain ⟨R, r1, r2, r3, _, r5⟩ := lm v N.nd h1 h2 h3 cl
  have hyn : hp[i]'((om1 hi)) ∉ need (hp[i]'((om1 hi))) := fun q => h2 (h3 _ q)
  have e : hp.take (i + 1) = hp.take i ++ [hp[i]'((om1 hi))] := by rw [Dr, hy]; rfl
  rw [go hy, e]
  simp only [hM, r1, Option.getD_some]
  exact ⟨r5, oL W h2 r2 r3 hyn fun z hz => (cl z hz).2⟩
theorem oh {names : List Str} {need : Str -> List Str} {z : Str} : (names.flatMap fun y => List.replicate ((need y).count z) y).length ≤ (names.map fun y => (need y).length).sum := by
 induction names with
 | nil => exact Aw _
 | cons y l ih =>
  simp only [D7, A3, List.length_replicate, A2, Gp]
  have := List.count_le_length (a := z) (l := need y)
  exact sG ih this
theorem ll {names : List Str} {need : Str -> List Str} {z u : Str} (h : u ∈ names.flatMap fun y => List.replicate ((need y).count z) y) : u ∈ names ∧ z ∈ need u := by
 obtain ⟨y, hy, q⟩ := Dw.mp h
 obtain ⟨q1, rfl⟩ := List.mem_replicate.mp q
 exact ⟨hy, Gw.mp ((rM q1))⟩
end Mine
end
section
open PySem PySem.W PyProof.Rows PySem.Calls PySem.Spec
namespace Mine
section
theorem jk {K : Frag} {C f : Addr} {name : Str} {od : Obj} (hh : hasDictIn K C = true) (ha : findIn K (.ref C) name = some (some (.ref f))) (hn : specialIn K (.ref f) "__get__" = some (some (.builtin "function.__get__"))) (ht : takesIn K (.ref f) = some false)
  (hc : copiedNames.contains name = false) (hl : lookIn name od = some none) : findObj K C (some od) name = some (.bind (.builtin "function.__get__") (.ref f)) := by
 refine ag (any_some hh) fun cd hc' hd => ?_
 unfold findObj
 have ho : PySem.W.ownOf cd (some od) name = some none := by unfold PySem.W.ownOf; rw [if_pos hd]; exact hl
 rw [hc', Option.bind_some, ha, Option.bind_some]
 simp only [hn, Option.bind_some, ht, ho, hc, Bool.false_and, Al, Be]
section
variable {w : World} {A : Around} {E : Value -> Shared -> Prop} {s : Shared} {x C dx f : Addr} {m : Str -> Option Value} {n : Nat} {name : Str}
theorem vQ {expr : Bool} {Q : Value -> Shared -> Prop} (G : Gr w s.heap) (I : fV s.heap x C dx m n) (hv : m name = none) (h : Q (.ref s.heap.objs.size) { s with heap := s.heap.push (methodObj (.ref f) (.ref x)), toks := s.toks + 1 })
  (hg : plainGet (K w.params) C name = true := by rfl) (hd : hasDictIn (K w.params) C = true := by rfl) (ha : findIn (K w.params) (.ref C) name = some (some (.ref f)) := by rfl)
  (hn : specialIn (K w.params) (.ref f) "__get__" = some (some (.builtin "function.__get__")) := by rfl) (ht : takesIn (K w.params) (.ref f) = some false := by rfl) (hc : copiedNames.contains name = false := by rfl) (hT : typeIn (K w.params) (.ref f) = some (.type "function") := by rfl) :
  wpAny (MK w) A (getAttr (.ref x) name expr) Q E s := by
 refine aZ I.at_ fun o J ho hl => ?_
 exact get_bind G.K J (plainGet_of hg).1 (jk hd ha hn ht hc (by rw [hl, hv])) (plainGet_of hg).2 (Bf (fn_get (s := { s with toks := s.toks + 1 }) G.K hT (handed_on rfl h)))
end
section
variable {M : Model} {A : Around} {E : Value -> Shared -> Prop} {s : Shared} {env : Env} {Q : Value -> Shared -> Prop}
theorem gZ {o : Expr} {name : Str} {apos pos : Pos} {args : List Expr}
  (h : wpAny M A (eval o env) (fun ov s_1 => wpAny M A (getAttr ov name true) (fun f s_2 => wpAny M A (callWith pos f [] (backTo pos (starEach args env)) []) Q E s_2) E s_1) E s)
  (he : eval (.Call (.Attribute o name apos) args [] pos) env = (do
   let ov <- eval o env
   standAt apos.atName
   let (f, first) <- holding [ov] (do pure (<- getAttr ov name true, []))
   callWith pos f first (backTo pos (starEach args env)) []) := by rfl) :
  wpAny M A (eval (.Call (.Attribute o name apos) args [] pos) env) Q E s := by
 rw [he]
 refine Aa (Aj h (fun ov s_1 h_1 => Aa (Bz (Aa (At (Aa (Aj h_1 (fun f s_2 h_2 => Ae ?_) fun _ _ x => x)))))) fun _ _ x => x)
 exact h_2
theorem iP {K : Frag} {q g : Addr} {self : Value} {pos : Pos} {e : Expr} {rest : List Expr} (hf : fnIn K g = true) (h : wpAny M A (spliced (backTo pos (starEach (e :: rest) env))) (fun vs s_1 => MethP K q g self s_1.heap ∧ wpAny M A (call (.ref q) vs) Q E s_1) E s)
  (he : starEach (e :: rest) env = (false, eval e env) :: starEach rest env := by rfl) (hst : (backTo pos (starEach rest env)).any (·.1) = true := by rfl) :
  wpAny M A (callWith pos (.ref q) [] (backTo pos (starEach (e :: rest) env)) []) Q E s := by
 rw [he] at h ⊢
 exact ks_call (P := MethP K q g self) (by show (false || (backTo pos (starEach rest env)).any (·.1)) = true; rw [hst]; rfl) (keeps_M hf) (evalArgs_plain h)
end
theorem kg {prog : Program} {w : World} {A : Around} {E : Value -> Shared -> Prop} {s : Shared} {a : Addr} {its : Array Value} {Q : List Value -> Shared -> Prop} (hl : s.heap.PlainList a its) (hz : its.size ≤ sizeLine)
  (h : ∀ h', Ext s.heap h' -> Q its.toList { s with heap := h' }) : StarOf (model prog w) A E (.ref a) Q s := by
 have hT' : s.TypeIs (.ref a) "list" := hl.isList.typeIs
 refine ah hl fun n D => ?_
 clear hl
 have z : wpAny (model prog w) A (collect (.ref a)) Q E s := wpAny_collect_seq a (.inl rfl) D rfl rfl (fun h' hk => h h' hk) hz
 unfold StarOf notIterableAtAll
 exact Aa (wpAny_specialOf hT' PySem.F.slot_list_iter.lookup (Ae ⟨rfl, z⟩))
theorem mA {h h' : Heap} {L : Addr} {m : Str -> Option Value} (n : h.Ns L m) (k : ∀ o, h.get? L = some o -> (∀ vs, o.data ≠ .fields vs) -> ∃ sl, h'.get? L = some { o with slots := sl }) : h'.Ns L m := by
 refine jH n fun o es ep ho hd r => ?_
 clear n
 obtain ⟨sl, q⟩ := k o ho fun vs e => by rw [hd] at e; cases e
 exact EI3 _ es ep ⟨q, hd, r⟩
theorem fe {k : Value -> Option Str} {y : Str} : ∀ {vs : List Value} {W : List Str}, vs.map k = W.map some -> y ∈ W -> ∃ j, ∃ hj : j < vs.length, k vs[j] = some y ∧ (∀ m (hm : m < vs.length), m < j -> k vs[m] ≠ some y) ∧ (vs.eraseIdx j).map k = (W.erase y).map some
 | [], [], _, h => absurd h (by simp)
 | v :: vs, c :: W, e, h => by
  simp only [A2, B9] at e
  by_cases q : c = y
  ·subst q
   exact ⟨0, by simp, e.1, fun m _ h => absurd h (Nat.not_lt_zero m), by simpa using e.2⟩
  ·obtain ⟨j, hj, h1, h2, h3⟩ := fe e.2 ((Ap.mp h).resolve_left fun z => q z.symm)
   refine ⟨j + 1, by simpa using hj, h1, fun m hm hlt => ?_, ?_⟩
   ·cases m with
    | zero => simp only [List.getElem_cons_zero, e.1]; exact fun z => q (Bk z)
    | succ m => exact h2 m (by simpa using hm) ((tD hlt))
   ·rw [List.eraseIdx_cons_succ, A2, h3, e.1, List.erase_cons_tail (by simpa using q)]; rfl
theorem gG {f : Str -> Nat} : ∀ {l : List Str}, (∀ y ∈ l, f y ≤ 8) -> (l.map f).sum ≤ 8 * l.length
 | [], _ => Aw _
 | y :: l, h => by
  have := gG (l := l) fun z hz => h z (A1 _ hz)
  have := h y Ar
  simp only [A2, Gp, Bj]; omega
theorem iR {names : List Str} {need : Str -> List Str} (N : aV names need) (i : Nat) : b6 need (names.take i) (da need (names.take i)) := by
 have := fU need (names.take i) [] bS (jP need) (by simpa using List.Sublist.nodup (List.take_sublist i names) N.nd)
 simpa [da] using this
abbrev lS : FuncData := fd (stA 52) "_law_waits" "_law_waits" 3 [] .none .none .none (.str (q "law_dn0070_12") 1945) none (.ref 1223) .none 0
section
variable {w : World} {A : Around} {E : Value -> Shared -> Prop} {s : Shared} {Q : Value -> Shared -> Prop}
theorem oI {k : Nat} {g : Heap} {l : List Env} {rank : Str -> Nat} {names head : Str} {t1 t2 : Tok} {nd : Addr} {need : Str -> List Str} (R : ak A (k + 8)) (G : Gr w g) (O : Ext g s.heap) (hfr : A.frames = some l) (fl : FF s.heap l) (fr : ∀ b ∈ fra l, g.get? b = none)
  (N : bA w g nd (ab names) need) (Nn : aV (ab names) need) (V : bF (ab names) need (ab head)) (hsz : names.length ≤ 10) (hsz8 : ∀ y ∈ ab names, (need y).length ≤ 8) (hrank : ∀ z ∈ ab names, ∀ y ∈ need z, rank y < rank z)
  (hQ : ∀ h' tk' D, IsL sOf h' D (bv need (ab names) (ab head)) -> s.heap.get? D = none -> Slo (fra l) s.heap h' -> Q (.ref D) { s with heap := h', toks := tk' }) :
  wpAny (MK w) A (call (.ref 1224) [.str names t1, .ref nd, .str head t2]) Q E s := by
 refine dP (binds := [(q "names", .str names t1), (q "needs", .ref nd), (q "head", .str head t2)]) (fd := lS) R (G.ext O) rfl rfl rfl rfl (Dy rfl) (by decide) rfl ?_
 intro h1 n1 k1
 have fL := ae s.heap
 generalize hLs : s.heap.objs.size = L at *
 have hR : ak (A.deeper (callEnv lS L 1224)) (k + 7) := R.deeper _
 have O1 := Ext.trans O k1
 have gL : g.get? L = none := ap O fL
 refine ad ?_
 intro Qb
 refine Ab ?_
 refine Aq ?_
 refine Dn ?_
 refine nmG (G.ext O1) rfl ?_
 refine callWith_K0 (G.ext O1).K rfl ?_
 refine mT (s := { s with heap := h1, toks := _ }) (k := k + 4) hR G O1 ?_
 intro h2 tk2 a k2 x2 r2
 dsimp only at k2 r2 ⊢
 have nLe : @LT.lt Nat _ L h1.objs.size := n1.lt
 refine stL (n1.keeps k2) fun h3 n3 s3 => ?_
 have roleL : a.role L = none := by
  cases e : a.role L with
  | none => rfl
  | some r => exact absurd (r2 L (by rw [e]; simp)) (Nat.not_le.mpr nLe)
 have x3 := x2.sb s3 roleL
 have k3 : Ext s.heap h3 := aA (Ext.trans k1 k2) s3 fL
 have hnl : (ab names).length ≤ 10 := by rw [au]; exact hsz
 have lens : ∀ t : St, t.order.Nodup -> (∀ z ∈ t.order, z ∈ ab names) -> t.order.length ≤ 10 := fun t h1 h2 => Ag (bm h1 h2) hnl
 have pre : ∀ i, (da need ((ab names).take i)).order.length ≤ 10 ∧ ∀ z, ((da need ((ab names).take i)).su z).length ≤ 80 := fun i => by
  have a := iR Nn i
  refine ⟨lens _ a.ok.nd fun z hz => ?_, fun z => ?_⟩
  ·rcases (a.mem z).mp hz with q | ⟨y, hy, q⟩
   ·exact Df q
   ·exact Nn.hin y (Df hy) z q
  ·rw [a.su]
   have h1 := oh (names := (ab names).take i) (need := need) (z := z)
   have h2 := gG (l := (ab names).take i) (f := fun y => (need y).length) fun y hy => hsz8 y (Df hy)
   have h3 : ((ab names).take i).length ≤ (ab names).length := by rw [Dc]; exact Nat.min_le_right _ _
   exact rp hnl h1 h2 h3
 refine ad ?_
 intro Qb
 refine Ab ?_
 refine ad ?_
 intro Qb
 refine FOR (k := sOf) ?_
 refine nmL n3 rfl ?_
 refine Aj (bT hR.h) ?_ (fun _ _ e => e)
 intro it s_2 h_2
 refine EI2 [] (ab names) ⟨h_2, ?_⟩
 intro fp wr hfp hfs hwr
 refine cB h_2 ?_
 clear h_2
 rintro _ _ _ _ _ _ rfl _ _ _ _ _ _ _ Z13
 refine aG Z13 ?_
 clear Z13
 rintro h4 tk4 rfl k4
 dsimp only at k4 hfs hfp hwr ⊢
 have ffp : ∀ b ∈ fp, h3.get? b = none := fun b hb => (hfp b hb).elim (fun q => by cases q) id
 have wfp : ∀ b ∈ wr, b ∈ fp := fun b hb => (hwr b hb).1
 have Lfp : L ∉ fp := fun hb => by obtain ⟨o, _, _, ho, _⟩ := n3; rw [ffp L hb] at ho; cases ho
 have old : ∀ b o, s.heap.get? b = some o -> b ∉ fp := fun b o e hb => by have := k3 b o e; rw [ffp b hb] at this; cases this
 have sz4 : @LT.lt Nat _ L h4.objs.size := (n3.keeps k4).lt
 refine ⟨fun i h => ∃ a', SAt w g h a' (da need ((ab names).take i)) ∧ (∀ b, a'.role b ≠ none -> s.heap.get? b = none ∧ b ≠ L ∧ b ∉ fp) ∧ a'.S = a.S ∧ Ext s.heap h ∧
  ∃ m, h.Ns L m ∧ m (q "names") = some (.str names t1) ∧ m (q "needs") = some (.ref nd) ∧ m (q "head") = some (.str head t2) ∧ m (q "sorter") = some (.ref a.S), ?_, ?_, ?_, ?_⟩
 ·refine ⟨a, x3.ext k4, fun b hb => ⟨av (Ag (by rw [hLs]; exact Bh nLe) (r2 b hb)), fun q => hb (q ▸ roleL), fun hm => ?_⟩, rfl, Ext.trans k3 k4, _, n3.keeps k4, rfl, rfl, rfl, rfl⟩
  refine ah ((x3.live b hb).1) fun o ho => ?_
  rw [ffp b hm] at ho; cases ho
 ·intro i h h' X1 hk
  refine gb X1 fun a' X r hS e Z14 => ?_
  clear X1
  refine gb Z14 fun m n m1 m2 m3 m4 => ?_
  clear Z14
  exact ⟨a', X.move fun b o hb q => hk b o (fun hm => (r b hb).2.2 (wfp b hm)) q, r, hS, fun b o q => hk b o (fun hm => old b o q (wfp b hm)) (e b o q), m, n.at' fun o q => hk _ o (fun hm => Lfp (wfp _ hm)) q, m1, m2, m3, m4⟩
 ·intro i v y s' E' hc hv X2 hzl X3
  refine aB X2 ?_
  clear X2
  rintro h' tk' rfl
  refine gb X3 fun a' X r hS e Z15 => ?_
  clear X3
  refine gb Z15 fun m n m1 m2 m3 m4 => ?_
  clear Z15
  try dsimp only
  have hzl : @LE.le Nat _ h4.objs.size h'.objs.size := hzl
  refine ah (ai hv) ?_
  rintro ty rfl
  have hyn : y ∈ ab names := List.mem_of_getElem? hc
  have role' : a'.role L = none := by
   cases q : a'.role L with
   | none => rfl
   | some z => exact absurd rfl (r L (by rw [q]; simp)).2.1
  refine Ae ?_
  refine Ay ?_
  refine stL n fun h5 n5 s5 => ?_
  have x5 := X.sb s5 role'
  have e5 : Ext s.heap h5 := aA e s5 fL
  have O5 := Ext.trans O e5
  have f5 : ∀ b ∈ fp, ∀ o, h'.get? b = some o -> h5.get? b = some o := fun b hb o q => s5.extBut b o (fun z => Lfp (z ▸ hb)) q
  have sz5 : @LE.le Nat _ h4.objs.size h5.objs.size := by rw [s5.1]; exact hzl
  refine ad ?_
  intro Qb
  refine Ab ?_
  refine Gm ?_
  refine gZ ?_
  refine nmL n5 m4 ?_
  refine eK x5.inst fun mm I d1 d2 d3 d4 d5 => ?_
  rw [hS] at I
  refine vQ (s := { s with heap := h5, toks := _ }) (f := 1163) (G.ext O5) I (d5 _ (by decide)) ?_
  have k6 : Ext h5 (h5.push (methodObj (.ref 1163) (.ref a.S))) := ac _ _
  have mq6 : (h5.push (methodObj (.ref 1163) (.ref a.S))).get? h5.objs.size = some (methodObj (.ref 1163) (.ref a.S)) := Heap.get?_push_size _ rfl
  dsimp only
  generalize h5.push (methodObj (.ref 1163) (.ref a.S)) = h6 at *
  refine iP (K := K w.params) (g := 1163) (self := .ref a.S) rfl ?_
  have n6 := n5.keeps k6
  have O6 := Ext.trans O5 k6
  refine Ak ?_
  refine nmL n6 rfl ?_
  refine items_star ?_
  refine dl (g := g) N ?_
  refine nmL n6 m2 ?_
  refine nmL n6 rfl ?_
  refine EI2 y ty ⟨rfl, rfl, hyn, O6, fun La hL => ?_⟩
  refine ag hL fun its P qi => ?_
  clear hL
  have hil := congrArg List.length qi
  simp only [Ai, As] at hil
  have h8 := hsz8 y hyn
  refine kg (P.at fun o => O6 _ o) (by rw [Az]; exact sX hil h8) ?_
  intro h7 k7
  have mq7 := k7 _ _ mq6
  have O7 := Ext.trans O6 k7
  have x7 := (x5.ext k6).ext k7
  refine An ?_
  refine ⟨⟨mq7, (G.ext O7).K⟩, ?_⟩
  rw [<- hS] at mq7
  refine Bf (method_call mq7 ?_)
  show codeAny _ _ (.call (.ref 1163) ⟨.ref a'.S :: .str y ty :: (its.toList ++ []), []⟩) _ _
  rw [Gi]
  refine ao (pre i) fun p1 p2 => ?_
  refine vX (s := { s with heap := h7, toks := _ }) (k := k + 1) hR G O7 x7 (iR Nn i).rd qi h8 ((m0 p1)) (fun z _ => by have := p2 z; exact qY this) ?_
  intro h9 tk9 a9 x9 g9 S9 kp9
  dsimp only at g9 kp9 ⊢
  have sz7 : @LT.lt Nat _ h5.objs.size h7.objs.size := A5 mq7
  have nt := fun b (hb : a'.role b = none) (hlt : @LT.lt Nat _ b h7.objs.size) => g9.none hb hlt
  have n7 := n6.keeps k7
  have Lz : @LT.lt Nat _ L h7.objs.size := n7.lt
  refine Ah ?_
  have eadd : iT (da need ((ab names).take i)) y (need y) = da need ((ab names).take (i + 1)) := by
   rw [gm _ _ _ hc]; simp [da]
  rw [eadd] at x9
  refine ⟨Lk.of, ⟨a9, x9, fun b hb => ?_, S9.trans hS, fun b o q => ?_, _, n7.at' fun o q => kp9 _ o role' q, m1, m2, m3, m4⟩, fun b hb o q => ?_⟩
  ·rcases g9.2 b hb with q | q
   ·exact r b q
   ·exact ⟨av (by rw [hLs]; exact Ag (Bh Lz) q), fun z => absurd Lz (Bp.mpr (z ▸ q)), fun hm => absurd (Bq (Bq (hfs b hm) sz5) (Bh sz7)) (Bp.mpr q)⟩
  ·refine kp9 b o ?_ (k7 b o (k6 b o (e5 b o q)))
   cases z : a'.role b with
   | none => rfl
   | some _ => have := (r b (by rw [z]; simp)).1; rw [q] at this; cases this
  ·refine kp9 b o ?_ (k7 b o (k6 b o (f5 b hb o q)))
   cases z : a'.role b with
   | none => rfl
   | some _ => exact absurd hb (r b (by rw [z]; simp)).2.2
 ·intro s' X4 hzl X5
  refine aB X4 ?_
  clear X4
  rintro h' tk' rfl
  refine gb X5 fun a' X r hS e Z16 => ?_
  clear X5
  refine gb Z16 fun m n m1 m2 m3 m4 => ?_
  clear Z16
  try dsimp only
  rw [A7] at X
  have aI := iS Nn
  have memO : ∀ z, z ∈ (da need (ab names)).order ↔ z ∈ ab names := fS aI Nn.hin
  have hlen := lens _ aI.ok.nd fun z hz => (memO z).mp hz
  have role' : a'.role L = none := by
   cases q : a'.role L with
   | none => rfl
   | some z => exact absurd rfl (r L (by rw [q]; simp)).2.1
  have roleO : ∀ b o, s.heap.get? b = some o -> a'.role b = none := fun b o q => by
   cases z : a'.role b with
   | none => rfl
   | some _ => have := (r b (by rw [z]; simp)).1; rw [q] at this; cases this
  have O5 := Ext.trans O e
  refine ad ?_
  intro Qb
  refine Ab ?_
  refine Gm ?_
  refine Bc (pl := _) ?_
  refine nmL n m4 ?_
  refine eK X.inst fun mm I d1 d2 d3 d4 d5 => ?_
  rw [hS] at I
  refine jh (s := { s with heap := h', toks := _ }) (f := 1168) (G.ext O5) I (d5 _ (by decide)) ?_
  refine callWith_K0 (G.ext O5).K rfl ?_
  have ff5 : FF h' (callEnv lS L 1224 :: l) := (fl.ext e).cons (env := callEnv lS L 1224) (fun h => by cases h) rfl n
  refine lw (s := { s with heap := h', toks := _ }) (k := k + 1) (rank := rank) (l := callEnv lS L 1224 :: l) hR G O5 X (Around.frames_deeper hfr) ff5 (fun b hb => ?_) aI.rd ((m0 hlen)) (fun z => ?_) (fun y hy z hz => ?_) hS ?_
  ·rcases Ap.mp hb with rfl | hb
   ·exact ⟨role', gL⟩
   ·refine ⟨?_, fr b hb⟩
    cases q : s.heap.get? b with
    | none => exact absurd q (fl.some hb)
    | some o => exact roleO b o q
  ·have := (pre (ab names).length).2 z
   rw [A7] at this; exact qY this
  ·rw [aI.su] at hz
   refine ao (ll hz) fun h1 h2 => ?_
   exact ⟨(memO z).mpr h1, hrank z h1 y h2⟩
  intro h6 tk6 a2 x6 r6 S6 O6 ks6
  dsimp only at r6 ks6 ⊢
  have bL : ∀ b o, s.heap.get? b = some o -> b ≠ L := fun b o q z => by rw [z, fL] at q; cases q
  have slo6 : Slo (fra l) s.heap h6 := by
   refine ⟨fun b o hb q => ks6.keep b o (roleO b o q) (fun hm => ?_) (e b o q), fun b o q d => ks6.up b o (roleO b o q) (e b o q) d⟩
   rcases Ap.mp hm with z | z
   ·exact bL b o q z
   ·exact hb z
  have n6 : h6.Ns L m := mA n fun o q d => ks6.up L o role' q d
  have role6 : ∀ b o, h'.get? b = some o -> a'.role b = none -> a2.role b = none := fun b o q z => by
   cases z2 : a2.role b with
   | none => rfl
   | some _ =>
    rcases r6 b (by rw [z2]; simp) with y | y
    ·exact absurd z y
    ·rw [q] at y; cases y
  have roleL6 : a2.role L = none := by obtain ⟨o, _, _, ho, _⟩ := n; exact role6 L o ho role'
  have roleO6 : ∀ b o, s.heap.get? b = some o -> a2.role b = none := fun b o q => role6 b o (e b o q) (roleO b o q)
  have S6' : a2.S = a.S := S6.trans hS
  have rm := bU aI Nn.hin
  have rN : (aT (da need (ab names))).Nodup := List.Pairwise.filter _ aI.ok.nd
  have rlen : (aT (da need (ab names))).length ≤ 10 := Ag (bm rN fun z hz => ((rm z).mp hz).1) hnl
  refine ad ?_
  intro Qb
  refine Ab ?_
  refine ad ?_
  intro Qb
  refine Aq ?_
  refine ad ?_
  intro Qb
  refine bX (s := { s with heap := h6, toks := _ }) (G.ext O6) rfl rfl ?_
  refine Ak ?_
  refine ad ?_
  intro Qb
  refine Bc (pl := _) ?_
  refine nmL n6 m4 ?_
  clear I d1 d2 d3 d4 d5
  refine eK x6.inst fun mm I d1 d2 d3 d4 d5 => ?_
  rw [S6'] at I
  refine jh (s := { s with heap := h6, toks := _ }) (f := 1175) (G.ext O6) I (d5 _ (by decide)) ?_
  refine callWith_K0 (G.ext O6).K rfl ?_
  refine lu (s := { s with heap := h6, toks := _ }) (k := k + 1) hR G O6 x6 (rl := aT (da need (ab names))) rfl (fun y hy => (memO y).mpr ((rm y).mp hy).1) ((m0 rlen)) S6' ?_
  intro h7 tk7 T vs x7 t7 hv7 rT fT kp7
  dsimp only at kp7 fT ⊢
  refine An ?_
  have hvl := congrArg List.length hv7
  simp only [Ai, As] at hvl
  have slo7 : Slo (fra l) s.heap h7 := slo6.of fun b o q z => kp7 b o (by
   cases y : s.heap.get? b with
   | none => exact absurd y q
   | some o' => exact roleO6 b o' y) z
  have n7 := n6.at' fun o q => kp7 L o roleL6 q
  have O7 : Ext g h7 := fun b o q => kp7 b o (x6.none_g q) (O6 b o q)
  refine call_list_seq (s := { s with heap := h7, toks := _ }) T (.inr rfl) t7 rfl rfl ?_ (by rw [Az]; exact qx rlen hvl)
  intro h8 c8 k8 l8
  dsimp only at k8 l8 ⊢
  have fD := ae h7
  generalize hDs : h7.objs.size = D at *
  have DL : L ≠ D := fun z => by obtain ⟨o, _, _, ho, _⟩ := n7; rw [z, fD] at ho; cases ho
  have rD : a2.role D = none := x7.none_of fD
  have sD : s.heap.get? D = none := by
   cases z : s.heap.get? D with
   | none => rfl
   | some o =>
    by_cases hf : D ∈ fra l
    ·have := (FF.slo fl slo7).some hf; exact absurd fD this
    ·have := slo7.keep D o hf z; rw [fD] at this; cases this
  have gD : g.get? D = none := ap O7 fD
  refine stL (n7.keeps k8) fun h9 n9 s9 => ?_
  have x9 := (x7.ext k8).sb s9 roleL6
  have l9 : IsL sOf h9 D (aT (da need (ab names))) := ⟨vs, ⟨_, s9.extBut _ _ DL.symm l8⟩, hv7⟩
  have slo9 := (slo7.ext k8).sb s9 fL
  have O9 : Ext g h9 := fun b o q => s9.extBut b o (fun z => by rw [z, gL] at q; cases q) (k8 b o (O7 b o q))
  clear s9 l8 k8 n7 slo7 kp7 x7 x6 n6 slo6 ks6 I d1 d2 d3 d4 d5 O6 O7
  refine ad ?_
  intro Qb
  refine Ab ?_
  refine ad ?_
  intro Qb
  refine FOR (k := sOf) ?_
  refine nmL n9 m3 ?_
  refine ad ?_
  intro Qb
  refine Aj (bT hR.h) ?_ (fun _ _ e => e)
  intro it s_2 h_2
  refine EI2 [] (ab head) ⟨h_2, ?_⟩
  intro fq wq hfq hfqs hwq
  refine cB h_2 ?_
  clear h_2
  rintro _ _ _ _ _ _ rfl _ _ _ _ _ _ _ Z17
  refine aG Z17 ?_
  clear Z17
  rintro h10 tk10 rfl k10
  dsimp only at k10 hfqs hfq hwq ⊢
  have ffq : ∀ b ∈ fq, h9.get? b = none := fun b hb => (hfq b hb).elim (fun q => by cases q) id
  have wfq : ∀ b ∈ wq, b ∈ fq := fun b hb => (hwq b hb).1
  have Lfq : L ∉ fq := fun hb => by obtain ⟨o, _, _, ho, _⟩ := n9; rw [ffq L hb] at ho; cases ho
  have Dfq : D ∉ fq := fun hb => by obtain ⟨o, ho⟩ := l9.ex; rw [ffq D hb] at ho; cases ho
  have oldg : ∀ b o, g.get? b = some o -> b ∉ fq := fun b o e hb => by have := O9 b o e; rw [ffq b hb] at this; cases this
  have rfq : ∀ b ∈ fq, a2.role b = none := fun b hb => x9.none_of (ffq b hb)
  have olds : ∀ b, s.heap.get? b ≠ none -> b ∉ fq := fun b hb hm => by
   by_cases hf : b ∈ fra l
   ·exact (FF.slo fl slo9).some hf (ffq b hm)
   ·cases z : s.heap.get? b with
    | none => exact hb z
    | some o => have := slo9.keep b o hf z; rw [ffq b hm] at this; cases this
  have eW := i9 Nn V
  refine ⟨fun i h => SAt w g h a2 (dy need (ab names) ((ab head).take i)).1 ∧ Slo (fra l) s.heap h ∧ Ext g h ∧ IsL sOf h D (dy need (ab names) ((ab head).take i)).2 ∧
   ∃ m, h.Ns L m ∧ m (q "sorter") = some (.ref a.S) ∧ m (q "waits") = some (.ref D), ?_, ?_, ?_, ?_⟩
  ·exact ⟨x9.ext k10, slo9.ext k10, Ext.trans O9 k10, l9.ext k10, _, n9.keeps k10, m4, rfl⟩
  ·intro i h h' X6 hk
   refine ce X6 fun X sl O' W Z18 => ?_
   clear X6
   refine aZ Z18 fun m n c1 c2 => ?_
   clear Z18
   exact ⟨X.move fun b o hb q => hk b o (fun hm => hb (rfq b (wfq b hm))) q, sl.of fun b o hb q => hk b o (fun hm => olds b hb (wfq b hm)) q, fun b o q => hk b o (fun hm => oldg b o q (wfq b hm)) (O' b o q), W.at fun o q => hk _ o (fun hm => Dfq (wfq _ hm)) q, m, n.at' fun o q => hk _ o (fun hm => Lfq (wfq _ hm)) q, c1, c2⟩
  ·intro i v y s' E' hc hv X7 hzl X8
   refine aB X7 ?_
   clear X7
   rintro h' tk' rfl
   refine ce X8 fun X sl O' W Z19 => ?_
   clear X8
   refine aZ Z19 fun m n c1 c2 => ?_
   clear Z19
   try dsimp only
   refine ah (ai hv) ?_
   rintro ty rfl
   have hi : i < (ab head).length := (List.getElem?_eq_some_iff.mp hc).1
   refine ao (eW i ((qz hi))) fun v6 W6 => ?_
   refine cG (V i y hc) fun w1 w2 w3 => ?_
   refine gb (lm v6 Nn.nd w1 w2 w3 (eQ V i)) fun R r1 r2 r3 r4 r5 => ?_
   have eN := go (need := need) (names := ab names) hc
   have hnp : (dy need (ab names) ((ab head).take i)).1.np y = -1 := by
    rw [v6.np y w1, if_neg w2, if_pos (bK.mpr w3)]
   have hyW : y ∈ (dy need (ab names) ((ab head).take i)).2 := (W6.2 y).mpr ⟨w1, w2, w3⟩
   have Wlen : (dy need (ab names) ((ab head).take i)).2.length ≤ 10 := Ag (bm W6.1 fun z hz => ((W6.2 z).mp hz).1) hnl
   have Rlen : R.length ≤ 10 := Ag (bm r2 r4) hnl
   simp only [hM, r1, Option.getD_some] at eN
   have dO : (cp (dy need (ab names) ((ab head).take i)).1 y).order = (dy need (ab names) ((ab head).take i)).1.order := by
    have : ∀ (l : List Str) (t : St), (l.foldl aj t).order = t.order := fun l => by
     induction l with
     | nil => exact fun _ => rfl
     | cons z l ih => exact fun t => (ih _).trans (bo t z)
    exact (this _ _)
   generalize (dy need (ab names) ((ab head).take i)).2 = Wl at *
   generalize (dy need (ab names) ((ab head).take i)).1 = t at *
   refine Ae ?_
   refine Ay ?_
   refine stL n fun hA nA sA => ?_
   have XA := X.sb sA roleL6
   have slA := sl.sb sA fL
   have OA : Ext g hA := fun b o q => sA.extBut b o (fun z => by rw [z, gL] at q; cases q) (O' b o q)
   have WA := W.at fun o => sA.extBut D o DL.symm
   have fA : ∀ b ∈ fq, ∀ o, h'.get? b = some o -> hA.get? b = some o := fun b hb o q => sA.extBut b o (fun z => Lfq (z ▸ hb)) q
   refine ad ?_
   intro Qb
   refine Ab ?_
   refine Gm ?_
   refine ad ?_
   intro Qb
   refine Bc (pl := _) ?_
   refine nmL nA c1 ?_
   refine eK XA.inst fun mm I _ _ _ _ d5 => ?_
   rw [S6'] at I
   refine jh (s := { s with heap := hA, toks := _ }) (f := 1196) (G.ext OA) I (d5 _ (by decide)) ?_
   refine callWith_K (G.ext OA).K rfl ?_
   refine Ak ?_
   refine nmL nA rfl ?_
   refine An ⟨(G.ext OA).K, ?_⟩
   refine uv (s := { s with heap := hA, toks := _ }) (k := k + 1) hR G OA XA (rl := []) v6.rd (by simp) ((v6.mem y).mpr w1) hnp (fun z hz => ?_) ?_ S6' ?_
   ·rw [v6.su] at hz
    exact (v6.mem z).mpr (ll hz).1
   ·rw [v6.su]
    have q1 := oh (names := ab names) (need := need) (z := y)
    have q2 := gG (l := ab names) (f := fun y => (need y).length) fun y hy => hsz8 y hy
    exact rR hnl q1 q2
   intro hB tkB XB kpB
   dsimp only at kpB ⊢
   have nB := nA.at' fun o q => kpB L o roleL6 q
   have slB : Slo (fra l) s.heap hB := slA.of fun b o q z => kpB b o (by
    cases y : s.heap.get? b with
    | none => exact absurd y q
    | some o' => exact roleO6 b o' y) z
   have OB : Ext g hB := fun b o q => kpB b o (XA.none_g q) (OA b o q)
   refine ag (WA.at fun o q => kpB D o rD q) ?_
   rintro its ⟨nn, pB⟩ qB
   have hil := congrArg List.length qB
   simp only [Ai, As] at hil
   have fB : ∀ b ∈ fq, ∀ o, h'.get? b = some o -> hB.get? b = some o := fun b hb o q => kpB b o (rfq b hb) (fA b hb o q)
   refine ad ?_
   intro Qb
   refine Ab ?_
   refine Gm ?_
   refine ad ?_
   intro Qb
   refine Bc (pl := _) ?_
   refine nmL nB c2 ?_
   refine Bi (T := "list") (id := "list.remove") ⟨_, pB, rfl⟩ Bn PySem.F.slot_list_remove PySem.F.type_list_remove (fun b e => by cases e; exact ⟨_, pB, rfl⟩) ?_
   refine P.remove_list (x := eval _ _) ?_
   refine nmL nB rfl ?_
   obtain ⟨j, hj, j1, j2, j3⟩ := fe qB hyW
   refine ⟨its, nn, fun v => decide (sOf v = some y), j, by simpa using hj, by rw [Az]; exact qx Wlen hil, pB, fun u hu => ?_, by simpa using j1, fun m' hm hlt => ?_, ?_⟩
   ·have hm : sOf u ∈ its.toList.map sOf := List.mem_map_of_mem (Array.mem_toList_iff.mpr hu)
    rw [qB] at hm
    refine ag (A0.mp hm) fun z _ hz => ?_
    refine ah (ai hz.symm) ?_
    rintro tz rfl
    have := eqGives_str z y tz ty
    have e1 : decide (sOf (.str z tz) = some y) = (z == y) := by
     show decide (some z = some y) = (z == y)
     by_cases q : z = y
     ·subst q; simp
     ·simp [q]
    show MeetsSeq.EqGives (.str z tz) (.str y ty) (decide (sOf (.str z tz) = some y))
    rw [e1]; exact this
   ·have := j2 m' (by simpa using hm) hlt
    rw [Array.getElem_toList] at this
    exact decide_eq_false this
   have sC : Heap.SameBut D hB (hB.update D (Obj.mapSeq fun xs => xs.eraseIdxIfInBounds j)) := A8 ..
   have lC : IsL sOf (hB.update D (Obj.mapSeq fun xs => xs.eraseIdxIfInBounds j)) D (Wl.erase y) := by
    refine ⟨_, ⟨_, PySem.IsL.update pB _⟩, ?_⟩
    rw [<- j3, Array.eraseIdxIfInBounds, dif_pos (by simpa using hj), Array.toList_eraseIdx]
   generalize hB.update D (Obj.mapSeq fun xs => xs.eraseIdxIfInBounds j) = hC at *
   have nC := nB.sameBut sC DL
   have XC := XB.sb sC rD
   have slC := slB.sb sC sD
   have OC : Ext g hC := fun b o q => sC.extBut b o (fun z => by rw [z, gD] at q; cases q) (OB b o q)
   have fC : ∀ b ∈ fq, ∀ o, h'.get? b = some o -> hC.get? b = some o := fun b hb o q => sC.extBut b o (fun z => Dfq (z ▸ hb)) (fB b hb o q)
   have erl : (Wl.erase y).length ≤ Wl.length := List.length_erase_le ..
   refine ag (id lC) ?_
   rintro its2 ⟨nn2, pC⟩ qC
   have hil2 := congrArg List.length qC
   simp only [Ai, As] at hil2
   refine ad ?_
   intro Qb
   refine Ab ?_
   refine Gm ?_
   refine ad ?_
   intro Qb
   refine Bc (pl := _) ?_
   refine nmL nC c2 ?_
   refine Bi (T := "list") (id := "list.extend") ⟨_, pC, rfl⟩ Bn PySem.F.slot_list_extend PySem.F.type_list_extend (fun b e => by cases e; exact ⟨_, pC, rfl⟩) ?_
   refine seqMethod1_meets PySem.F.slot_list_extend PySem.F.entry_list_extend (x := eval _ _) ?_
   refine ad ?_
   intro Qb
   refine Bc (pl := _) ?_
   refine nmL nC c1 ?_
   clear I d5
   refine eK XC.inst fun mm I _ _ _ _ d5 => ?_
   rw [S6'] at I
   refine jh (s := { s with heap := hC, toks := _ }) (f := 1175) (G.ext OC) I (d5 _ (by decide)) ?_
   refine callWith_K0 (G.ext OC).K rfl ?_
   refine lu (s := { s with heap := hC, toks := _ }) (k := k + 1) hR G OC XC (rl := R) r1 (fun z hz => ?_) ((m0 Rlen)) S6' ?_
   ·rw [dO]; exact (v6.mem z).mpr (r4 z hz)
   intro hE tkE T2 vs2 XE tE hvE rT2 fT2 kpE
   dsimp only at kpE fT2 ⊢
   have hvl2 := congrArg List.length hvE
   simp only [Ai, As] at hvl2
   have pE := kpE D _ rD pC
   have hsum : its2.size + vs2.size ≤ sizeLine := by rw [Az]; exact q5 Rlen Wlen erl hil2 hvl2
   refine ⟨⟨_, pE, rfl⟩, PySem.F.args_list_extend_2 _ _, _, AutoSeq1.list_extend_list_tuple_0 D its2 _ T2 vs2 _ (extend_door hsum) ((r0 hsum)) ((sa hsum)), pE, tE, ?_⟩
   have sF : Heap.SameBut D hE (hE.update D (Obj.mapSeq fun x => x ++ vs2)) := A8 ..
   have lF : IsL sOf (hE.update D (Obj.mapSeq fun x => x ++ vs2)) D (Wl.erase y ++ R) := by
    refine ⟨_, ⟨_, PySem.IsL.update pE _⟩, ?_⟩
    rw [Array.toList_append, Ba, qC, hvE, Ba]
   show wpAny _ _ (execs [] _) _ _ { s with heap := hE.update D (Obj.mapSeq fun x => x ++ vs2), toks := tkE }
   generalize hE.update D (Obj.mapSeq fun x => x ++ vs2) = hF at *
   refine Ah ?_
   refine ⟨Lk.of, ⟨by rw [eN]; exact XE.sb sF rD, (slC.of fun b o q z => kpE b o (by
    cases y : s.heap.get? b with
    | none => exact absurd y q
    | some o' => exact roleO6 b o' y) z).sb sF sD, ?_, by rw [eN]; exact lF, _, (nC.at' fun o q => kpE L o roleL6 q).sameBut sF DL, c1, c2⟩, ?_⟩
   ·exact fun b o q => sF.extBut b o (fun z => by rw [z, gD] at q; cases q) (kpE b o (XC.none_g q) (OC b o q))
   ·exact fun b hb o q => sF.extBut b o (fun z => Dfq (z ▸ hb)) (kpE b o (rfq b hb) (fC b hb o q))
  ·intro s' X9 hzl X10
   refine aB X9 ?_
   clear X9
   rintro h' tk' rfl
   refine ce X10 fun X sl O' W Z20 => ?_
   clear X10
   refine aZ Z20 fun m n c1 c2 => ?_
   clear Z20
   try dsimp only
   rw [A7] at W
   refine Ab ?_
   refine Bu ?_
   refine nmL n c2 ?_
   exact hQ _ _ D W sD sl
end
end
section
abbrev fQ (dx : Addr) : Obj := { cls := .ref 1093, dict := some dx, data := .dict #[] }
section
variable {w : World} {A : Around} {E : Value -> Shared -> Prop} {R : Result -> Shared -> Prop} {h : Heap} {g : Array GenState} {d : Drawn} {t : Nat} {os : OsState}
theorem cb (w : World) : (K w.params).lookup 1093 = some (o1093 w.params) := rfl
theorem iQ (X : (K w.params).In h) : Looks (MK w) h (mroOf (.ref 1093)) [(.ref 1093), (.type "dict"), (.type "object")] := ((Gs (part := none) (X _ _ (cb w))).andThen .now).andThen .now
theorem jy (X : (K w.params).In h) : Looks (MK w) h (Bind.madeBy (.ref 1093)) (some "dict.__new__") := by
 intro A Q E s k q
 unfold Bind.madeBy
 refine Aa (iQ X A _ E s k ?_)
 rw [List.forIn_cons]
 refine Aa (Aa (Aa (Aa (wpAny_loadPart (k _ _ (X _ _ (cb w))) (Ae ?_)))))
 exact Ae (Ae (Ae q))
theorem pG (X : (K w.params).In h) : Looks (MK w) h (Bind.staticBase (.ref 1093)) (.ref 1093) := by
 intro A Q E s k q
 unfold Bind.staticBase
 refine Aa (iQ X A _ E s k ?_)
 rw [List.forIn_cons]
 exact Aa (Aa (Aa (jy X A _ E s k (Ae (Ae (Ae q))))))
theorem pF (X : (K w.params).In h) : Looks (MK w) h (specialOf (.ref 1093) "__call__") (some (.builtin "type.__call__")) := looks_specialIn X rfl
theorem uy (X : (K w.params).In h) : Looks (MK w) h (isInstance (.ref 1093) (.type "type")) true := looks_instIn X rfl
theorem mq (X : (K w.params).In h) : Looks (MK w) h (isSubtype (.ref 1093) (.ref 1093)) true := looks_mroIn X rfl
theorem uz (X : (K w.params).In h) : Looks (MK w) h (isSubtype (.ref 1093) (.type "dict")) true := looks_mroIn X rfl
theorem pD (X : (K w.params).In h) : Looks (MK w) h (typeLookup (.ref 1093) "__init__") (some (.ref 887)) := B8 X rfl
theorem mi : splitId "dict.__new__" = some ("dict", "__new__") := by decide +kernel
theorem nP : builtinKind "dict.__new__" = some .builtinFn := by decide +kernel
theorem ml : entryFor table "dict.__new__" = some Builtin.«dict.__new__» := entryFor_of_tree (by kernel_rfl)
theorem mj : ("dict.__new__" : String).startsWith "lifetime." = false := by decide +kernel
theorem uA (X : (K w.params).In h) (hq : R (.ok (.ret (.ref (h.objs.size + 1)))) ⟨(h.push emptyDict).push (fQ h.objs.size), g, d, t, os⟩) :
  codeAny (MK w) A (.call (.builtin "dict.__new__") ⟨[.ref 1093], []⟩) R ⟨h, g, d, t, os⟩ := by
 refine codeAny_call_builtin_code (Code.quiet_builtin _ mj) ?_
 have hC := X _ _ (cb w)
 have b1 := pG X
 have b2 := jy X
 have b3 := uz X
 have b4 := iQ X
 have b5 : Looks (MK w) h (isType (.ref 1093)) true := (Gs (part := some headPart) hC).andThen .now
 simp only [checkBuiltinCall, nP, mi]
 repeat (first | simp only [bne_self_eq_false, Al, Be, Bool.not_true, if_true] | lk)
 refine G0 ml ?_
 unfold Builtin.«dict.__new__»
 have fin : ∀ A', wpAny (MK w) A' (do ret (<- newObj (.ref 1093) (.dict #[]) (some (<- alloc { cls := .type "dict", data := .dict #[] })))) (fun fin s' => match fin with | .done f => R (.ok f) s' | .again c' => c'.quiet = true ∧ codeAny (MK w) A c' R s') (fun e s' => R (.error e) s') ⟨h, g, d, t, os⟩ := by
  intro A'
  refine Aa (wpAny_alloc ?_)
  refine Aa ?_
  show wpAny _ _ (newObjAsIs _ _ _) _ _ _
  unfold newObjAsIs classHasDel
  refine Aa (wpAny_alloc (Aa (Aa (wpAny_load (Heap.get?_push_of_some _ (Heap.get?_push_of_some _ hC)) (Ae ?_)))))
  refine Ae (Ae ?_)
  show R _ _
  rw [A4]
  exact hq
 repeat (first | exact fin _ | simp only [bne_self_eq_false, Al, Be, Bool.not_true, if_true] | lk)
theorem pA (X : (K w.params).In h)
  (hq : codeAny (MK w) (A.under (.builtin "type.__call__" ⟨[.ref 1093], []⟩)) (.call (.ref 887) ⟨[.ref (h.objs.size + 1)], []⟩) (InitBack (h.objs.size + 1) R) ⟨(h.push emptyDict).push (fQ h.objs.size), g, d, t, os⟩) :
  codeAny (MK w) A (.call (.ref 1093) ⟨[], []⟩) R ⟨h, g, d, t, os⟩ := by
 have hC := X _ _ (cb w)
 have call := pF X
 have typ := uy X
 have made := jy X
 refine codeAny_of_tree ?_
 show wpAny _ _ (callAny (.ref 1093) _) _ _ _
 refine nd_load hC ?_
 show wpAny _ _ (callAny.viaDunder (.ref 1093) _) _ _ _
 unfold callAny.viaDunder
 refine Aa (call.at ?_)
 dsimp only
 rw [tc_bind]
 refine Aa (Ae (Aa (Ae ?_)))
 refine Ae (a := Fin.again (.call (.builtin "type.__call__") ⟨[.ref 1093], []⟩)) (And.intro rfl ?_)
 refine codeAny_call_builtin_at (Code.quiet_builtin _ (by decide +kernel)) entry_typeCall (check_slot tc_kind tc_split typ (tc_args _ _ _) ?_)
 unfold Builtin.«type.__call__»
 have hm := iQ X
 repeat (first | simp only [Al, Be] | with_reducible refine Bf ?_ | lk)
 refine uA X ?_
 have k : ∀ b o, h.get? b = some o -> ((h.push emptyDict).push (fQ h.objs.size)).get? b = some o := fun b o e => Heap.get?_push_of_some _ (Heap.get?_push_of_some _ e)
 have hx : ((h.push emptyDict).push (fQ h.objs.size)).get? (h.objs.size + 1) = some (fQ h.objs.size) := by rw [<- A4 h emptyDict]; exact Heap.get?_push_size _ rfl
 have t1 : Looks (MK w) ((h.push emptyDict).push (fQ h.objs.size)) (typeOf (.ref (h.objs.size + 1))) (.ref 1093) := (Gs hx).andThen .now
 have X2 : (K w.params).In ((h.push emptyDict).push (fQ h.objs.size)) := X.keeps k
 have s1 := mq X2
 have i1 := pD X2
 have b1 : Looks (MK w) ((h.push emptyDict).push (fQ h.objs.size)) (bindSpecial (.ref 887) (.ref (h.objs.size + 1))) (.ref 887, [.ref (h.objs.size + 1)]) := bind_fn X2 _ rfl
 unfold isInstance callSpecial? specialOf
 repeat (first | with_reducible refine Bf ?_ | lk)
 refine codeAny_mono hq fun r s' z => ?_
 rcases r with e | (v | _ | _ | _) <;> first | exact z | exact z.elim | skip
 refine ao z ?_
 clear z
 rintro rfl z
 exact Ae (Ae z)
end
end
section
abbrev oF (dx : Addr) (es : Array DictEntry) (ep : Nat) : Obj := ⟨.ref 1093, some dx, .dict es ep, #[]⟩
structure CtA (w : World) (h : Heap) (c dx : Addr) (kvs : List (Str × Value)) : Prop where
 obj : ∃ es ep, h.get? c = some (oF dx es ep) ∧ KeysOf (sK w) es ∧ Pairs (sK w) es.toList kvs ∧ (kvs.map (·.1)).Nodup
 dict : h.get? dx = some emptyDict
 nb : (c == sysModules) = false
section
variable {w : World} {h h' : Heap} {c dx b : Addr} {kvs : List (Str × Value)}
theorem CtA.at (x : CtA w h c dx kvs) (e1 : ∀ o, h.get? c = some o -> h'.get? c = some o) (e2 : ∀ o, h.get? dx = some o -> h'.get? dx = some o) : CtA w h' c dx kvs :=
 let ⟨es, ep, ho, r⟩ := x.obj; ⟨⟨es, ep, e1 _ ho, r⟩, e2 _ x.dict, x.nb⟩
theorem CtA.ext (x : CtA w h c dx kvs) (e : Ext h h') : CtA w h' c dx kvs := x.at (fun o => e c o) fun o => e dx o
theorem CtA.ne (x : CtA w h c dx kvs) : c ≠ dx := fun e => by
 refine aG x.obj fun es ep ho _ => ?_
 have := x.dict
 rw [<- e, ho] at this; cases this
theorem CtA.inst (x : CtA w h c dx kvs) : ∃ es ep, InstAt h c (oF dx es ep) 1093 (some emptyDict) := by
 refine aG x.obj fun es ep ho _ => ?_
 exact EI2 es ep ⟨ho, rfl, rfl, x.dict⟩
end
section
variable {w : World} {A : Around} {E : Value -> Shared -> Prop} {s : Shared} {c dx : Addr} {kvs : List (Str × Value)} {k : Str} {key : Value}
theorem aY (x : CtA w s.heap c dx kvs) : Looks (MK w) s.heap (typeOf (.ref c)) (.ref 1093) := by
 refine aG x.obj fun es ep ho _ => ?_
 exact (Gs ho).andThen .now
theorem cv (X : (K w.params).In s.heap) (x : CtA w s.heap c dx kvs) : Looks (MK w) s.heap (isInstance (.ref c) (.type "dict")) true := (aY x).andThen (looks_mroIn X rfl)
theorem pk (X : (K w.params).In s.heap) (x : CtA w s.heap c dx kvs) : Looks (MK w) s.heap (isInstance (.ref c) (.type "collections.OrderedDict")) false := (aY x).andThen (looks_mroIn X rfl)
theorem fM {Q : Option Value -> Shared -> Prop} (hkey : (sK w).is k key = true) (x : CtA w s.heap c dx kvs) (h : Q (valueAt kvs k) { s with toks := s.toks + 1 }) : wpAny (MK w) A (dictGet c key) Q E s := by
 refine dv x.obj fun es ep ho hk hp hn => ?_
 have hf : findBy (sK w).is es k = valueAt kvs k := by
  rw [<- hp.find k]
  obtain ⟨l⟩ := es
  simp [findBy]
 unfold dictGet
 try with_reducible refine At ?_
 refine Aa ((sK w).pyHash hkey (Aa (wpAny_dictFind_of (s := { s with toks := s.toks + 1 }) hkey ho rfl hk ?_)))
 rw [<- hf, findBy_of_findIdx?] at h
 cases hi : es.findIdx? fun e => (sK w).is k e.key with
 | none => rw [hi] at h; exact Ae h
 | some i => rw [hi] at h; exact Aa (Dj (s := { s with toks := s.toks + 1 }) ho rfl (Ae h))
theorem jt {v : Value} {Q : Unit -> Shared -> Prop} (hkey : (sK w).is k key = true) (x : CtA w s.heap c dx kvs)
  (hQ : ∀ h', CtA w h' c dx (stored kvs k v) -> Heap.SameBut c s.heap h' -> Q () { s with heap := h', toks := s.toks + 1 }) (hsz : kvs.length ≤ sizeLine) : wpAny (MK w) A (dictSet c key v) Q E s := by
 refine dv x.obj fun es ep ho hk hp hn => ?_
 have dxo : ∀ h', Heap.SameBut c s.heap h' -> h'.get? dx = some emptyDict := fun h' hs => hs.extBut _ _ x.ne.symm x.dict
 have hes : es.size ≤ sizeLine := by
  have e1 := hp.length
  have e2 : es.toList.length = es.size := by simp
  omega
 unfold dictSet
 try with_reducible refine At ?_
 refine Aa ((sK w).pyHash hkey ?_)
 unfold dictSetHashed
 try with_reducible refine At ?_
 refine Aa (wpAny_dictFind_of (s := { s with toks := s.toks + 1 }) hkey ho rfl hk ?_)
 have hidx : (es.findIdx? fun e => (sK w).is k e.key) = kvs.findIdx? fun kv => decide (kv.1 = k) := by
  rw [<- hp.findIdx k]; obtain ⟨l⟩ := es; simp
 cases hi : es.findIdx? fun e => (sK w).is k e.key with
 | some i =>
  refine Aa (wpAny_rule (Aa (wpAny_updateDict (s := { s with toks := s.toks + 1 }) ho rfl (wpAny_point (hQ _ ⟨⟨_, ep, Heap.get?_update_self _ ho rfl, hk.modify _ _, ?_, ?_⟩, dxo _ (A8 ..), x.nb⟩ (A8 ..))))))
  ·rw [stored, if_pos (any_of_findIdx_some (hidx ▸ hi))]
   have hl : (es.toList.findIdx? fun e => (sK w).is k e.key) = some i := by rw [<- hi]; obtain ⟨l⟩ := es; simp
   have := hp.modify hn hl v
   obtain ⟨l⟩ := es
   simpa using this
  ·rw [stored, if_pos (any_of_findIdx_some (hidx ▸ hi)), keys_map_store]; exact hn
 | none =>
  have hnot : k ∉ kvs.map (·.1) := not_mem_of_findIdx_none (hidx ▸ hi)
  have hany : ¬ (kvs.any fun kv => decide (kv.1 = k)) = true := by
   rw [Gc]; rintro ⟨kv, hkv, he⟩
   exact hnot (A0.mpr ⟨kv, hkv, Dz he⟩)
  refine Aa (wpAny_rule (wpAny_updateDictKeys (hz := hes) (s := { s with toks := s.toks + 1 }) ho rfl (hQ _ ⟨⟨_, ep + 1, Heap.get?_update_self _ ho rfl, hk.push hkey _, ?_, ?_⟩, dxo _ (A8 ..), x.nb⟩ (A8 ..))))
  ·rw [stored, if_neg hany]
   have := hp.append hkey ((sK w).hash k) v
   obtain ⟨l⟩ := es
   simpa using this
  ·rw [stored, if_neg hany, Ba, B5]
   refine ⟨hn, by simp, ?_⟩
   intro a ha b hb
   simp only [A2, Gv, Ac] at hb
   subst hb
   exact fun e => hnot (e ▸ ha)
theorem md {i n : String} {rest : List Value} {Q : Unit -> Shared -> Prop} (X : (K w.params).In s.heap) (x : CtA w s.heap c dx kvs) (hk : builtinKind i = some .slot ∨ builtinKind i = some .method) (hs : splitId i = some ("dict", n)) (ha : argsOk i ⟨.ref c :: rest, []⟩) (q : Q () s) :
  wpAny (MK w) A (checkBuiltinCall i ⟨.ref c :: rest, []⟩) Q E s := by
 rcases hk with hk | hk
 ·exact check_slot hk hs (cv X x) ha q
 ·simp only [checkBuiltinCall, hk, hs]
  refine Aa ((cv X x).here ?_)
  simp only [Bool.not_true, Al, Be]
  cases hsig : Manifest.signature? i with
  | none => exact Ae q
  | some sig =>
   simp only [argsOk, hsig] at ha
   have h2 : Bind.checkArgs i sig ⟨.ref c :: rest, []⟩ = pure () := ha
   show wpAny (MK w) A (Bind.checkArgs i sig ⟨.ref c :: rest, []⟩) Q E s
   rw [h2]; exact Ae q
theorem cq {name : String} {rest : List Value} {Q : Unit -> Shared -> Prop} (X : (K w.params).In s.heap) (x : CtA w s.heap c dx kvs) (h : Q () s) : wpAny (MK w) A (Builtin.Dict.notOrdered name ⟨.ref c :: rest, []⟩) Q E s := by
 have L1 := aY x
 have L2 := pk X x
 unfold Builtin.Dict.notOrdered
 split
 ·refine Aa (L1.here ?_)
  rw [if_pos (by rfl)]
  refine Aa (L2.here ?_)
  exact Ae h
 ·exact Ae h
theorem dJ {id n : String} {name : Str} {B : Builtin} {rest : List Value} {R : Result -> Shared -> Prop} (X : (K w.params).In s.heap) (x : CtA w s.heap c dx kvs) (S : Slot "dict" name id) (hk : builtinKind id = some .slot ∨ builtinKind id = some .method) (hs : splitId id = some ("dict", n)) (hB : entryFor table id = some B) (ha : argsOk id ⟨.ref c :: rest, []⟩)
  (h : wpAny (MK w) A.in1 (B ⟨.ref c :: rest, []⟩) (fun fin s' => match fin with | .done f => R (.ok f) s' | .again c' => c'.quiet = true ∧ codeAny (MK w) A c' R s') (fun e s' => R (.error e) s') s) :
  codeAny (MK w) A (.call (.builtin id) ⟨.ref c :: rest, []⟩) R s :=
 De S.plain hB (md X x hk hs ha h)
theorem jq {v : Value} {Q : Unit -> Shared -> Prop} (X : (K w.params).In s.heap) (hkey : (sK w).is k key = true) (x : CtA w s.heap c dx kvs)
  (hQ : ∀ h', CtA w h' c dx (stored kvs k v) -> Heap.SameBut c s.heap h' -> Q () { s with heap := h', toks := s.toks + 1 }) (hsz : kvs.length ≤ sizeLine) : wpAny (MK w) A (setItem (.ref c) key v) Q E s := by
 have L1 := aY x
 have L2 : Looks (MK w) s.heap (typeLookup (.ref 1093) "__setitem__") (some (.builtin "dict.__setitem__")) := B8 X rfl
 unfold setItem sequenceKey
 refine At (Aa (Aa (L1.here ?_)))
 refine Aa ((anyM_none X (C := 1093) rfl).here ?_)
 rw [if_pos (show (!false) = true from rfl)]
 refine Ae (Aa ?_)
 unfold callSpecial?
 refine Aa (((L1.andThen L2 : Looks (MK w) s.heap (specialOf (.ref c) "__setitem__") _)).here ?_)
 refine At (Aa (B6 (PySem.slot_dict_setitem.bind _) (Aa ?_)))
 refine Bf (dJ X x PySem.slot_dict_setitem (n := "__setitem__") (.inl (by decide +kernel)) (by decide +kernel) PySem.entry_dict_setitem (PySem.args_dict_setitem _ _ _) ?_)
 show wpAny _ _ (Builtin.Dict.notOrdered "__setitem__" ⟨[.ref c, key, v], []⟩ >>= _) _ _ s
 refine Aa (cq X x ?_)
 show wpAny _ _ (dictSet c key v >>= _) _ _ s
 exact Aa (jt hkey x (fun h' hm' hs' => Ae (Ae (Ae (hQ h' hm' hs')))) hsz)
theorem jr {v : Value} {Q : Value -> Shared -> Prop} (X : (K w.params).In s.heap) (hkey : (sK w).is k key = true) (x : CtA w s.heap c dx kvs) (hv : valueAt kvs k = some v)
  (hQ : Q v { s with toks := s.toks + 1 }) : wpAny (MK w) A (getItem (.ref c) key) Q E s := by
 have L1 := aY x
 have L2 : Looks (MK w) s.heap (typeLookup (.ref 1093) "__getitem__") (some (.builtin "dict.__getitem__")) := B8 X rfl
 unfold getItem sequenceKey
 refine At (Aa (Aa (L1.here ?_)))
 refine Aa ((anyM_none X (C := 1093) rfl).here ?_)
 rw [if_pos (show (!false) = true from rfl)]
 refine Ae (Aa ?_)
 unfold callSpecial?
 refine Aa (((L1.andThen L2 : Looks (MK w) s.heap (specialOf (.ref c) "__getitem__") _)).here ?_)
 refine At (Aa (B6 (PySem.slot_dict_getitem.bind _) (Aa ?_)))
 refine Bf (dJ X x PySem.slot_dict_getitem (n := "__getitem__") (.inr (by decide +kernel)) (by decide +kernel) PySem.entry_dict_getitem (PySem.args_dict_getitem _ _) ?_)
 show wpAny _ _ (dictGet c key >>= _) _ _ s
 refine Aa (fM hkey x ?_)
 rw [hv]
 exact Ae (Ae (Ae hQ))
abbrev aQ (c : Addr) : Obj := { cls := .type "builtin_function_or_method", data := .fields #[.builtin "dict.get", .ref c] }
theorem kM (a b c : Value) : (match Manifest.signature? "dict.get" with | some sig => Bind.checkArgs "dict.get" { sig with full := "get" } ⟨[a, b, c], []⟩ | none => pure ()) = pure () := by
 rw [signature?_of (id := "dict.get") (n := ['t', 'e', 'g']) (o := ['t', 'c', 'i', 'd']) (by kernel_rfl) F.owner_dict]; kernel_rfl
theorem kK (a b c : Value) : (match Manifest.signature? "dict.get" with | some sig => Bind.checkArgs "dict.get" { sig with full := "Counter.get" } ⟨[a, b, c], []⟩ | none => pure ()) = pure () := by
 rw [signature?_of (id := "dict.get") (n := ['t', 'e', 'g']) (o := ['t', 'c', 'i', 'd']) (by kernel_rfl) F.owner_dict]; kernel_rfl
theorem lN : Bind.lastOf "dict.get" = "get" := by decide +kernel
theorem mh : toString (q "Counter").toString ++ toString "." ++ toString "get" = "Counter.get" := by decide +kernel
theorem me {a b : Value} {Q : Unit -> Shared -> Prop} (X : (K w.params).In s.heap) (x : CtA w s.heap c dx kvs) (h : Q () s) : wpAny (MK w) A (checkBoundCall "dict.get" ⟨[.ref c, a, b], []⟩) Q E s := by
 have L1 := aY x
 have L2 : Looks (MK w) s.heap (isInstance (.ref c) (.type "module")) false := L1.andThen (looks_mroIn X rfl)
 refine aG x.obj fun es ep ho _ => ?_
 have L3 : Looks (MK w) s.heap (isType (.ref c)) false := (Gs (part := some headPart) ho).andThen .now
 have L4 : Looks (MK w) s.heap (classData 1093) _ := looks_clsIn X (C := 1093) rfl
 have L5 : Looks (MK w) s.heap (typeOf (.ref 1093)) (.type "type") := looks_typeIn X rfl
 have ga1 := kM (.ref c) a b
 have ga2 := kK (.ref c) a b
 have hk : builtinKind "dict.get" = some .method := by decide +kernel
 unfold checkBoundCall
 cases hs : Manifest.signature? "dict.get" with
 | none => exact Ae h
 | some sig =>
  rw [hs] at ga1 ga2
  dsimp only at ga1 ga2 ⊢
  rw [lN]
  rw [hk]
  dsimp only
  rw [if_neg (by decide)]
  refine Aa (L2.here ?_)
  split
  ·rw [ga1]; exact Ae h
  ·refine Aa (L3.here ?_)
   rw [if_neg (by decide)]
   refine Aa (L1.here ?_)
   dsimp only
   refine Aa (L4.here ?_)
   refine Aa (L5.here ?_)
   rw [if_pos (by rfl)]
   rw [mh, ga2]
   exact Ae h
theorem ju {b : Addr} {dflt : Value} {Q : Value -> Shared -> Prop} (X : (K w.params).In s.heap) (hb : s.heap.get? b = some (aQ c)) (hkey : (sK w).is k key = true) (x : CtA w s.heap c dx kvs)
  (hQ : Q ((valueAt kvs k).getD dflt) { s with toks := s.toks + 1 }) : wpAny (MK w) A (call (.ref b) [key, dflt] []) Q E s := by
 refine Bf (codeAny_of_tree ?_)
 show wpAny _ _ (callAny (.ref b) _) _ _ _
 refine nd_load hb ?_
 show wpAny _ _ (checkBoundCall "dict.get" ⟨[.ref c, key, dflt], []⟩ >>= fun _ => again (.builtin "dict.get" ⟨[.ref c, key, dflt], []⟩) >>= fun x => pure x) _ _ _
 refine Aa (me X x (Aa (Ae (Ae ⟨plainId_quiet PySem.F.slot_dict_get.plain _, G0 PySem.F.entry_dict_get ?_⟩))))
 rw [Around.under_plainId PySem.F.slot_dict_get.plain]
 show wpAny _ _ (dictGet c key >>= _) _ _ s
 have hm : Builtin.Dict.missed c key = pure none := by unfold Builtin.Dict.missed; rw [if_neg (by rw [x.nb]; exact Gx)]
 refine Aa (fM hkey x ?_)
 cases hv : valueAt kvs k with
 | some v => rw [hv] at hQ; exact Ae hQ
 | none =>
  rw [hv] at hQ
  show wpAny _ _ (Builtin.Dict.missed c key >>= _) _ _ _
  rw [hm]
  exact Aa (Ae (Ae hQ))
end
end
end Mine
end
section
open PySem PySem.W PyProof.Rows PySem.Calls PySem.Spec Builtin
namespace Mine
section
theorem gy : entryFor table "dict.__getattribute__" = some Builtin.«object.__getattribute__» :=
 entryFor_alias (id' := "object.__getattribute__") (by rw [fastTable_eq_tree]; kernel_rfl) (by decide +kernel) (by decide +kernel) (by rw [fastTable_eq_tree]; kernel_rfl)
section
variable {w : World} {A : Around} {E : Value -> Shared -> Prop} {s : Shared} {c dx : Addr} {kvs : List (Str × Value)} {name : Str}
theorem jW {g a : Value} {expr : Bool} {Q : Value -> Shared -> Prop} (X : (K w.params).In s.heap) (x : CtA w s.heap c dx kvs) (hf : findObj (K w.params) 1093 (some emptyDict) name = some (.bind g a))
  (h : codeAny (MK w) A.in1 (.call g ⟨[a, .ref c, .ref 1093], []⟩) (fun r s' => match r with | .ok (.ret v) => wpAny (MK w) A (handedOut v) Q E s' | _ => False) { s with toks := s.toks + 1 }) : wpAny (MK w) A (getAttr (.ref c) name expr) Q E s := by
 refine aB x.inst fun es ep I => ?_
 have LF := looks_find (M := MK w) X I hf
 have LG : Looks (MK w) s.heap (typeLookup (.ref 1093) "__getattribute__") (some (.builtin "dict.__getattribute__")) := B8 X rfl
 have LH : Looks (MK w) s.heap (typeLookup (.ref 1093) "__getattr__") none := B8 X rfl
 have L0 := aY x
 have x1 : CtA w ({ s with toks := s.toks + 1 } : Shared).heap c dx kvs := x
 have X1 : (K w.params).In ({ s with toks := s.toks + 1 } : Shared).heap := X
 obtain ⟨hh, gg, d, t, os⟩ := s
 dsimp only at LF LG LH L0 X
 unfold getAttr getAttrBy
 refine Aa (wpAny_mkText (At (Aa (L0.at (Aa (LG.at ?_))))))
 show wpAny _ _ (getAttrByItsOwn (.ref c) (.str name t) (.ref 1093) (.builtin "dict.__getattribute__") true expr) _ _ _
 unfold getAttrByItsOwn hookBefore callGetattribute boundAndCalled
 refine Aa ?_
 rw [if_pos (show onTheHeap (.ref 1093) = true from rfl)]
 refine LH.at ?_
 refine Aa (wpAny_attempt (At ?_))
 rw [show onTheHeap (.builtin "dict.__getattribute__") = false from rfl, Bool.and_false]
 simp only [Al, Be]
 refine Aa (B6 (PySem.F.slot_dict_getattribute.bind _) ?_)
 refine Bf (dJ X1 x1 PySem.F.slot_dict_getattribute (n := "__getattribute__") (.inl (by decide +kernel)) (by decide +kernel) gy (PySem.F.args_dict_getattribute_2 _ _) ?_)
 unfold Builtin.«object.__getattribute__»
 repeat (first | (with_reducible refine Bf ?_) | lk)
 refine codeAny_mono h fun r s' z => ?_
 rcases r with e | (v | _ | _ | _) <;> first | exact z.elim | skip
 exact Ae z
theorem bN : Slot "method_descriptor" "__get__" "method_descriptor.__get__" := .of (owner := "method_descriptor") (n := "__get__") (by rw [Du, B1]; kernel_rfl) (by decide +kernel) (by decide +kernel) (by decide +kernel)
 (by first | exact .inl (by decide +kernel) | exact .inr (by decide +kernel)) (by rw [isSubtype_type]; kernel_rfl)
theorem et : entryFor table "method_descriptor.__get__" = some Builtin.«method_descriptor.__get__» := entryFor_of_tree (by kernel_rfl)
theorem fR (a b c : Value) : argsOk "method_descriptor.__get__" ⟨[a, b, c], []⟩ := by unfold argsOk; kernel_rfl
theorem js {expr : Bool} {Q : Value -> Shared -> Prop} (X : (K w.params).In s.heap) (x : CtA w s.heap c dx kvs) (h : Q (.ref s.heap.objs.size) { s with heap := s.heap.push (aQ c), toks := s.toks + 1 }) :
  wpAny (MK w) A (getAttr (.ref c) (q "get") expr) Q E s := by
 refine jW X x (g := .builtin "method_descriptor.__get__") (a := .builtin "dict.get") rfl ?_
 have L1 := cv X x
 have hT : ({ s with toks := s.toks + 1 } : Shared).TypeIs (.builtin "dict.get") "method_descriptor" := PySem.F.type_dict_get
 have L2 : Looks (MK w) s.heap (isInstance (.ref c) (.type (".".intercalate ("dict.get".cutAt '.').dropLast))) true := by
  rw [show ".".intercalate ("dict.get".cutAt '.').dropLast = "dict" by decide +kernel]; exact L1
 obtain ⟨hh, gg, d, t, os⟩ := s
 dsimp only at L1 L2
 refine De bN.plain et (bN.check _ _ _ _ _ _ _ _ hT (fR _ _ _) ?_)
 unfold Builtin.«method_descriptor.__get__»
 repeat lk
 exact h
theorem nK {f : Addr} {expr : Bool} {Q : Value -> Shared -> Prop} (X : (K w.params).In s.heap) (x : CtA w s.heap c dx kvs) (hf : findObj (K w.params) 1093 (some emptyDict) name = some (.bind (.builtin "function.__get__") (.ref f))) (hT : typeIn (K w.params) (.ref f) = some (.type "function"))
  (h : Q (.ref s.heap.objs.size) { s with heap := s.heap.push (methodObj (.ref f) (.ref c)), toks := s.toks + 1 }) : wpAny (MK w) A (getAttr (.ref c) name expr) Q E s :=
 jW X x hf (fn_get (s := { s with toks := s.toks + 1 }) X hT (handed_on rfl h))
theorem cu {f : Addr} {pl : Sem Bool} {Q : Value × List Value -> Shared -> Prop} (X : (K w.params).In s.heap) (x : CtA w s.heap c dx kvs) (hf : findIn (K w.params) (.ref 1093) name = some (some (.ref f))) (hT : typeIn (K w.params) (.ref f) = some (.type "function"))
  (h : Q (.ref f, [.ref c]) s) : wpAny (MK w) A (getMethod (.ref c) name pl) Q E s := by
 have LG : Looks (MK w) s.heap (typeLookup (.ref 1093) "__getattribute__") (some (.builtin "dict.__getattribute__")) := B8 X rfl
 have LH : Looks (MK w) s.heap (typeLookup (.ref 1093) "__getattr__") none := B8 X rfl
 have L0 := aY x
 have LF : Looks (MK w) s.heap (typeLookup (.ref 1093) name) (some (.ref f)) := B8 X hf
 have LT : Looks (MK w) s.heap (typeOf (.ref f)) (.type "function") := looks_typeIn X hT
 refine aG x.obj fun es ep ho _ => ?_
 have LN : Looks (MK w) s.heap (nsGet dx name) none := by
  intro A Q E s' k q
  have hn : s'.heap.Ns dx (fun _ => none) := ⟨_, #[], 0, k _ _ x.dict, rfl, fun _ h => by simp at h, fun _ => rfl⟩
  exact wpAny_nsGet hn q
 obtain ⟨hh, gg, d, t, os⟩ := s
 dsimp only at LG LH L0 LF LT LN ho
 unfold getMethod specialOf
 refine Aa (Aa (L0.at (LG.at ?_)))
 dsimp only
 rw [if_neg (by decide +kernel)]
 repeat lk
 exact h
end
end
section
section
variable {w : World} {A : Around} {E : Value -> Shared -> Prop} {s : Shared} {c dx : Addr} {kvs : List (Str × Value)} {name : Str}
theorem pn {Q : Fin -> Shared -> Prop} (X : (K w.params).In s.heap) (x : CtA w s.heap c dx kvs) (hz : kvs.length ≤ 1000) (h : ∀ t tk, Q (.done (.ret (.int kvs.length t))) { s with toks := tk }) : wpAny (MK w) A (Builtin.«len» ⟨[.ref c], []⟩) Q E s := by
 have LL : Looks (MK w) s.heap (typeLookup (.ref 1093) "__len__") (some (.builtin "dict.__len__")) := B8 X rfl
 have L0 := aY x
 refine dv x.obj fun es ep ho hk hp hn => ?_
 have hes : es.size = kvs.length := by
  have e1 := hp.length
  have e2 : es.toList.length = es.size := by simp
  omega
 unfold Builtin.«len»
 refine Aa (m := oneArg "len" _) (Ae ?_)
 refine Aa (m := callSpecial? (.ref c) (Str.ofString "__len__")) ?_
 unfold callSpecial?
 refine Aa (((L0.andThen LL : Looks (MK w) s.heap (specialOf (.ref c) "__len__") _)).here ?_)
 refine At (Aa (B6 (PySem.F.slot_dict_len.bind _) (Aa ?_)))
 refine Bf (dJ X x PySem.F.slot_dict_len (n := "__len__") (.inl (by decide +kernel)) (by decide +kernel) PySem.F.entry_dict_len (PySem.F.args_dict_len_1 _) ?_)
 show wpAny _ _ (Builtin.Dict.dictSlotNone "__len__" ⟨[.ref c], []⟩ >>= _) _ _ s
 unfold Builtin.Dict.dictSlotNone
 refine Aa (Aa (cq X x ?_))
 show wpAny _ _ (pure (Value.ref c)) _ _ s
 refine Ae (Aa (Ae ?_))
 show wpAny _ _ (dictSize c >>= _) _ _ s
 unfold dictSize
 refine Aa (Aa (Dj ho rfl (Ae ?_)))
 refine Aa (m := Builtin.Dict.pendingCount c) ?_
 unfold Builtin.Dict.pendingCount
 rw [if_neg (by rw [x.nb]; exact Gx)]
 refine Ae ?_
 refine Aa (wpAny_mkInt (Ae ?_))
 refine Ae ?_
 show wpAny _ _ (holding [_] (asIndex _) >>= _) _ _ _
 refine Aa (At (Ae ?_))
 refine Aa (wpAny_letGo ?_)
 rw [hes]
 show wpAny _ _ (if ((kvs.length + 0 : Nat) : Int) < 0 then _ else _) _ _ _
 rw [if_neg (by omega)]
 show wpAny _ _ (if ((kvs.length + 0 : Nat) : Int) ≥ 2 ^ 63 then _ else _) _ _ _
 rw [if_neg (by omega)]
 exact Aa (wpAny_mkInt (Ae (h _ _)))
theorem kP {Q : Bool -> Shared -> Prop} (X : (K w.params).In s.heap) (x : CtA w s.heap c dx kvs) (hz : kvs.length ≤ 1000) (h : ∀ tk, Q (!kvs.isEmpty) { s with toks := tk }) : wpAny (MK w) A (truthy (.ref c)) Q E s := by
 have LB : Looks (MK w) s.heap (typeLookup (.ref 1093) "__bool__") none := B8 X rfl
 have LL : Looks (MK w) s.heap (typeLookup (.ref 1093) "__len__") (some (.builtin "dict.__len__")) := B8 X rfl
 have L0 := aY x
 have LB' : Looks (MK w) s.heap (specialOf (.ref c) "__bool__") none := L0.andThen LB
 have LL' : Looks (MK w) s.heap (specialOf (.ref c) "__len__") _ := L0.andThen LL
 unfold truthy callSpecial?
 refine Aa (Aa (LB'.here ?_))
 refine Ae (Aa (LL'.here ?_))
 rw [if_neg (by decide)]
 refine Aa (wpAny_runValue (G0 entry_len ?_))
 refine pn X x hz fun t tk => ?_
 have hne : ((kvs.length : Int) != 0) = !kvs.isEmpty := by cases kvs <;> simp; omega
 show wpAny _ _ (pure ((kvs.length : Int) != 0)) _ _ _
 rw [hne]
 exact Ae (h tk)
end
end
section
section
variable {w : World} {A : Around} {E : Value -> Shared -> Prop} {s : Shared} {a : Addr} {o : Obj}
theorem jv {expr : Bool} {Q : Value -> Shared -> Prop} (hx : s.heap.get? a = some o) (hc : o.cls = .type "list") (h : Q (.type "list") { s with toks := s.toks + 1 }) : wpAny (MK w) A (getAttr (.ref a) "__class__" expr) Q E s := by
 obtain ⟨hh, gg, d, t, os⟩ := s
 have L0 : Looks (MK w) hh (typeOf (.ref a)) (.type "list") := hc ▸ (Gs hx).andThen .now
 have L1 : Looks (MK w) hh (typeLookup (.type "list") "__getattribute__") (some (.builtin "list.__getattribute__")) := B4 F.slot_list_getattribute.lookup
 unfold getAttr getAttrBy
 refine Aa (wpAny_mkText (At (Aa (L0.at (Aa (L1.at ?_))))))
 show wpAny _ _ (getAttrByItsOwn (.ref a) (.str "__class__" t) (.type "list") (.builtin "list.__getattribute__") true expr) _ _ _
 unfold getAttrByItsOwn hookBefore callGetattribute boundAndCalled
 refine Aa (Ae ?_)
 refine Aa (wpAny_attempt (At ?_))
 rw [show onTheHeap (.builtin "list.__getattribute__") = false from rfl, Bool.and_false]
 simp only [Al, Be]
 refine Aa (B6 (F.slot_list_getattribute.bind _) ?_)
 refine Bf (class_call_list hx hc ?_)
 exact handed_on rfl h
theorem jw {expr : Bool} {Q : Value -> Shared -> Prop} (hx : s.heap.get? a = some o) (hc : o.cls = .type "dict") (h : Q (.type "dict") { s with toks := s.toks + 1 }) : wpAny (MK w) A (getAttr (.ref a) "__class__" expr) Q E s := by
 obtain ⟨hh, gg, d, t, os⟩ := s
 have L0 : Looks (MK w) hh (typeOf (.ref a)) (.type "dict") := hc ▸ (Gs hx).andThen .now
 have L1 : Looks (MK w) hh (typeLookup (.type "dict") "__getattribute__") (some (.builtin "dict.__getattribute__")) := B4 F.slot_dict_getattribute.lookup
 unfold getAttr getAttrBy
 refine Aa (wpAny_mkText (At (Aa (L0.at (Aa (L1.at ?_))))))
 show wpAny _ _ (getAttrByItsOwn (.ref a) (.str "__class__" t) (.type "dict") (.builtin "dict.__getattribute__") true expr) _ _ _
 unfold getAttrByItsOwn hookBefore callGetattribute boundAndCalled
 refine Aa (Ae ?_)
 refine Aa (wpAny_attempt (At ?_))
 rw [show onTheHeap (.builtin "dict.__getattribute__") = false from rfl, Bool.and_false]
 simp only [Al, Be]
 refine Aa (B6 (F.slot_dict_getattribute.bind _) ?_)
 refine Bf (class_call_dict hx hc ?_)
 exact handed_on rfl h
theorem kG {pl : Sem Bool} {Q : Value × List Value -> Shared -> Prop} (G : Gr w s.heap) (h : Q (.ref 467, []) { s with toks := s.toks + 1 }) : wpAny (MK w) A (getMethod (.ref 471) (q "_abc_kind") pl) Q E s :=
 method_cls G.K rfl (cls_value (mc := .ref 117) G.K rfl rfl rfl h)
theorem i0 {T U : String} {b : Bool} {Q : Fin -> Shared -> Prop} (hT : typeOf (.type U) = pure (.type "type")) (h2 : isSubtype (.type T) (.type U) = pure b) (hm : isType (.type T) = pure true) (h : Q (.done (.ret (.bool b))) s) :
  wpAny (MK w) A (Builtin.«issubclass.nested» ⟨[.type T, .type U, rawInt 0], []⟩) Q E s := by
 obtain ⟨hh, gg, d, t, os⟩ := s
 have L0 : Looks (MK w) hh (typeOf (.type U)) (.type "type") := B4 hT
 have L1 : Looks (MK w) hh (isSubtype (.type T) (.type U)) b := B4 h2
 have L2 : Looks (MK w) hh (isType (.type T)) true := B4 hm
 unfold Builtin.«issubclass.nested»
 repeat lk
 exact h
theorem hY {T U : String} {b : Bool} {Q : Value -> Shared -> Prop} (hT : typeOf (.type U) = pure (.type "type")) (h2 : isSubtype (.type T) (.type U) = pure b) (hm : isType (.type T) = pure true) (h : Q (.bool b) s) : wpAny (MK w) A (call (.builtin "issubclass") [.type T, .type U]) Q E s := by
 refine Bf (De F.plain_issubclass F.entry_issubclass ?_)
 refine B6 (a := ()) (by kernel_rfl) ?_
 exact issubclass_outer (i0 hT h2 hm h)
theorem kr {h₀ : Heap} {L : Addr} {m : Str -> Option Value} {expr : Bool} {Q : Value -> Shared -> Prop} (F : Fr h₀ L s.heap m) (G : Gr w h₀) (h : ∀ tk u, Q (.str (Str.ofString "list") tk) { s with toks := u }) : wpAny (MK w) A (getAttr (.type "list") "__name__" expr) Q E s :=
 ktyn_attr F G.K (by decide +kernel) (by decide +kernel) rfl rfl (by decide +kernel) h
end
end
section
abbrev uq : FuncData := fd (stA 13) "_abc_is_mappingproxy" "_abc_is_mappingproxy" 3 [] .none .none .none (.str (q "collections.abc") 430) none (.ref 153) .none 0
abbrev pa : FuncData := fd (inC 25 9) "_abc_kind" "Mapping._abc_kind" 3 [] .none .none .none (.str (q "collections.abc") 430) none (.ref 466) .none 0
abbrev pb : FuncData := fd (inC 8 0) "__instancecheck__" "_ABCLike.__instancecheck__" 3 [] .none .none .none (.str (q "collections.abc") 430) none (.ref 99) .none 0
section
variable {w : World} {A : Around} {E : Value -> Shared -> Prop} {s : Shared} {Q : Value -> Shared -> Prop}
theorem ni {k : Nat} (R : ak A (k + 2)) (G : Gr w s.heap) (hQ : ∀ h' tk', Ext s.heap h' -> Q (.bool false) { s with heap := h', toks := tk' }) : wpAny (MK w) A (call (.ref 154) [.type "list"]) Q E s := by
 refine dP (binds := [(q "C", .type "list")]) (fd := uq) R G rfl rfl rfl rfl (Dy rfl) (by decide) rfl ?_
 intro h1 n1 k1
 have hR := R.deeper (callEnv uq s.heap.objs.size 154)
 refine Ab ?_
 refine Bu ?_
 refine BoolOp_and ?_
 refine wpAny_Compare1 ?_
 refine Bm ?_
 refine nmL n1 rfl ?_
 refine kr (h₀ := s.heap) (L := s.heap.objs.size) ⟨n1, k1, Aw _⟩ G ?_
 intro tk u
 refine Gd ?_
 refine PyProof.Rows.eq_str ?_
 refine Am ?_
 rw [show (Str.ofString "list" == Str.ofString "mappingproxy") = false by decide +kernel]
 simp only [Al, Be]
 exact hQ _ _ k1
theorem kF {k : Nat} (R : ak A (k + 3)) (G : Gr w s.heap) (hQ : ∀ h' tk', Ext s.heap h' -> Q (.bool true) { s with heap := h', toks := tk' }) : wpAny (MK w) A (call (.ref 467) [.ref 471, .type "dict"]) Q E s := by
 refine dP (binds := [(q "cls", .ref 471), (q "C", .type "dict")]) (fd := pa) R G rfl rfl rfl rfl (Dy rfl) (by decide) rfl ?_
 intro h1 n1 k1
 refine Ab ?_
 refine B7 ?_
 refine Ao ?_
 refine nmL n1 rfl ?_
 refine nmG (G.ext k1) rfl ?_
 refine wpAny_is_ref_self ?_
 refine Am ?_
 simp only [if_true]
 refine Ab ?_
 refine B7 ?_
 refine wpAny_isTrue_BoolOp ?_
 refine wpAny_allTrue_Or_cons ?_
 refine B0 ?_
 refine bE (G.ext k1) rfl rfl ?_
 refine Ak ?_
 refine nmL n1 rfl ?_
 refine Ak ?_
 refine nmB (G.ext k1) rfl rfl ?_
 refine An ?_
 refine hY (b := true) (kitMeta_of (by decide +kernel)) (by rw [isSubtype_type]; kernel_rfl) rfl ?_
 refine Am ?_
 simp only [if_true]
 refine Ab ?_
 refine Bu ?_
 refine wpAny_Constant_bool ?_
 exact hQ _ _ k1
theorem kO : entryFor table "type.__subclasscheck__" = some Builtin.«type.__subclasscheck__» := entryFor_of_tree (by kernel_rfl)
theorem mv (a b : Value) : argsOk "type.__subclasscheck__" ⟨[a, b], []⟩ := by unfold argsOk; kernel_rfl
theorem kh : plainId "type.__subclasscheck__" = true := by decide +kernel
theorem lf {pl : Sem Bool} {Q : Value × List Value -> Shared -> Prop} (G : Gr w s.heap) (h : ∀ tk, Q (.builtin "type.__subclasscheck__", []) { s with toks := tk }) : wpAny (MK w) A (getMethod (.type "type") (q "__subclasscheck__") pl) Q E s := by
 have L0 : Looks (MK w) s.heap (typeOf (.type "type")) (.type "type") := B4 (kitMeta_of (by decide +kernel))
 have L1 : Looks (MK w) s.heap (typeLookup (.type "type") "__getattribute__") (some (.builtin "type.__getattribute__")) := B4 (by rw [Du, B1]; kernel_rfl)
 have hstub : opaqueClassAbove (.type "type") = pure none := by unfold opaqueClassAbove; dsimp only; rw [show Manifest.isStub "type" = false by decide +kernel]; rfl
 unfold getMethod specialOf
 refine Aa (Aa (L0.here (L1.here ?_)))
 dsimp only
 rw [if_pos (by decide +kernel)]
 refine Aa ?_
 refine cls_open (r := .val (.builtin "type.__subclasscheck__")) G.K (B4 hstub) L0 type_tga (looks_hook G.K (r := none) (by rfl)) (by show subIn _ _ _ = _; rfl) (by rfl) ?_
 exact Ae (handed_on rfl (Ae (h _)))
theorem k0 {Q : Value -> Shared -> Prop} (G : Gr w s.heap) (h : Q (.bool false) s) : wpAny (MK w) A (call (.builtin "type.__subclasscheck__") [.ref 471, .type "list"]) Q E s := by
 have L1 : Looks (MK w) s.heap (isInstance (.ref 471) (.type "type")) true := looks_instIn G.K rfl
 have hk : builtinKind "type.__subclasscheck__" = some .method := by decide +kernel
 have hs : splitId "type.__subclasscheck__" = some ("type", "__subclasscheck__") := by decide +kernel
 refine Bf (De kh kO ?_)
 simp only [checkBuiltinCall, hk, hs]
 refine Aa (L1.here ?_)
 simp only [Bool.not_true, Al, Be]
 have ha := mv (.ref 471) (.type "list")
 have fin : wpAny (MK w) A.in1 (Builtin.«type.__subclasscheck__» ⟨[.ref 471, .type "list"], []⟩) (fun fin s' => match fin with | .done f => (match (Except.ok f : Result) with | .ok (.ret v) => Q v s' | .ok _ => False | .error e => E e s') | .again c' => c'.quiet = true ∧ codeAny (MK w) A c' (fun r s' => match r with | .ok (.ret v) => Q v s' | .ok _ => False | .error e => E e s') s') (fun e s' => E e s') s := by
  have e1 : isSubtype (.type "list") (.ref 471) = pure false := by
   unfold isSubtype
   rw [mroOf_type]
   kernel_rfl
  have L2 : Looks (MK w) s.heap (isSubtype (.type "list") (.ref 471)) false := B4 e1
  obtain ⟨hh, gg, d, t, os⟩ := s
  unfold Builtin.«type.__subclasscheck__»
  repeat lk
  exact h
 cases hsig : Manifest.signature? "type.__subclasscheck__" with
 | none => exact Ae fin
 | some sig =>
  simp only [argsOk, hsig] at ha
  have h2 : Bind.checkArgs "type.__subclasscheck__" sig ⟨[.ref 471, .type "list"], []⟩ = pure () := ha
  show wpAny (MK w) A.in1 (Bind.checkArgs "type.__subclasscheck__" sig ⟨[.ref 471, .type "list"], []⟩) _ _ s
  rw [h2]; exact Ae fin
theorem kC {k : Nat} (R : ak A (k + 3)) (G : Gr w s.heap) (hQ : ∀ h' tk', Ext s.heap h' -> Q (.bool false) { s with heap := h', toks := tk' }) : wpAny (MK w) A (call (.ref 467) [.ref 471, .type "list"]) Q E s := by
 refine dP (binds := [(q "cls", .ref 471), (q "C", .type "list")]) (fd := pa) R G rfl rfl rfl rfl (Dy rfl) (by decide) rfl ?_
 intro h1 n1 k1
 have hR := R.deeper (callEnv pa s.heap.objs.size 467)
 refine Ab ?_
 refine B7 ?_
 refine Ao ?_
 refine nmL n1 rfl ?_
 refine nmG (G.ext k1) rfl ?_
 refine wpAny_is_ref_self ?_
 refine Am ?_
 simp only [if_true]
 refine Ab ?_
 refine B7 ?_
 refine wpAny_isTrue_BoolOp ?_
 refine wpAny_allTrue_Or_cons ?_
 refine B0 ?_
 refine bE (G.ext k1) rfl rfl ?_
 refine Ak ?_
 refine nmL n1 rfl ?_
 refine Ak ?_
 refine nmB (G.ext k1) rfl rfl ?_
 refine An ?_
 refine hY (b := false) (kitMeta_of (by decide +kernel)) (by rw [isSubtype_type]; kernel_rfl) rfl ?_
 refine Am ?_
 simp only [Al, Be]
 refine wpAny_allTrue_Or_cons ?_
 refine B0 ?_
 refine eI (G.ext k1) rfl rfl ?_
 refine Ak ?_
 refine nmL n1 rfl ?_
 refine An ⟨Ext.refl _, ?_⟩
 refine ni (k := k) hR (G.ext k1) ?_
 intro h2 tk2 k2
 dsimp only at k2
 refine Am ?_
 simp only [Al, Be]
 refine wpAny_allTrue_Or_nil ?_
 simp only [Al, Be]
 refine Ah ?_
 refine Ah ?_
 refine Ab ?_
 refine Bu ?_
 refine Bc (pl := _) ?_
 refine nmB (G.ext (Ext.trans k1 k2)) rfl rfl ?_
 refine lf (G.ext (Ext.trans k1 k2)) ?_
 intro tk3
 refine Gb ?_
 refine Ak ?_
 refine nmL (n1.keeps k2) rfl ?_
 refine Ak ?_
 refine nmL (n1.keeps k2) rfl ?_
 refine An ?_
 refine k0 (G.ext (Ext.trans k1 k2)) ?_
 exact hQ _ _ (Ext.trans k1 k2)
end
end
section
section
variable {w : World} {A : Around} {E : Value -> Shared -> Prop} {s : Shared} {Q : Value -> Shared -> Prop} {a : Addr} {o : Obj}
inductive Kind2 : String -> Bool -> Prop
 | d : Kind2 "dict" true
 | l : Kind2 "list" false
theorem pu {RR : Result -> Shared -> Prop} {k : Nat} {T : String} {b : Bool} (R : ak A (k + 4)) (G : Gr w s.heap) (hk : Kind2 T b) (hx : s.heap.get? a = some o) (hc : o.cls = .type T) (hQ : ∀ h' tk', Ext s.heap h' -> RR (.ok (.ret (.bool b))) { s with heap := h', toks := tk' }) :
  codeAny (MK w) A (.call (.ref 100) ⟨[.ref 471, .ref a], []⟩) RR s := by
 refine gS (binds := [(q "cls", .ref 471), (q "instance", .ref a)]) (fd := pb) R G rfl rfl rfl rfl (Dy rfl) (by decide) rfl ?_
 intro h1 n1 k1
 have fL := ae s.heap
 have hR := R.deeper (callEnv pb s.heap.objs.size 100)
 refine Ab ?_
 refine Aq ?_
 refine bX (G.ext k1) rfl rfl ?_
 refine Ak ?_
 refine nmL n1 rfl ?_
 refine An ?_
 refine kto_cont ⟨o, k1 _ _ hx, hc⟩ (by cases hk <;> decide) ?_
 refine stL n1 fun h2 n2 s2 => ?_
 have k2 : Ext s.heap h2 := aA k1 s2 fL
 refine Ab ?_
 refine B7 ?_
 refine Ao ?_
 refine Bm ?_
 refine nmL n2 rfl ?_
 have hcl : ∀ {Q' : Value -> Shared -> Prop} {s' : Shared}, s'.heap = h2 -> Q' (.type T) { s' with toks := s'.toks + 1 } -> wpAny (MK w) (A.deeper (callEnv pb s.heap.objs.size 100)) (getAttr (.ref a) "__class__" true) Q' (fun _ _ => False) s' := by
  intro Q' s' e h
  have hx' : s'.heap.get? a = some o := by rw [e]; exact k2 _ _ hx
  cases hk with
  | d => exact jw hx' hc h
  | l => exact jv hx' hc h
 refine hcl rfl ?_
 refine nmL n2 rfl ?_
 refine wpAny_isNot_self (by cases hk <;> rfl) ?_
 refine Am ?_
 simp only [Al, Be]
 refine Ah ?_
 refine Ab ?_
 refine Bu ?_
 refine Bc (pl := _) ?_
 refine nmL n2 rfl ?_
 refine kG (G.ext k2) ?_
 refine callWith_K (G.ext k2).K rfl ?_
 refine Ak ?_
 refine nmL n2 rfl ?_
 refine Ak ?_
 refine nmL n2 rfl ?_
 refine An ⟨(G.ext k2).K, ?_⟩
 cases hk with
 | d => exact kF (k := k) hR (G.ext k2) fun h' tk' k' => hQ _ _ (Ext.trans k2 k')
 | l => exact kC (k := k) hR (G.ext k2) fun h' tk' k' => hQ _ _ (Ext.trans k2 k')
theorem oW {k : Nat} {T : String} {b : Bool} (R : ak A (k + 8)) (G : Gr w s.heap) (hk : Kind2 T b) (hx : s.heap.get? a = some o) (hc : o.cls = .type T) (hQ : ∀ h' tk', Ext s.heap h' -> Q (.bool b) { s with heap := h', toks := tk' }) :
  wpAny (MK w) A (call (.builtin "isinstance") [.ref a, .ref 471]) Q E s := by
 have L0 : Looks (MK w) s.heap (typeOf (.ref a)) (.type T) := hc ▸ (Gs hx).andThen .now
 have L1 : Looks (MK w) s.heap (typeOf (.ref 471)) (.ref 117) := looks_typeIn G.K rfl
 have L2 : Looks (MK w) s.heap (isInstance (.ref 471) (.type "tuple")) false := L1.andThen (looks_mroIn G.K rfl)
 have L3 : Looks (MK w) s.heap (typeLookup (.ref 117) "__instancecheck__") (some (.ref 100)) := B8 G.K rfl
 have L4 : Looks (MK w) s.heap (bindSpecial (.ref 100) (.ref 471)) (.ref 100, [.ref 471]) := bind_fn G.K _ rfl
 refine Bf (De F.plain_isinstance F.entry_isinstance (B6 (a := ()) (by kernel_rfl) ?_))
 refine isinstance_outer (x := .ref a) (c := .ref 471) ?_ (fun e => by cases e)
 have R1 : A.in1.units < cLine := by have := R.u; show A.units + 1 < cLine; simp only [cLine]; omega
 obtain ⟨hh, gg, d, t, os⟩ := s
 dsimp only at L0 L1 L2 L3 L4
 unfold Builtin.«isinstance.nested» callSpecial? specialOf
 repeat (first | (with_reducible refine wpAny_cRoom R1 ?_) | (with_reducible refine Bf ?_) | lk)
 refine pu (s := ⟨hh, gg, d, t, os⟩) (k := k + 3) R.in1 G hk hx hc ?_
 intro h' tk' k'
 refine Ae ?_
 refine Aa (wpAny_rule (Aa (At (Am (Aa (wpAny_letGo (Ae ?_)))))))
 exact hQ _ _ k'
end
end
end Mine
end
section
open PySem PySem.W PyProof.Rows PySem.Calls PySem.Spec
namespace Mine
section
theorem aO {α : Type} {M : Model} {A : Around} {E : Value -> Shared -> Prop} {s : Shared} {Q : α -> Shared -> Prop} {b : Bool} {t e : Sem α} (hb : b = false) (h : wpAny M A e Q E s) : wpAny M A (if b = true then t else e) Q E s := by subst hb; exact h
theorem dS {α : Type} {M : Model} {A : Around} {E : Value -> Shared -> Prop} {s : Shared} {Q : α -> Shared -> Prop} {p : Prop} [Decidable p] {t e : Sem α} (hp : ¬ p) (h : wpAny M A e Q E s) : wpAny M A (if p then t else e) Q E s := by rw [if_neg hp]; exact h
section
variable {w : World} {A : Around} {E : Value -> Shared -> Prop} {s : Shared}
theorem jo {RR : Result -> Shared -> Prop} {f : Addr} {o : Obj} {fd : FuncData} {body : List Stmt} {args : Args} {binds : Value -> List (Str × Value)} {k : Nat}
  (R : ak A k) (G : Gr w s.heap) (ho : (K w.params).lookup f = some o) (hdata : o.data = .func fd) (hcd : codeIn (K w.params) (fd.code) fd.qualname = true)
  (hbody : fd.body = .stmts body) (hb : ∀ (M : Model) (A : Around) (E : Value -> Shared -> Prop) (Q : List (Str × Value) -> Shared -> Prop), wpAny M A (alloc emptyDict) (fun d s' => Q (binds (.ref d)) s') E s -> wpAny M A (bindArgs fd args) Q E s)
  (hcell : ∀ x ∈ fd.scope.names, x.2 ≠ .cell) (hloc : ∀ t, ((binds t).all fun x => decide (fd.scope.names.lookup x.1 = some .local)) = true)
  (h : ∀ h₀ tk, h₀.Ns (s.heap.objs.size + 1) (fun x => (binds (.ref s.heap.objs.size)).reverse.lookup x) -> Ext s.heap h₀ -> h₀.get? s.heap.objs.size = some emptyDict ->
   wpAny (MK w) (A.deeper (callEnv fd (s.heap.objs.size + 1) f)) (execs body (callEnv fd (s.heap.objs.size + 1) f)) (fun fl s' => RR (.ok (.ret (match fl with | .ret v => v | _ => .none))) s') (fun _ _ => False) { s with heap := h₀, toks := tk })
  (hco : fd.scope.isCoroutine = false := by rfl) (hgen : fd.scope.isGenerator = false := by rfl) (hk : fd.scope.kind = .function := by rfl) :
  codeAny (MK w) A (.call (.ref f) args) RR s := by
 refine codeAny_call_function R.depth (G.K _ _ ho) hdata hco hgen hbody (codeRec_of G.K hcd) ?_
 refine hb _ _ _ _ (wpAny_alloc ?_)
 have hsz : (s.heap.push emptyDict).objs.size = s.heap.objs.size + 1 := A4 ..
 have e1 : Ext s.heap (s.heap.push emptyDict) := ac _ _
 have t1 : (s.heap.push emptyDict).get? s.heap.objs.size = some emptyDict := Heap.get?_push_size _ rfl
 generalize s.heap.push emptyDict = hp at *
 refine wpAny_newFunctionEnv hcell (locs (hloc _)) (fun h₀ hnsA hsbA => ?_) hk
 dsimp only at hnsA hsbA ⊢
 rw [hsz] at hnsA hsbA ⊢
 have e2 : Ext hp h₀ := fun b o e => hsbA.extBut b o (fun q => by have := A5 e; rw [hsz, q] at this; exact A9 _ this) (Heap.get?_push_of_some _ e)
 have e3 : Ext s.heap h₀ := Ext.trans e1 e2
 exact ⟨(G.ext e3).lim, codeAny_func (Aj (h h₀ _ hnsA e3 (e2 _ _ t1)) (fun _ _ q => q) fun _ _ e => e.elim)⟩
theorem cJ {env : Env} {b c : Addr} {pos : Pos} {e : Expr} {rest : List Expr} {Q : Value -> Shared -> Prop}
  (h : wpAny (MK w) A (spliced (backTo pos (starEach (e :: rest) env))) (fun vs s_1 => s_1.heap.get? b = some (aQ c) ∧ wpAny (MK w) A (call (.ref b) vs []) Q E s_1) E s)
  (he : starEach (e :: rest) env = (false, eval e env) :: starEach rest env := by rfl) (hplain : (backTo pos (starEach rest env)).any (·.1) = false := by rfl) :
  wpAny (MK w) A (callWith pos (.ref b) [] (backTo pos (starEach (e :: rest) env)) []) Q E s := by
 rw [he] at h ⊢
 have hp : ((backTo pos ((false, eval e env) :: starEach rest env)).any (·.1) || ([] : List (Option Str × Sem Value)).any (·.1.isNone)) = false := by
  show ((false || (backTo pos (starEach rest env)).any (·.1)) || false) = false
  rw [hplain]; rfl
 unfold callWith
 refine Aa (At (Aj (evalArgs_plain (f := .ref b) (Q := fun a s_1 => a.kw = [] ∧ s_1.heap.get? b = some (aQ c) ∧ wpAny (MK w) A (call (.ref b) a.pos []) Q E s_1) (Aj h (fun vs s_1 h_1 => ⟨rfl, h_1⟩) fun _ _ z => z)) (fun a s_1 h_1 => Aa (Bz ?_)) fun _ _ z => z))
 refine cG h_1 fun hk hm h_1 => ?_
 have L : Looks (MK w) s_1.heap (keeperOf (.ref b)) .machine := by
  refine (Gs (part := none) hm).andThen ?_
  exact .now
 simp only [hp]
 refine Aa (L.here ?_)
 rw [hk]
 exact Aa (Aj h_1 (fun r s_2 hr => Aa (At (wpAny_point (Ae hr)))) fun _ _ y => y)
theorem uG {env : Env} {iter : Expr} {elts : List Expr} {x1 : Nat} {tp pos : Pos} {body : List Stmt} {d : Addr} {k : Str} {v : Value} {Q : Flow -> Shared -> Prop} (hA : A.handled = none)
  (hn : (assignEach elts env).length = 2) (hstar : (assignEach elts env).findIdx? (·.1) = none)
  (h : wpAny (MK w) A (eval iter env) (fun xv s_1 => ∃ V ep, xv = .ref V ∧ s_1.heap.IsItemsView V d ∧ s_1.heap.DictAt (sK w) d [(k, v)] ep ∧
   ∀ h' key E', Ext s_1.heap h' -> (sK w).is k key = true -> wpAny (MK w) A (assignInOrder ((assignEach elts env).map (·.2)) [key, v]) (fun _ s_2 => wpAny (MK w) A (execs body env) (fun f s_3 => f = .next ∧ Lk s_1 s_3 ∧
    (∀ b o, s_1.heap.get? b = none -> h'.get? b = some o -> s_3.heap.get? b = some o) ∧ s_3.heap.DictAt (sK w) d [(k, v)] ep ∧
    ∀ h4 tk, (∀ b o, s_1.heap.get? b ≠ none -> s_3.heap.get? b = some o -> h4.get? b = some o) -> Q .next { s_1 with heap := h4, toks := tk }) E' s_2) E' { s_1 with heap := h' }) E s)
  (hs : ∀ x, foldedSetIterable iter env x = pure x := by intro _; rfl) :
  wpAny (MK w) A (exec (.For (.Tuple elts x1 tp) iter body [] pos) env) Q E s := by
 refine wpAny_For (Aj h (fun xv s_1 h_1 => ?_) fun _ _ z => z) hs
 refine dv h_1 ?_
 clear h_1
 rintro V ep rfl hV hd hb
 refine wpAny_pyIter_items hV hd ?_
 have k2 : Ext s_1.heap (s_1.heap.push { cls := .type "dict_itemiterator", data := .fields #[.none, .bool false, .ref d, .int 0 0, .int 1 0, .int ep 0, .none, .none] }) := ac _ _
 have t2 : (s_1.heap.push { cls := .type "dict_itemiterator", data := .fields #[.none, .bool false, .ref d, .int 0 0, .int 1 0, .int ep 0, .none, .none] }).get? s_1.heap.objs.size = some _ := Heap.get?_push_size _ rfl
 have fI := ae s_1.heap
 show codeAny _ _ _ _ { s_1 with heap := s_1.heap.push { cls := .type "dict_itemiterator", data := .fields #[.none, .bool false, .ref d, .int 0 0, .int 1 0, .int ep 0, .none, .none] } }
 have hsz : (s_1.heap.push { cls := .type "dict_itemiterator", data := .fields #[.none, .bool false, .ref d, .int 0 0, .int 1 0, .int ep 0, .none, .none] }).objs.size = s_1.heap.objs.size + 1 := A4 ..
 generalize s_1.heap.push { cls := .type "dict_itemiterator", data := .fields #[.none, .bool false, .ref d, .int 0 0, .int 1 0, .int ep 0, .none, .none] } = h2 at *
 generalize hI : s_1.heap.objs.size = I at *
 have hdI : d ≠ I := fun e => by obtain ⟨o, es, ho, _⟩ := hd; rw [e, fI] at ho; cases ho
 refine codeAny_forLoop_any (fun n s' => (n = 1 ∧ s' = { s_1 with heap := h2 }) ∨ (n = 0 ∧ Lk s_1 s' ∧ (∃ ok ov, IsItemIter s'.heap I d 1 1 ep ok ov) ∧ s'.heap.DictAt (sK w) d [(k, v)] ep ∧
  ∀ h4 tk, (∀ b o, s_1.heap.get? b ≠ none -> s'.heap.get? b = some o -> h4.get? b = some o) -> Q .next { s_1 with heap := h4, toks := tk })) ?_ 1 (.inl ⟨rfl, rfl⟩)
 rintro n s' (⟨rfl, rfl⟩ | ⟨rfl, ⟨h', tk', rfl⟩, ⟨ok, ov, hit⟩, hd', hq⟩)
 ·refine wpAny_pyNext_items_item (i := 0) (ok := .none) (ov := .none) (kvs := [(k, v)]) t2 (hd.at' fun o e => k2 d o e) rfl ?_
  intro key h3 hkey hit3 t3 sz3 k3
  dsimp only at hit3 t3 sz3 k3 ⊢
  refine wpAny_letOwnedTupleGo_items hit3 ?_
  intro h4 hit4 s4
  have hTI : h2.objs.size ≠ I := by rw [hsz]; exact Nat.succ_ne_self _
  have t4 := s4.extBut _ _ hTI t3
  refine wpAny_assign_Tuple hA ⟨_, t4, rfl, 0, rfl⟩ (by rw [hn]; rfl) hstar ?_
  intro h5 k5
  have IT : I ≠ h4.objs.size := fun e => absurd (A5 hit4) (by rw [e]; exact A9 _)
  have x5 : Ext s_1.heap h5 := fun b o e => by
   have bI : b ≠ I := fun q => by rw [q, fI] at e; cases e
   have e3 := k3 b o bI (k2 b o e)
   have e4 := s4.extBut b o bI e3
   exact k5 b o (fun q => absurd (A5 e4) (by rw [q]; exact A9 _)) e4
  refine Aj (hb h5 key _ x5 hkey) (fun _ s6 h6 => Aj h6 (fun f s7 h7 => ?_) fun _ _ z => z) fun _ _ z => z
  refine ce h7 ?_
  clear h7
  rintro rfl hl hnew hd7 hq
  exact ⟨0, vE, .inr ⟨rfl, hl, ⟨key, v, hnew I _ fI (k5 _ _ IT hit4)⟩, hd7, hq⟩⟩
 ·refine wpAny_pyNext_items_end (kvs := [(k, v)]) hA hit hd' rfl ?_
  intro h4 s4
  refine Ah ?_
  exact hq h4 _ fun b o hb e => s4 b o (fun q => hb (q ▸ fI)) e
end
end
end Mine
end
section
open PySem PySem.W PyProof.Rows PySem.Calls PySem.Spec Builtin
namespace Mine
section
theorem eY : Slot "wrapper_descriptor" "__get__" "wrapper_descriptor.__get__" := .of (owner := "wrapper_descriptor") (n := "__get__") (by rw [Du, B1]; kernel_rfl) (by decide +kernel) (by decide +kernel) (by decide +kernel)
 (by first | exact .inl (by decide +kernel) | exact .inr (by decide +kernel)) (by rw [isSubtype_type]; kernel_rfl)
theorem kN : entryFor table "wrapper_descriptor.__get__" = some Builtin.«wrapper_descriptor.__get__» := entryFor_of_tree (by kernel_rfl)
theorem mt (a b c : Value) : argsOk "wrapper_descriptor.__get__" ⟨[a, b, c], []⟩ := by unfold argsOk; kernel_rfl
theorem gi : typeOf (.builtin "dict.__init__") = pure (.type "wrapper_descriptor") := by show builtinType _ = _; rw [builtinType_eq_fast]; kernel_rfl
theorem hG : typeOf (.builtin "dict.update") = pure (.type "method_descriptor") := by show builtinType _ = _; rw [builtinType_eq_fast]; kernel_rfl
abbrev dW (c : Addr) : Obj := ks_superObj 1093 c 1093
section
variable {w : World} {A : Around} {E : Value -> Shared -> Prop} {c dx so : Addr} {kvs : List (Str × Value)} {h : Heap} {g : Array GenState} {d : Drawn} {t : Nat} {os : OsState}
theorem mr (X : (K w.params).In h) : Looks (MK w) h (opaqueClassAbove (.ref 1093)) none := looks_opaque X (by kernel_rfl)
theorem li {name : Str} {id gid T : String} {ob : Obj} {tk : Tok} {Q : Fin -> Shared -> Prop} (X : (K w.params).In h) (x : CtA w h c dx kvs) (hso : h.get? so = some (dW c)) (hn : (name == ("__class__" : Str)) = false)
  (hf : alongIn (K w.params) name [.type "dict", .type "object"] = some (some (.builtin id))) (hT : typeOf (.builtin id) = pure (.type T)) (hlk : typeLookup (.type T) "__get__" = pure (some (.builtin gid)))
  (hg : ∀ (A' : Around) (Q' : Value -> Shared -> Prop) (E' : Value -> Shared -> Prop), Q' (.ref h.objs.size) ⟨h.push ob, g, d, t, os⟩ -> wpAny (MK w) A' (call (.builtin gid) [.builtin id, .ref c, .ref 1093]) Q' E' ⟨h, g, d, t, os⟩)
  (hq : Q (.done (.ret (.ref h.objs.size))) ⟨h.push ob, g, d, t, os⟩) :
  wpAny (MK w) A (Builtin.«super.__getattribute__» ⟨[.ref so, .str name tk], []⟩) Q E ⟨h, g, d, t, os⟩ := by
 have hno := mr X
 have hC := iQ X
 refine aG x.obj fun es ep ho _ => ?_
 have hxC : c ≠ 1093 := fun e => by
  have := X _ _ (cb w)
  rw [e, this] at ho; cases ho
 have hne : (Value.ref c == Value.ref 1093) = false := by simp [hxC]
 have hdt : (dW c).data = .fields #[.ref 1093, .ref c, .ref 1093] := rfl
 have f0 : (#[.ref 1093, .ref c, .ref 1093] : Array Value)[0]? = some (.ref 1093) := rfl
 have f1 : (#[.ref 1093, .ref c, .ref 1093] : Array Value)[1]? = some (.ref c) := rfl
 have f2 : (#[.ref 1093, .ref c, .ref 1093] : Array Value)[2]? = some (.ref 1093) := rfl
 have hl : (([.ref 1093, .type "dict", .type "object"] : List Value).dropWhile (· != .ref 1093)).drop 1 = [.type "dict", .type "object"] := by decide +kernel
 unfold Builtin.«super.__getattribute__»
 refine Aa (m := asStr? _) (Ae ?_)
 refine Aa (m := asStr? _) (Ae ?_)
 refine Aa (wpAny_field hso hdt f0 ?_)
 refine Aa (wpAny_field hso hdt f1 ?_)
 refine Aa (wpAny_field hso hdt f2 ?_)
 rw [if_neg (by rw [hn]; decide)]
 refine Aa (ks_wpAny_notOpaque hno ?_)
 rw [if_neg (by decide)]
 refine Aa (hC.at ?_)
 rw [hl]
 refine Aa (ks_forIn_along X (fun _ _ => rfl) rfl ?_ hf)
 refine Aa ?_
 refine B6 hT ?_
 refine Aa (B6 hlk ?_)
 dsimp only
 refine Aa (At ?_)
 rw [hne]
 simp only [Al, Be]
 refine hg _ _ _ ?_
 refine Aa (Ae ?_)
 exact Ae (Ae hq)
theorem eU {name : Str} {id gid T : String} {ob : Obj} {pl : Sem Bool} {Q : Value × List Value -> Shared -> Prop} (X : (K w.params).In h) (x : CtA w h c dx kvs) (hso : h.get? so = some (dW c)) (hn : (name == ("__class__" : Str)) = false)
  (hf : alongIn (K w.params) name [.type "dict", .type "object"] = some (some (.builtin id))) (hT : typeOf (.builtin id) = pure (.type T)) (hlk : typeLookup (.type T) "__get__" = pure (some (.builtin gid)))
  (hg : ∀ (t : Nat) (A' : Around) (Q' : Value -> Shared -> Prop) (E' : Value -> Shared -> Prop), Q' (.ref h.objs.size) ⟨h.push ob, g, d, t, os⟩ -> wpAny (MK w) A' (call (.builtin gid) [.builtin id, .ref c, .ref 1093]) Q' E' ⟨h, g, d, t, os⟩)
  (hq : Q (.ref h.objs.size, []) ⟨h.push ob, g, d, t + 1, os⟩) : wpAny (MK w) A (getMethod (.ref so) name pl) Q E ⟨h, g, d, t, os⟩ := by
 have hlk' := F.ks_slot_super_ga.lookup
 have hT' : ∀ t', (⟨h, g, d, t', os⟩ : Shared).TypeIs (.ref so) "super" := fun _ => ⟨_, hso, rfl⟩
 unfold getMethod
 refine Aa (wpAny_specialOf (hT' _) hlk' ?_)
 show wpAny _ _ (if (Manifest.canonical "super.__getattribute__" != "object.__getattribute__") = true then _ else _) _ _ _
 rw [if_pos F.ks_canon_super_ga]
 unfold getAttr getAttrBy
 refine Aa (Aa (wpAny_mkText (At (Aa (wpAny_typeOf (hT' _) (Aa (B6 hlk' ?_)))))))
 show wpAny _ _ (getAttrByItsOwn (.ref so) (.str name t) (.type "super") (.builtin "super.__getattribute__") true false) _ _ _
 unfold getAttrByItsOwn hookBefore callGetattribute boundAndCalled
 refine Aa (B6 (show (if onTheHeap (.type "super") then typeLookup (.type "super") "__getattr__" else pure none) = pure none from rfl) ?_)
 refine Aa (wpAny_attempt (At ?_))
 show wpAny _ _ (bindSpecial (.builtin "super.__getattribute__") (.ref so) >>= _) _ _ _
 refine Aa (B6 (F.ks_slot_super_ga.bind _) ?_)
 refine Aj (Q := fun v s' => v = .ref h.objs.size ∧ s' = ⟨h.push ob, g, d, t + 1, os⟩) (E := fun _ _ => False)
  (wpAny_call_entry F.ks_slot_super_ga (hT' _) F.ks_entry_super_ga (li (t := t + 1) X x hso hn hf hT hlk (hg (t + 1)) ⟨_, rfl, rfl, rfl⟩) (F.ks_gaArgs_super _ _)) (fun v s' hv => ?_) fun _ _ z => z.elim
 refine ao hv ?_
 clear hv
 rintro rfl rfl
 exact Ae (Ae hq)
abbrev bz (c : Addr) : Obj := { cls := .type "method-wrapper", data := .fields #[.builtin "dict.__init__", .ref c] }
abbrev bZ (c : Addr) : Obj := { cls := .type "builtin_function_or_method", data := .fields #[.builtin "dict.update", .ref c] }
theorem lO (X : (K w.params).In h) (x : CtA w h c dx kvs) (A' : Around) (Q' : Value -> Shared -> Prop) (E' : Value -> Shared -> Prop) (hq : Q' (.ref h.objs.size) ⟨h.push (bz c), g, d, t, os⟩) : wpAny (MK w) A' (call (.builtin "wrapper_descriptor.__get__") [.builtin "dict.__init__", .ref c, .ref 1093]) Q' E' ⟨h, g, d, t, os⟩ := by
 have L1 := cv (s := ⟨h, g, d, t, os⟩) X x
 have L2 : Looks (MK w) h (isInstance (.ref c) (.type (".".intercalate ("dict.__init__".cutAt '.').dropLast))) true := by
  rw [show ".".intercalate ("dict.__init__".cutAt '.').dropLast = "dict" by decide +kernel]; exact L1
 have hT : (⟨h, g, d, t, os⟩ : Shared).TypeIs (.builtin "dict.__init__") "wrapper_descriptor" := gi
 refine Bf (De eY.plain kN (eY.check _ _ _ _ _ _ _ _ hT (mt _ _ _) ?_))
 unfold Builtin.«wrapper_descriptor.__get__»
 repeat lk
 exact hq
theorem nz (X : (K w.params).In h) (x : CtA w h c dx kvs) (A' : Around) (Q' : Value -> Shared -> Prop) (E' : Value -> Shared -> Prop) (hq : Q' (.ref h.objs.size) ⟨h.push (bZ c), g, d, t, os⟩) : wpAny (MK w) A' (call (.builtin "method_descriptor.__get__") [.builtin "dict.update", .ref c, .ref 1093]) Q' E' ⟨h, g, d, t, os⟩ := by
 have L1 := cv (s := ⟨h, g, d, t, os⟩) X x
 have L2 : Looks (MK w) h (isInstance (.ref c) (.type (".".intercalate ("dict.update".cutAt '.').dropLast))) true := by
  rw [show ".".intercalate ("dict.update".cutAt '.').dropLast = "dict" by decide +kernel]; exact L1
 have hT : (⟨h, g, d, t, os⟩ : Shared).TypeIs (.builtin "dict.update") "method_descriptor" := hG
 refine Bf (De bN.plain et (bN.check _ _ _ _ _ _ _ _ hT (fR _ _ _) ?_))
 unfold Builtin.«method_descriptor.__get__»
 repeat lk
 exact hq
theorem lh {pl : Sem Bool} {Q : Value × List Value -> Shared -> Prop} (X : (K w.params).In h) (x : CtA w h c dx kvs) (hso : h.get? so = some (dW c)) (hq : Q (.ref h.objs.size, []) ⟨h.push (bz c), g, d, t + 1, os⟩) :
  wpAny (MK w) A (getMethod (.ref so) (q "__init__") pl) Q E ⟨h, g, d, t, os⟩ :=
 eU X x hso (by decide) (by kernel_rfl) gi eY.lookup (fun t A' Q' E' => lO X x A' Q' E') hq
theorem mP {pl : Sem Bool} {Q : Value × List Value -> Shared -> Prop} (X : (K w.params).In h) (x : CtA w h c dx kvs) (hso : h.get? so = some (dW c)) (hq : Q (.ref h.objs.size, []) ⟨h.push (bZ c), g, d, t + 1, os⟩) :
  wpAny (MK w) A (getMethod (.ref so) (q "update") pl) Q E ⟨h, g, d, t, os⟩ :=
 eU X x hso (by decide) (by kernel_rfl) hG bN.lookup (fun t A' Q' E' => nz X x A' Q' E') hq
end
end
section
section
variable {w : World} {A : Around} {E : Value -> Shared -> Prop} {s : Shared} {c dx : Addr} {kvs : List (Str × Value)}
theorem iJ {RR : Result -> Shared -> Prop} {f : Addr} {o : Obj} {fd : FuncData} {body : List Stmt} {args : Args} {binds : Value -> List (Str × Value)} {k : Nat}
  (R : ak A k) (G : Gr w s.heap) (ho : (K w.params).lookup f = some o) (hdata : o.data = .func fd) (hcd : codeIn (K w.params) (fd.code) fd.qualname = true)
  (hbody : fd.body = .stmts body) (hb : ∀ (M : Model) (A : Around) (E : Value -> Shared -> Prop) (Q : List (Str × Value) -> Shared -> Prop), wpAny M A (alloc emptyDict) (fun d s' => Q (binds (.ref d)) s') E s -> wpAny M A (bindArgs fd args) Q E s)
  (hcell : ∀ x ∈ fd.scope.names, x.2 ≠ .cell) (hloc : ∀ t, ((binds t).all fun x => decide (fd.scope.names.lookup x.1 = some .local)) = true)
  (h : ∀ h₀ tk, h₀.Ns (s.heap.objs.size + 1) (fun x => (binds (.ref s.heap.objs.size)).reverse.lookup x) -> Ext s.heap h₀ -> h₀.get? s.heap.objs.size = some emptyDict ->
   _root_.PySem.wpAt (MK w) (A.deeper (callEnv fd (s.heap.objs.size + 1) f)) (.func body (callEnv fd (s.heap.objs.size + 1) f)) (execs body (callEnv fd (s.heap.objs.size + 1) f)) (fun fl s' => RR (.ok (.ret (match fl with | .ret v => v | _ => .none))) s') (fun _ _ => False) { s with heap := h₀, toks := tk })
  (hco : fd.scope.isCoroutine = false := by rfl) (hgen : fd.scope.isGenerator = false := by rfl) (hk : fd.scope.kind = .function := by rfl) :
  codeAny (MK w) A (.call (.ref f) args) RR s := by
 refine codeAny_call_function R.depth (G.K _ _ ho) hdata hco hgen hbody (codeRec_of G.K hcd) ?_
 refine hb _ _ _ _ (wpAny_alloc ?_)
 have hsz : (s.heap.push emptyDict).objs.size = s.heap.objs.size + 1 := A4 ..
 have e1 : Ext s.heap (s.heap.push emptyDict) := ac _ _
 have t1 : (s.heap.push emptyDict).get? s.heap.objs.size = some emptyDict := Heap.get?_push_size _ rfl
 generalize s.heap.push emptyDict = hp at *
 refine wpAny_newFunctionEnv hcell (locs (hloc _)) (fun h₀ hnsA hsbA => ?_) hk
 dsimp only at hnsA hsbA ⊢
 rw [hsz] at hnsA hsbA ⊢
 have e2 : Ext hp h₀ := fun b o e => hsbA.extBut b o (fun q => by have := A5 e; rw [hsz, q] at this; exact A9 _ this) (Heap.get?_push_of_some _ e)
 have e3 : Ext s.heap h₀ := Ext.trans e1 e2
 exact ⟨(G.ext e3).lim, ks_codeAny_funcAt (_root_.PySem.wpAt_mono (h h₀ _ hnsA e3 (e2 _ _ t1)) (fun _ _ q => q) fun _ _ e => e.elim)⟩
theorem eT {fd : FuncData} {L f : Addr} {o cd : Obj} {vs : Array Value} {file : Str} {tf : Tok} {ca : Addr} {ar : Arg} {body : List Stmt} {p0 p1 : Pos} {attr : Str} {whole : Sem Value} {m : Str -> Option Value} {Q : Value -> Shared -> Prop}
  (G : Gr w s.heap) (x : CtA w s.heap c dx kvs) (ho : (K w.params).lookup f = some o) (hdata : o.data = .func fd) (hp : (fd.params.posonlyargs ++ fd.params.args).head? = some ar) (hn : s.heap.Ns L m) (hv : m ar.arg = some (.ref c))
  (hcode : fd.code = .ref ca) (hca : (K w.params).lookup ca = some cd) (hcd : cd.data = .fields vs) (hvs : vs[2]? = some (.str file tf)) (hfile : ((pw.main.file : Str) == file) = true)
  (hat : (attr == ("__class__" : Str)) = false) (hks : (callEnv fd L f).kindOf "super" = some .globalImplicit) (hkc : (callEnv fd L f).kindOf "__class__" = some .free) (hka : (callEnv fd L f).kindOf ar.arg = some .local) (hk : fd.scope.kind = .function)
  (hcl : (callEnv fd L f).cells.lookup (q "__class__") = some 874) (hgl : (callEnv fd L f).globals = mainGlobals) (hbl : (callEnv fd L f).builtins = builtinsNs)
  (h : ∀ so h', Ext s.heap h' -> h'.get? so = some (dW c) -> s.heap.get? so = none -> Q (.ref so) { s with heap := h' }) :
  _root_.PySem.wpAt (MK w) A (.func body (callEnv fd L f)) (attributeBase (.Call (.Name "super" p0) [] [] p1) attr (callEnv fd L f) whole) Q E s := by
 refine aG x.obj fun es ep hoc _ => ?_
 have hD := G.K _ _ (cb w)
 have hsubL : Looks (MK w) s.heap (isSubtype (.ref 1093) (.ref 1093)) true := mq G.K
 have hcell := G.K 874 _ rfl
 have X := G.K
 refine pL G.T fun p l mg mb T => ?_
 have hsz := ae s.heap
 obtain ⟨hh, gg, d, t, os⟩ := s
 refine ks_wpAt_super_base hks hkc hat rfl (X _ _ ho) hdata hp hcode (X _ _ hca) hcd hvs hfile (by kernel_rfl) ?_
 refine ks_loadName_global hk hks (loadGlobal_builtin (by rw [hgl]; exact T.g) (mg_none_of X T.g (show nsIn (K w.params) mainGlobals (q "super") = some none by kernel_rfl)) (by rw [hbl]; exact T.b) ((T.builtins (q "super") (by decide)).trans (show bootBuiltins (q "super") = some (.type "super") by kernel_rfl)) ⟨rfl, ?_⟩)
 refine wpAny_loadName_free hk hkc hcl ⟨_, hcell, rfl⟩ ?_
 refine wpAny_loadName_local hk hka hn hv ?_
 refine ks_wpAny_isType_cls hD rfl ⟨rfl, ?_⟩
 refine ks_wpAny_call_super hD rfl hoc rfl (fun _ e => by cases e) hsubL ?_
 intro h' e k
 exact h _ _ k e hsz
end
end
section
def DD (w : World) (h : Heap) (a : Addr) (c : Value) (dd : Option Addr) (sl : Array (Option Value)) (kvs : List (Str × Value)) : Prop :=
 ∃ es ep, h.get? a = some ⟨c, dd, .dict es ep, sl⟩ ∧ KeysOf (sK w) es ∧ Pairs (sK w) es.toList kvs ∧ (kvs.map (·.1)).Nodup
theorem CtA.dd {w : World} {h : Heap} {c dx : Addr} {kvs : List (Str × Value)} (x : CtA w h c dx kvs) : DD w h c (.ref 1093) (some dx) #[] kvs := x.obj
theorem DD.ct {w : World} {h : Heap} {c dx : Addr} {kvs : List (Str × Value)} (x : DD w h c (.ref 1093) (some dx) #[] kvs) (e : h.get? dx = some emptyDict) (nb : (c == sysModules) = false) : CtA w h c dx kvs := ⟨x, e, nb⟩
theorem DD.dict {w : World} {h : Heap} {a : Addr} {kvs : List (Str × Value)} (x : DD w h a (.type "dict") none #[] kvs) : h.DictOf (sK w) a kvs := let ⟨es, ep, ho, r⟩ := x; ⟨_, es, ep, ho, ⟨rfl, rfl, rfl⟩, rfl, r⟩
theorem DD.of_dict {w : World} {h : Heap} {a : Addr} {kvs : List (Str × Value)} (x : h.DictOf (sK w) a kvs) : DD w h a (.type "dict") none #[] kvs := by
 refine uK x ?_
 clear x
 rintro ⟨c, d, dt, sl⟩ es ep ho ⟨h1, h2, h3⟩ hd r
 dsimp only at h1 h2 h3 hd
 subst h1 h2 h3 hd
 exact EI2 es ep ⟨ho, r⟩
section
variable {w : World} {A : Around} {E : Value -> Shared -> Prop} {s : Shared} {a b : Addr} {c c' : Value} {dd dd' : Option Addr} {sl sl' : Array (Option Value)} {kvs more : List (Str × Value)} {k : Str} {key v : Value}
theorem ph {Q : Unit -> Shared -> Prop} (hkey : (sK w).is k key = true) (x : DD w s.heap a c dd sl kvs) (hQ : ∀ h', DD w h' a c dd sl (stored kvs k v) -> Heap.SameBut a s.heap h' -> Q () { s with heap := h' }) (hsz : kvs.length ≤ sizeLine) :
  wpAny (MK w) A (dictSetHashed a key ((sK w).hash k) v) Q E s := by
 refine dv x fun es ep ho hk hp hn => ?_
 clear x
 have hes : es.size ≤ sizeLine := by
  have e1 := hp.length
  have e2 : es.toList.length = es.size := by simp
  exact rf hsz e1 e2
 unfold dictSetHashed
 try with_reducible refine At ?_
 refine Aa (wpAny_dictFind_of hkey ho rfl hk ?_)
 have hidx : (es.findIdx? fun e => (sK w).is k e.key) = kvs.findIdx? fun kv => decide (kv.1 = k) := by
  rw [<- hp.findIdx k]; obtain ⟨l⟩ := es; simp
 have hnf : ∀ es' ep', (⟨c, dd, .dict es' ep', sl⟩ : Obj).isFreed = false := fun _ _ => Obj.isFreed_of_dict rfl
 cases hi : es.findIdx? fun e => (sK w).is k e.key with
 | some i =>
  refine Aa (wpAny_rule (Aa (wpAny_updateDict ho rfl (wpAny_point (hQ _ ⟨_, ep, Heap.get?_update_self _ ho (hnf _ _), hk.modify _ _, ?_, ?_⟩ (A8 ..))))))
  ·rw [stored, if_pos (any_of_findIdx_some (hidx ▸ hi))]
   have hl : (es.toList.findIdx? fun e => (sK w).is k e.key) = some i := by rw [<- hi]; obtain ⟨l⟩ := es; simp
   have := hp.modify hn hl v
   obtain ⟨l⟩ := es
   simpa using this
  ·rw [stored, if_pos (any_of_findIdx_some (hidx ▸ hi)), keys_map_store]; exact hn
 | none =>
  have hnot : k ∉ kvs.map (·.1) := not_mem_of_findIdx_none (hidx ▸ hi)
  have hany : ¬ (kvs.any fun kv => decide (kv.1 = k)) = true := by
   rw [Gc]; rintro ⟨kv, hkv, he⟩
   exact hnot (A0.mpr ⟨kv, hkv, Dz he⟩)
  refine Aa (wpAny_rule (wpAny_updateDictKeys (hz := hes) ho rfl (hQ _ ⟨_, ep + 1, Heap.get?_update_self _ ho (hnf _ _), hk.push hkey _, ?_, ?_⟩ (A8 ..))))
  ·rw [stored, if_neg hany]
   have := hp.append hkey ((sK w).hash k) v
   obtain ⟨l⟩ := es
   simpa using this
  ·rw [stored, if_neg hany, Ba, B5]
   refine ⟨hn, by simp, ?_⟩
   intro a ha b hb
   simp only [A2, Gv, Ac] at hb
   subst hb
   exact fun e => hnot (e ▸ ha)
theorem iK {nm : String} {Q : Unit -> Shared -> Prop} (hab : a ≠ b) (hbS : (b == sysModules) = false) (x : DD w s.heap a c dd sl []) (y : DD w s.heap b c' dd' sl' more) (hs8 : more.length ≤ 100)
  (hQ : ∀ h', DD w h' a c dd sl more -> Heap.SameBut a s.heap h' -> Q () { s with heap := h' }) : wpAny (MK w) A (Builtin.Dict.mergeDict nm a b) Q E s := by
 refine dv (id x) fun esd epd hod hkd hpd hnd => ?_
 refine dv (id y) fun eso epo hoo hko hpo hno => ?_
 have ed : esd = #[] := by
  have := hpd.length
  cases esd with
  | mk l => cases l with
   | nil => rfl
   | cons _ _ => simp at this
 have mk : (merged [] more) = more := merged_nil_of_nodup more hno
 have hlen : more.length = eso.size := by rw [<- hpo.length]; simp
 have full : ∀ h', DD w h' a c dd sl (merged [] more) -> DD w h' a c dd sl more := fun h' z => by rwa [mk] at z
 unfold Builtin.Dict.mergeDict
 rw [if_neg (by simpa using hab)]
 unfold Builtin.Dict.showsAll
 rw [if_neg (by rw [hbS]; exact Gx)]
 refine Aa (Ae ?_)
 refine Aa (Dj hoo rfl ?_)
 have loop : wpAny (MK w) A (do
   let epoch <- dictEpoch b
   let l <- dictEntries b
   forIn [:l.size] PUnit.unit fun i (_ : PUnit) => (do
     let l' <- dictEntries b
     match l'[i]? with
      | some e => do
       holding [e.key, e.val] (dictSetHashed a e.key e.hash e.val)
       let ep' <- dictEpoch b
       if (ep' != epoch) = true then do
         (unsupported (toString nm ++ toString ":source-changed-during-callback") : Sem PUnit)
         pure (ForInStep.yield PUnit.unit)
        else pure (ForInStep.yield PUnit.unit)
      | _ => do
       (unsupported "internal:dict-merge" : Sem PUnit)
       pure (ForInStep.yield PUnit.unit) : Sem (ForInStep PUnit))
   pure ()) Q E s := by
  refine Aa (wpAny_dictEpoch hoo rfl ?_)
  refine Aa (Dj hoo rfl ?_)
  refine Aa ?_
  rw [Std.Legacy.Range.forIn_eq_forIn_range']
  simp only [Std.Legacy.Range.size, Nat.sub_zero, Nat.add_sub_cancel, Nat.div_one]
  refine wpAny_forIn_list _
   (fun rest _ s' => ∃ h' i, s' = { s with heap := h' } ∧ rest = List.range' i (eso.size - i) ∧ i ≤ eso.size ∧ DD w h' a c dd sl (merged [] (more.take i)) ∧ h'.get? b = some ⟨c', dd', .dict eso epo, sl'⟩ ∧ Heap.SameBut a s.heap h')
   _ ?_ ?_ _ _ ⟨s.heap, 0, rfl, by simp, Nat.zero_le _, by simpa [merged] using x, hoo, Heap.SameBut.refl _ _⟩
  ·intro x rest _ s' X1
   refine mD X1 ?_
   clear X1
   rintro h' i rfl hr hi hd' hoo' hs'
   have hlt : i < eso.size := by
    rcases Nat.lt_or_ge i eso.size with h | h
    ·exact h
    ·rw [Nat.sub_eq_zero_of_le h] at hr; simp at hr
   obtain ⟨rfl, hrest⟩ : x = i ∧ rest = List.range' (i + 1) (eso.size - (i + 1)) := by
    have e : eso.size - i = (eso.size - (i + 1)) + 1 := (qy hlt)
    rw [e, List.range'_succ] at hr
    injection hr with h1 h2
    exact ⟨h1, h2⟩
   refine Aa (Dj hoo' rfl ?_)
   rw [Array.getElem?_eq_getElem hlt]
   obtain ⟨kv, hkv⟩ : ∃ kv, more[x]? = some kv := ⟨more[x]'(by rw [hlen]; exact hlt), List.getElem?_eq_getElem _⟩
   obtain ⟨k, v⟩ := kv
   refine ao (hpo.get? (e := eso[x]) (by simp [hlt]) hkv) fun hkey hval => ?_
   refine ag (hko eso[x] (Array.getElem_mem hlt)) fun k' hkey' hhash => ?_
   obtain rfl : k' = k := (sK w).inj _ _ _ hkey' hkey
   show wpAny _ _ (holding [eso[x].key, eso[x].val] (dictSetHashed a eso[x].key eso[x].hash eso[x].val) >>= _) _ _ _
   rw [hhash, hval]
   have hmx : (merged [] (more.take x)).length ≤ sizeLine := by
    have e1 := merged_length_le [] (more.take x)
    have e2 : (more.take x).length ≤ more.length := by rw [Dc]; omega
    rw [Az]
    simp only [Gh] at e1
    exact rP hs8 e1 e2
   refine Aa (At (ph (hsz := hmx) hkey hd' fun h'' hd'' hs'' => ?_))
   have hoo'' : h''.get? b = some ⟨c', dd', .dict eso epo, sl'⟩ := (hs''.2 b (Ne.symm hab)).trans hoo'
   refine Aa (wpAny_dictEpoch hoo'' rfl ?_)
   rw [if_neg (by simp)]
   exact Ae ⟨h'', x + 1, rfl, hrest, hlt, by rw [merged_take_succ [] more x (k', v) hkv]; exact hd'', hoo'', hs'.trans hs''⟩
  ·intro _ s' X2
   refine mD X2 ?_
   clear X2
   rintro h' i rfl hr hi hd' hoo' hs'
   have hin : i = eso.size := by
    rcases Nat.lt_or_ge i eso.size with h | h
    ·have e : eso.size - i = (eso.size - (i + 1)) + 1 := (qy h)
     rw [e, List.range'_succ] at hr; exact nomatch hr
    ·exact Nat.le_antisymm hi h
   refine Ae (hQ h' (full h' ?_) hs')
   rw [hin, <- hlen, A7] at hd'; exact hd'
 dsimp only
 split
 ·refine Aa (Dj hod rfl ?_)
  subst ed
  rw [if_pos (by rfl)]
  refine Aa (wpAny_entriesForEmpty (knd := sK w) hoo rfl hko ?_)
  split
  ·have hto : eso.size ≤ sizeLine + 1 := by rw [Az]; exact sS hs8 hlen
   refine Aa (wpAny_updateDictKeysTo hod rfl (Ae (hQ _ ⟨_, epd + 1, Heap.get?_update_self _ hod (Obj.isFreed_of_dict rfl), hko, hpo, hno⟩ (A8 ..))) hto)
  ·rename_i hne
   have h0 : eso = #[] := Array.isEmpty_iff.mp (by simpa using hne)
   have hm0 : more = [] := List.length_eq_zero_iff.mp (by rw [hlen, h0]; rfl)
   subst hm0
   exact Ae (hQ _ x (Heap.SameBut.refl _ _))
 ·exact loop
end
section
variable {w : World} {A : Around} {E : Value -> Shared -> Prop} {s : Shared} {c dx d : Addr} {kvs : List (Str × Value)}
theorem jz {id : String} {args : Args} {Q : Unit -> Shared -> Prop} (hk : builtinKind id = some .slot) (ha : argsOk id args) (h : Q () s) : wpAny (MK w) A (checkBoundCall id args) Q E s := by
 unfold checkBoundCall
 cases hs : Manifest.signature? id with
 | none => exact Ae h
 | some sig =>
  simp only [argsOk, hs] at ha
  have h2 : Bind.checkArgs id sig args = pure () := ha
  rw [hk]
  obtain ⟨ps, kw⟩ := args
  cases ps with
  | nil => dsimp only; rw [h2]; exact Ae h
  | cons p ps =>
   dsimp only
   rw [if_pos (by decide), h2]
   exact Ae h
theorem kJ {b : Addr} {Q : Value -> Shared -> Prop} (X : (K w.params).In s.heap) (hb : s.heap.get? b = some (bz c)) (x : CtA w s.heap c dx kvs) (h : Q .none s) : wpAny (MK w) A (call (.ref b) []) Q E s := by
 refine Bf (codeAny_of_tree ?_)
 show wpAny _ _ (callAny (.ref b) _) _ _ _
 refine nd_load hb ?_
 show wpAny _ _ (checkBoundCall "dict.__init__" ⟨[.ref c], []⟩ >>= fun _ => again (.builtin "dict.__init__" ⟨[.ref c], []⟩) >>= fun x => pure x) _ _ _
 refine Aa (jz (by decide +kernel) (PySem.F.args_dict_init_1 _) (Aa (Ae (Ae ⟨plainId_quiet PySem.F.slot_dict_init.plain _, G0 PySem.F.entry_dict_init ?_⟩))))
 rw [Around.under_plainId PySem.F.slot_dict_init.plain]
 unfold Builtin.«dict.__init__» Builtin.Dict.selfAndRest
 refine Aa (Aa (cq X x ?_))
 show wpAny _ _ (pure (c, [])) _ _ s
 refine Ae ?_
 exact Ae h
theorem j9 (a b : Value) : (match Manifest.signature? "dict.update" with | some sig => Bind.checkArgs "dict.update" { sig with full := "update" } ⟨[a, b], []⟩ | none => pure ()) = pure () := by
 rw [signature?_of (id := "dict.update") (n := ['e', 't', 'a', 'd', 'p', 'u']) (o := ['t', 'c', 'i', 'd']) (by kernel_rfl) F.owner_dict]; kernel_rfl
theorem j8 (a b : Value) : (match Manifest.signature? "dict.update" with | some sig => Bind.checkArgs "dict.update" { sig with full := "Counter.update" } ⟨[a, b], []⟩ | none => pure ()) = pure () := by
 rw [signature?_of (id := "dict.update") (n := ['e', 't', 'a', 'd', 'p', 'u']) (o := ['t', 'c', 'i', 'd']) (by kernel_rfl) F.owner_dict]; kernel_rfl
theorem kX : Bind.lastOf "dict.update" = "update" := by decide +kernel
theorem kR : toString (q "Counter").toString ++ toString "." ++ toString "update" = "Counter.update" := by decide +kernel
theorem j7 {a : Value} {Q : Unit -> Shared -> Prop} (X : (K w.params).In s.heap) (x : CtA w s.heap c dx kvs) (h : Q () s) : wpAny (MK w) A (checkBoundCall "dict.update" ⟨[.ref c, a], []⟩) Q E s := by
 have L1 := aY x
 have L2 : Looks (MK w) s.heap (isInstance (.ref c) (.type "module")) false := L1.andThen (looks_mroIn X rfl)
 refine aG x.obj fun es ep ho _ => ?_
 have L3 : Looks (MK w) s.heap (isType (.ref c)) false := (Gs (part := some headPart) ho).andThen .now
 have L4 : Looks (MK w) s.heap (classData 1093) _ := looks_clsIn X (C := 1093) rfl
 have L5 : Looks (MK w) s.heap (typeOf (.ref 1093)) (.type "type") := looks_typeIn X rfl
 have ga1 := j9 (.ref c) a
 have ga2 := j8 (.ref c) a
 have hk : builtinKind "dict.update" = some .method := by decide +kernel
 unfold checkBoundCall
 cases hs : Manifest.signature? "dict.update" with
 | none => exact Ae h
 | some sig =>
  rw [hs] at ga1 ga2
  dsimp only at ga1 ga2 ⊢
  rw [kX]
  rw [hk]
  dsimp only
  rw [if_neg (by decide)]
  refine Aa (L2.here ?_)
  split
  ·rw [ga1]; exact Ae h
  ·refine Aa (L3.here ?_)
   rw [if_neg (by decide)]
   refine Aa (L1.here ?_)
   dsimp only
   refine Aa (L4.here ?_)
   refine Aa (L5.here ?_)
   rw [if_pos (by rfl)]
   rw [kR, ga2]
   exact Ae h
theorem kZ {b : Addr} {more : List (Str × Value)} {Q : Value -> Shared -> Prop} (X : (K w.params).In s.heap) (hb : s.heap.get? b = some (bZ c)) (x : CtA w s.heap c dx []) (hcd : c ≠ d) (hdS : (d == sysModules) = false) (y : s.heap.DictOf (sK w) d more) (hs8 : more.length ≤ 100)
  (hQ : ∀ h', CtA w h' c dx more -> Heap.SameBut c s.heap h' -> Q .none { s with heap := h' }) : wpAny (MK w) A (call (.ref b) [.ref d]) Q E s := by
 refine Bf (codeAny_of_tree ?_)
 show wpAny _ _ (callAny (.ref b) _) _ _ _
 refine nd_load hb ?_
 show wpAny _ _ (checkBoundCall "dict.update" ⟨[.ref c, .ref d], []⟩ >>= fun _ => again (.builtin "dict.update" ⟨[.ref c, .ref d], []⟩) >>= fun x => pure x) _ _ _
 refine Aa (j7 X x (Aa (Ae (Ae ⟨plainId_quiet PySem.F.slot_dict_update.plain _, G0 PySem.F.entry_dict_update ?_⟩))))
 rw [Around.under_plainId PySem.F.slot_dict_update.plain]
 unfold Builtin.«dict.update» Builtin.Dict.selfAndRest
 refine Aa (Aa (cq X x ?_))
 show wpAny _ _ (pure (c, [Value.ref d])) _ _ s
 refine Ae ?_
 show wpAny _ _ (Builtin.Dict.updateFrom "dict.update" c (.ref d) [] .none) _ _ s
 unfold Builtin.Dict.updateFrom
 refine Aa (wpAny_typeOf y.typeIs ?_)
 rw [if_neg (by decide)]
 refine Aa ?_
 unfold Builtin.Dict.merge
 refine Aa ?_
 unfold Builtin.Dict.readDirectly
 refine Aa (wpAny_isInstance y.typeIs isSubtype_dict_dict ?_)
 simp only [Bool.not_true, Al, Be]
 refine Aa (wpAny_specialOf y.typeIs F.slot_dict_iter.lookup (Ae ?_))
 simp only [beq_self_eq_true, if_true]
 refine Aa (Ae ?_)
 refine iK hcd hdS x.dd (DD.of_dict y) hs8 fun h' hd' hs' => ?_
 show wpAny _ _ (Builtin.Dict.addKeywords c [] >>= _) _ _ _
 exact Aa (Ae (Ae (hQ h' (hd'.ct (hs'.extBut _ _ x.ne.symm x.dict) x.nb) hs')))
end
end
section
section
variable {w : World} {A : Around} {E : Value -> Shared -> Prop} {s : Shared} {c dx d : Addr} {kvs : List (Str × Value)}
theorem iF {m : Addr} {Q : Unit -> Shared -> Prop} (hm : s.heap.get? m = some emptyDict) (hd : s.heap.get? d = some emptyDict) (hS : (m == sysModules) = false) (h : Q () s) : wpAny (MK w) A (mergeMapping d (.ref m) true) Q E s := by
 have T : s.TypeIs (.ref m) "dict" := ⟨_, hm, rfl⟩
 unfold mergeMapping
 refine Aa (wpAny_isInstance T isSubtype_dict_dict ?_)
 dsimp only
 rw [if_pos rfl]
 refine Aa (wpAny_specialOf T F.slot_dict_iter.lookup ?_)
 refine Aa (Ae ?_)
 simp only [beq_self_eq_true]
 rw [if_neg (by rw [hS]; exact Gx)]
 refine Aa (Dj hd rfl ?_)
 rw [if_pos (by rfl)]
 refine Aa (Dj hm rfl ?_)
 simp only [List.forIn_toArray, List.forIn_nil]
 refine Aa (Ae ?_)
 refine Aa (Dj hm rfl ?_)
 refine Aa (wpAny_dictEpoch hm rfl ?_)
 rw [show List.range (#[] : Array DictEntry).size = [] from rfl, List.forIn_nil]
 exact Aa (Ae (Ae h))
theorem ky {f : Value} {x : Sem Value} {Q : Addr -> Shared -> Prop}
  (h : wpAny (MK w) A x (fun v s_1 => ∃ m, v = .ref m ∧ s_1.heap.get? m = some emptyDict ∧ (m == sysModules) = false ∧ s_1.heap.get? s.heap.objs.size = some emptyDict ∧ Q s.heap.objs.size s_1) E { s with heap := s.heap.push emptyDict }) :
  wpAny (MK w) A (mergedKeywords f [(none, x)]) Q E s := by
 unfold mergedKeywords
 refine Aa (wpAny_alloc ?_)
 refine Aa (At ?_)
 dsimp only
 refine Aa ?_
 rw [List.forIn_cons]
 refine Aa ?_
 dsimp only
 rw [if_pos (show ([] : List (Str × Sem Value)).isEmpty = true from rfl)]
 refine Aa (Ae ?_)
 refine Aa (Aj h (fun v s_1 h_1 => ?_) fun _ _ z => z)
 refine gb h_1 ?_
 clear h_1
 rintro m rfl hm hS hd hq
 refine Aa (wpAny_onRaise (At ?_))
 refine wpAny_tryCatch (wpAny_onRaise (iF hm hd hS ?_))
 refine Ae ?_
 dsimp only
 rw [List.forIn_nil]
 refine Ae ?_
 rw [if_pos (show ([] : List (Str × Sem Value)).isEmpty = true from rfl)]
 refine Ae ?_
 exact Ae hq
theorem fX {f : Value} {m : Addr} {Q : List (Str × Value) -> Shared -> Prop} (hm : s.heap.get? m = some emptyDict) (h : Q [] s) : wpAny (MK w) A (keywordsIn f m) Q E s := by
 unfold keywordsIn
 refine Aa (Dj hm rfl ?_)
 rw [List.forIn_toArray, List.forIn_nil]
 exact Aa (Ae (Ae h))
theorem nU {f : Value} {x : Sem Value} {e : Sem Value} {Q : Args -> Shared -> Prop}
  (h : wpAny (MK w) A e (fun v s_1 => wpAny (MK w) A x (fun u s_2 => ∃ m, u = .ref m ∧ s_2.heap.get? m = some emptyDict ∧ (m == sysModules) = false ∧ s_2.heap.get? s_1.heap.objs.size = some emptyDict ∧ Q ⟨[v], []⟩ s_2) E { s_1 with heap := s_1.heap.push emptyDict }) E s) :
  wpAny (MK w) A (evalArgs f true [(false, e)] [(none, x)]) Q E s := by
 unfold evalArgs
 refine Aa (Aa (Aj h (fun v s_1 h_1 => ?_) fun _ _ z => z))
 simp only [Al, Be]
 refine Aa (Ae ?_)
 refine Aa (At (Ae ?_))
 refine Ae ?_
 refine Aa (Ae ?_)
 refine At ?_
 rw [if_neg (show ¬ (([((none : Option Str), x)]).all (·.1.isSome) = true) by simp)]
 refine Aa (ky (Aj h_1 (fun u s_2 h_2 => ?_) fun _ _ z => z))
 refine gb h_2 ?_
 clear h_2
 rintro m rfl hm hS hd hq
 refine ⟨m, rfl, hm, hS, hd, ?_⟩
 refine Aa (Ae ?_)
 exact Aa (At (fX hd (Ae hq)))
end
section
variable {w : World} {A : Around} {E : Value -> Shared -> Prop} {s : Shared} {env : Env} {Q : Value -> Shared -> Prop}
theorem g0 {o : Expr} {name : Str} {apos pos : Pos} {args : List Expr} {kws : List Keyword}
  (h : wpAny (MK w) A (eval o env) (fun ov s_1 => wpAny (MK w) A (getAttr ov name true) (fun f s_2 => wpAny (MK w) A (callWith pos f [] (backTo pos (starEach args env)) (backToKw pos (keywordEach kws env))) Q E s_2) E s_1) E s)
  (he : eval (.Call (.Attribute o name apos) args kws pos) env = (do
   let ov <- eval o env
   standAt apos.atName
   let (f, first) <- holding [ov] (do pure (<- getAttr ov name true, []))
   callWith pos f first (backTo pos (starEach args env)) (backToKw pos (keywordEach kws env))) := by rfl) :
  wpAny (MK w) A (eval (.Call (.Attribute o name apos) args kws pos) env) Q E s := by
 rw [he]
 refine Aa (Aj h (fun ov s_1 h_1 => Aa (Bz (Aa (At (Aa (Aj h_1 (fun f s_2 h_2 => Ae ?_) fun _ _ x => x)))))) fun _ _ x => x)
 exact h_2
theorem gX {q g : Addr} {self : Value} {pos : Pos} {e ke : Expr} {kw : Keyword} (hf : fnIn (K w.params) g = true)
  (h : wpAny (MK w) A (eval e env) (fun v s_1 => wpAny (MK w) A (eval ke env) (fun u s_2 => ∃ m, u = .ref m ∧ s_2.heap.get? m = some emptyDict ∧ (m == sysModules) = false ∧ s_2.heap.get? s_1.heap.objs.size = some emptyDict ∧ MethP (K w.params) q g self s_2.heap ∧ wpAny (MK w) A (call (.ref q) [v] []) Q E s_2) E { s_1 with heap := s_1.heap.push emptyDict }) E s)
  (he : starEach [e] env = [(false, eval e env)] := by rfl) (hk : keywordEach [kw] env = [(none, eval ke env)] := by rfl) :
  wpAny (MK w) A (callWith pos (.ref q) [] (backTo pos (starEach [e] env)) (backToKw pos (keywordEach [kw] env))) Q E s := by
 rw [he, hk]
 unfold callWith
 refine Aa (At (Aj (nU (e := eval e env) (x := do let v <- eval ke env; standAt pos; pure v) (f := .ref q) (Q := fun a s_1 => MethP (K w.params) q g self s_1.heap ∧ wpAny (MK w) A (call (.ref q) a.pos a.kw) Q E s_1)
  (Aj h (fun v s_1 h_1 => Aa (Aj h_1 (fun u s_2 h_2 => Aa (Bz (Ae h_2))) fun _ _ z => z)) fun _ _ z => z)) (fun a s_1 h_1 => Aa (Bz ?_)) fun _ _ z => z))
 obtain ⟨k, hk', L⟩ := keeps_M hf _ h_1.1
 have hst : ((backTo pos [(false, eval e env)]).any (·.1) || (backToKw pos [((none : Option Str), eval ke env)]).any (·.1.isNone)) = true := rfl
 simp only [hst]
 refine Aa (L.here ?_)
 have tail : ∀ {t : Sem Value}, wpAny (MK w) A t Q E s_1 -> wpAny (MK w) A (t >>= fun r => holding [r] point >>= fun _ => pure r) Q E s_1 :=
  fun ht => Aa (Aj ht (fun r s_2 hr => Aa (At (wpAny_point (Ae hr)))) fun _ _ x => x)
 have marked (mk : Value) : wpAny (MK w) A (callMarked mk (.ref q) ([] ++ a.pos) a.kw) Q E s_1 := by unfold callMarked; exact Calls.wpAny_keep h_1.2
 rcases hk' with rfl | rfl | rfl <;> dsimp only <;> first | exact tail (marked _) | exact tail (wpAny_operating h_1.2)
end
end
end Mine
end
section
open PySem PySem.W PyProof.Rows PySem.Calls PySem.Spec
namespace Mine
section
abbrev nH : FuncData := fd (inC 44 0) "__init__" "Counter.__init__" 3 [((q "__class__"), 874)] (.ref 879) .none .none (.str (q "cpy313.collections") 1450) none (.ref 886) (.ref 880) 0
abbrev jl : FuncData := fd (inC 44 6) "update" "Counter.update" 3 [((q "__class__"), 874)] (.ref 928) .none .none (.str (q "cpy313.collections") 1450) none (.ref 935) (.ref 929) 0
abbrev nG : FuncData := fd (inC 44 7) "subtract" "Counter.subtract" 3 [] (.ref 937) .none .none (.str (q "cpy313.collections") 1450) none (.ref 943) .none 0
abbrev uu : FuncData := fd (stA 4) "_count_elements" "_count_elements" 3 [] .none .none .none (.str (q "cpy313.collections") 392) none (.ref 66) .none 0
def CtI (w : World) (h : Heap) (c dx : Addr) (kvs : List (Str × Int)) : Prop := ∃ vs, CtA w h c dx vs ∧ Rel iOf vs kvs
def KC (c : Addr) (h h' : Heap) : Prop := ∀ b o, b ≠ c -> h.get? b = some o -> h'.get? b = some o
theorem KC.trans {c : Addr} {x y z : Heap} (h : KC c x y) (k : KC c y z) : KC c x z := fun b o n e => k b o n (h b o n e)
theorem Ext.kc {c : Addr} {h h' : Heap} (x : Ext h h') : KC c h h' := fun b o _ e => x b o e
theorem CtI.at {w : World} {h h' : Heap} {c dx : Addr} {kvs : List (Str × Int)} (x : CtI w h c dx kvs) (e1 : ∀ o, h.get? c = some o -> h'.get? c = some o) (e2 : ∀ o, h.get? dx = some o -> h'.get? dx = some o) : CtI w h' c dx kvs := let ⟨vs, a, r⟩ := x; ⟨vs, a.at e1 e2, r⟩
theorem CtI.ext {w : World} {h h' : Heap} {c dx : Addr} {kvs : List (Str × Int)} (x : CtI w h c dx kvs) (e : Ext h h') : CtI w h' c dx kvs := x.at (fun o => e c o) fun o => e dx o
theorem CtI.ex {w : World} {h : Heap} {c dx : Addr} {kvs : List (Str × Int)} (x : CtI w h c dx kvs) : h.get? c ≠ none ∧ h.get? dx ≠ none := by
 refine ag x fun vs a _ => ?_
 clear x
 refine aG a.obj fun es ep ho _ => ?_
 exact ⟨by rw [ho]; simp, by rw [a.dict]; simp⟩
def cK (kvs : List (Str × Int)) (y : Str) (n : Int) : List (Str × Int) := put kvs y ((got kvs y).getD 0 + n)
theorem lY {w : World} {h : Heap} {d : Addr} (hk : h.get? d = some emptyDict) : h.DictOf (sK w) d [] := ⟨_, #[], 0, hk, ⟨rfl, rfl, rfl⟩, rfl, fun _ he => by simp at he, Pairs.nil, List.nodup_nil⟩
theorem fy {w : World} {k : Str} {v : Value} (h : (sK w).is k v = true) : ∃ t, v = .str k t := by
 have h : Value.isStrOf k v = true := h
 refine ah (Value.isStrOf_shape h) ?_
 rintro t rfl
 exact ⟨t, rfl⟩
section
variable {w : World} {A : Around} {E : Value -> Shared -> Prop} {s : Shared} {c dx : Addr} {kvs : List (Str × Int)}
theorem dD {env : Env} {L kd : Addr} {m : Str -> Option Value} {p pos : Pos} {body : List Stmt} {Q : Flow -> Shared -> Prop} (n : s.heap.Ns L m) (hv : m (q "kwds") = some (.ref kd)) (hk : s.heap.get? kd = some emptyDict) (nb : (kd == sysModules) = false) (h : ∀ tk, Q .next { s with toks := tk })
  (hL : env.locals = L := by rfl) (hkk : env.scope.kind = .function := by rfl) (hl : env.kindOf (q "kwds") = some .local := by rfl) : wpAny (MK w) A (exec (.If (.Name (q "kwds") p) body [] pos) env) Q E s := by
 refine B7 (B0 (nmL n hv ?_ hL hkk hl))
 refine wpAny_truthy_dict (knd := sK w) nb (lY hk) (by decide) ?_
 show wpAny _ _ (execs [] env) _ _ _
 exact Ah (h _)
theorem fN {b : Addr} {y : Str} {key : Value} {u : Tok} {Q : Value -> Shared -> Prop} (X : (K w.params).In s.heap) (hb : s.heap.get? b = some (aQ c)) (hkey : (sK w).is y key = true) (x : CtI w s.heap c dx kvs)
  (hQ : ∀ t tk, Q (.int ((got kvs y).getD 0) t) { s with toks := tk }) : wpAny (MK w) A (call (.ref b) [key, .int 0 u] []) Q E s := by
 refine ag x fun vs a r => ?_
 clear x
 refine ju X hb hkey a ?_
 have e := r.got (x := y)
 cases hv : valueAt vs y with
 | none =>
  rw [hv] at e
  cases hg : got kvs y with
  | none => rw [hg] at hQ; exact hQ _ _
  | some i => rw [hg] at e; cases e
 | some v =>
  rw [hv] at e
  cases hg : got kvs y with
  | none => rw [hg] at e; cases e
  | some i =>
   rw [hg] at e hQ
   refine ah (aF (Bk e)) ?_
   rintro t rfl
   exact hQ _ _
theorem gU {y : Str} {key : Value} {i : Int} {t : Tok} {Q : Unit -> Shared -> Prop} (X : (K w.params).In s.heap) (hkey : (sK w).is y key = true) (x : CtI w s.heap c dx kvs) (hlen : kvs.length ≤ 1000)
  (hQ : ∀ h' tk, CtI w h' c dx (put kvs y i) -> Heap.SameBut c s.heap h' -> Q () { s with heap := h', toks := tk }) : wpAny (MK w) A (setItem (.ref c) key (.int i t)) Q E s := by
 refine ag x fun vs a r => ?_
 clear x
 have hl := congrArg List.length r.keys
 simp only [Ai] at hl
 exact jq X hkey a (fun h' a' s' => hQ h' _ ⟨_, a', Rel.put (k := iOf) (v := .int i t) (b := i) rfl r⟩ s') (by rw [Az]; exact sN hlen hl)
theorem pp {k : Nat} {g : Heap} {l : Addr} {y : Str} {Q : Value -> Shared -> Prop} (R : ak A (k + 4)) (G : Gr w g) (O : Ext g s.heap) (gc : g.get? c = none) (x : CtI w s.heap c dx kvs) (hl : IsL sOf s.heap l [y]) (hlen : kvs.length ≤ 1000)
  (hQ : ∀ h' tk', CtI w h' c dx (cK kvs y 1) -> KC c s.heap h' -> Q .none { s with heap := h', toks := tk' }) : wpAny (MK w) A (call (.ref 67) [.ref c, .ref l]) Q E s := by
 refine dP (binds := [(q "mapping", .ref c), (q "iterable", .ref l)]) (fd := uu) R (G.ext O) rfl rfl rfl rfl (Dy rfl) (by decide) rfl ?_
 intro h1 n1 k1
 have fL := ae s.heap
 generalize hLs : s.heap.objs.size = L at *
 have hR : ak (A.deeper (callEnv uu L 67)) (k + 3) := R.deeper _
 have O1 := Ext.trans O k1
 have x1 := x.ext k1
 have cL : c ≠ L := fun e => x.ex.1 (by rw [e]; exact fL)
 have dL : dx ≠ L := fun e => x.ex.2 (by rw [e]; exact fL)
 have gL : g.get? L = none := ap O fL
 refine ad ?_
 intro Qb
 refine Ab ?_
 refine ad ?_
 intro Qb
 refine Aq ?_
 refine ad ?_
 intro Qb
 refine Bm ?_
 refine nmL n1 rfl ?_
 refine ag (id x1) fun vs1 a1 r1 => ?_
 refine js (G.ext O1).K a1 ?_
 have k2 : Ext h1 (h1.push (aQ c)) := ac _ _
 have b2 : (h1.push (aQ c)).get? h1.objs.size = some (aQ c) := Heap.get?_push_size _ rfl
 have fb := ae h1
 dsimp only
 show wpAny _ _ (storeName _ _ _) _ _ { s with heap := h1.push (aQ c), toks := _ }
 generalize h1.push (aQ c) = h2 at *
 generalize h1.objs.size = b at *
 have bL : b ≠ L := fun e => by obtain ⟨o, _, _, ho, _⟩ := n1; rw [<- e, fb] at ho; cases ho
 have bc : b ≠ c := fun e => x1.ex.1 (e ▸ fb)
 have sb : s.heap.get? b = none := ap k1 fb
 refine stL (n1.keeps k2) fun h3 n3 s3 => ?_
 have k3 : Ext s.heap h3 := aA (Ext.trans k1 k2) s3 fL
 have O3 := Ext.trans O k3
 have x3 := x.ext k3
 have b3 := s3.extBut _ _ bL b2
 refine ag (hl.ext k3) fun items p3 qi => ?_
 have lc : l ≠ c := fun e => by
  refine ah p3 fun n p => ?_
  clear p3
  refine ag x3 fun vs a _ => ?_
  clear x3
  refine aG a.obj fun es ep ho _ => ?_
  rw [<- e, p] at ho; cases ho
 refine ad ?_
 intro Qb
 refine Ab ?_
 refine ad ?_
 intro Qb
 refine FOR (k := sOf) ?_
 refine nmL n3 rfl ?_
 refine ad ?_
 intro Qb
 refine Aj (aL hR.h p3.isList qi) ?_ (fun _ _ e => e)
 intro it s_2 h_2
 refine EI2 [l] [y] ⟨h_2, ?_⟩
 intro fp wr hfp hfs hwr
 refine cB h_2 ?_
 clear h_2
 rintro _ _ _ _ _ _ rfl _ _ _ _ _ _ _ Z33
 refine aG Z33 ?_
 clear Z33
 rintro h4 tk4 rfl k4
 dsimp only at k4 hfs hfp hwr ⊢
 have wn : ∀ z ∈ wr, h3.get? z = none := fun z hz => (hwr z hz).2
 have lL : l ≠ L := fun e => by
  refine ah p3 fun n p => ?_
  clear p3
  refine jH n3 fun o' es ep ho' hd' _ => ?_
  clear n3
  rw [<- e, p] at ho'
  cases ho'
  cases hd'
 have Lfp : L ∉ fp := fun hz => (hfp L hz).elim (fun q => lL (Ac.mp q).symm) fun q => by
  refine mB n3 fun o _ _ ho _ => ?_
  clear n3
  rw [show h3.get? L = none from q] at ho; cases ho
 have cfp : c ∉ fp := fun hz => (hfp c hz).elim (fun e => lc (Ac.mp e).symm) fun e => x3.ex.1 e
 have st : ∀ z o, h3.get? z = some o -> z ∉ wr := fun z o e hz => by rw [wn z hz] at e; cases e
 refine ⟨fun i h => CtI w h c dx (if i = 0 then kvs else cK kvs y 1) ∧ KC c s.heap h ∧ Ext g h ∧ h.get? b = some (aQ c) ∧ ∃ m, h.Ns L m ∧ m (q "mapping") = some (.ref c) ∧ m (q "mapping_get") = some (.ref b), ?_, ?_, ?_, ?_⟩
 ·exact ⟨x3.ext k4, Ext.kc (Ext.trans k3 k4), Ext.trans O3 k4, k4 _ _ b3, _, n3.keeps k4, rfl, rfl⟩
 ·intro i h h' X1 hk
  refine ce X1 fun c1 c2 c3 c4 Z34 => ?_
  clear X1
  refine aZ Z34 fun m c5 c6 c7 => ?_
  clear Z34
  refine ⟨c1.at (fun o e => hk c o (fun hz => x3.ex.1 (wn c hz)) e) (fun o e => hk dx o (fun hz => x3.ex.2 (wn dx hz)) e), fun z o hz e => hk z o (st z o (k3 z o e)) (c2 z o hz e), fun z o e => hk z o (st z o (O3 z o e)) (c3 z o e), hk b _ (st b _ b3) c4, m, c5.at' fun o e => hk L o (fun hz => ?_) e, c6, c7⟩
  refine mB n3 fun o _ _ ho _ => ?_
  clear n3
  exact st L o ho hz
 ·intro i v y' s' E' hc hv X2 hzl X3
  refine aB X2 ?_
  clear X2
  rintro h' tk' rfl
  refine ce X3 fun c1 c2 c3 c4 Z35 => ?_
  clear X3
  refine aZ Z35 fun m c5 c6 c7 => ?_
  clear Z35
  try dsimp only
  have hi0 : i = 0 ∧ y' = y := by
   cases i with
   | zero => simpa using hc.symm
   | succ n => simp at hc
  refine ao hi0 ?_
  clear hi0
  rintro rfl rfl
  rw [if_pos rfl] at c1
  refine ah (ai hv) ?_
  rintro ty rfl
  refine Ae ?_
  refine Ay ?_
  refine stL c5 fun h5 n5 s5 => ?_
  have x5 := c1.at (fun o => s5.extBut _ o cL) (fun o => s5.extBut _ o dL)
  have O5 : Ext g h5 := fun z o e => s5.extBut z o (fun q => by rw [q, gL] at e; cases e) (c3 z o e)
  have b5 := s5.extBut _ _ bL c4
  refine ad ?_
  intro Qb
  refine Ab ?_
  refine Ga ?_
  refine ad ?_
  intro Qb
  refine Bg ?_
  refine ad ?_
  intro Qb
  refine Dn ?_
  refine nmL n5 c7 ?_
  refine cJ (c := c) ?_
  refine Ak ?_
  refine nmL n5 rfl ?_
  refine Ak ?_
  refine Av ?_
  refine An ⟨b5, ?_⟩
  refine fN (G.ext O5).K b5 (aM y' ty) x5 ?_
  intro t6 tk6
  refine Av ?_
  refine P.add_int ?_
  refine nmL n5 c6 ?_
  refine nmL n5 rfl ?_
  refine gU (s := { s with heap := h5, toks := _ }) (G.ext O5).K (aM y' ty) x5 hlen ?_
  intro h6 tk7 x6 s6
  try dsimp only
  refine Ah ?_
  refine ⟨Lk.of, ⟨by rw [if_neg (by simp)]; exact x6, fun z o hz e => ?_, fun z o e => s6.extBut z o (fun q => by rw [q, gc] at e; cases e) (O5 z o e), s6.extBut _ _ bc b5, _, n5.sameBut s6 (Ne.symm cL), c6, c7⟩, fun z hz o e => s6.extBut z o (fun q => cfp (q ▸ hz)) (s5.extBut z o (fun q => Lfp (q ▸ hz)) e)⟩
  exact s6.extBut z o hz (s5.extBut z o (fun q => by rw [q, fL] at e; cases e) (c2 z o hz e))
 ·intro s' X4 hzl X5
  refine aB X4 ?_
  clear X4
  rintro h' tk' rfl
  refine ce X5 fun c1 c2 c3 c4 Z36 => ?_
  clear X5
  refine aZ Z36 fun m c5 c6 c7 => ?_
  clear Z36
  try dsimp only
  refine Ah ?_
  exact hQ _ _ c1 c2
end
end
section
theorem iD {w : World} {h : Heap} {d : Addr} {y : Str} {n : Int} (x : IsD w iOf h d [(y, n)]) : ∃ t, h.DictOf (sK w) d [(y, .int n t)] := by
 refine ag x fun vs a r => ?_
 clear x
 have hk := r.keys
 cases vs with
 | nil => cases hk
 | cons p vs =>
  cases vs with
  | cons p' vs => have := congrArg List.length hk; simp at this
  | nil =>
   have h1 : p.1 = y := by simpa using hk
   have h2 : iOf p.2 = some n := by
    have h3 := congrArg List.head? r
    simp only [A2, Gv, List.head?_cons, Option.some.injEq, Prod.mk.injEq] at h3
    exact h3.2
   refine ah (aF h2) fun t ht => ?_
   obtain ⟨k, v⟩ := p
   dsimp only at h1 ht
   subst h1 ht
   exact ⟨t, a⟩
theorem pj {M : Model} {A : Around} {E : Value -> Shared -> Prop} {s : Shared} {w : World} (G : Gr w s.heap) (c it : Value) {Q : List (Str × Value) -> Shared -> Prop}
  (h : wpAny M A (alloc emptyDict) (fun d s' => Q [(q "self", c), (q "iterable", it), (q "kwds", .ref d)] s') E s) : wpAny M A (bindArgs jl ⟨[c, it], []⟩) Q E s := by
 show wpAny M A (seqItems? jl.defaults >>= _) Q E s
 refine Aa (wpAny_seqItems (G.K 928 _ rfl) rfl ?_)
 refine aO rfl ?_
 refine aO rfl ?_
 refine Aa (m := forIn _ _ _) (Ae ?_)
 refine Aa (m := forIn _ _ _) (Ae ?_)
 refine aO rfl ?_
 refine dS (fun hh => Nat.not_lt_zero _ hh) ?_
 refine Aa (Aj h (fun d s' hq => ?_) fun _ _ z => z)
 refine Aa (m := forIn _ _ _) (Ae ?_)
 exact Ae hq
theorem vU {M : Model} {A : Around} {E : Value -> Shared -> Prop} {s : Shared} {w : World} (G : Gr w s.heap) (c it : Value) {Q : List (Str × Value) -> Shared -> Prop}
  (h : wpAny M A (alloc emptyDict) (fun d s' => Q [(q "self", c), (q "iterable", it), (q "kwds", .ref d)] s') E s) : wpAny M A (bindArgs nG ⟨[c, it], []⟩) Q E s := by
 show wpAny M A (seqItems? nG.defaults >>= _) Q E s
 refine Aa (wpAny_seqItems (G.K 937 _ rfl) rfl ?_)
 refine aO rfl ?_
 refine aO rfl ?_
 refine Aa (m := forIn _ _ _) (Ae ?_)
 refine Aa (m := forIn _ _ _) (Ae ?_)
 refine aO rfl ?_
 refine dS (fun hh => Nat.not_lt_zero _ hh) ?_
 refine Aa (Aj h (fun d s' hq => ?_) fun _ _ z => z)
 refine Aa (m := forIn _ _ _) (Ae ?_)
 exact Ae hq
theorem vW {M : Model} {A : Around} {E : Value -> Shared -> Prop} {s : Shared} {w : World} (G : Gr w s.heap) (c : Value) {Q : List (Str × Value) -> Shared -> Prop}
  (h : wpAny M A (alloc emptyDict) (fun d s' => Q [(q "self", c), (q "iterable", .none), (q "kwds", .ref d)] s') E s) : wpAny M A (bindArgs nH ⟨[c], []⟩) Q E s := by
 show wpAny M A (seqItems? nH.defaults >>= _) Q E s
 refine Aa (wpAny_seqItems (G.K 879 _ rfl) rfl ?_)
 refine aO rfl ?_
 refine aO rfl ?_
 refine Aa (m := forIn _ _ _) (Ae ?_)
 refine Aa (m := forIn _ _ _) (Ae ?_)
 refine aO rfl ?_
 refine dS (fun hh => Nat.not_lt_zero _ hh) ?_
 refine Aa (Aj h (fun d s' hq => ?_) fun _ _ z => z)
 refine Aa (m := forIn _ _ _) (Ae ?_)
 exact Ae hq
section
variable {w : World} {A : Around} {E : Value -> Shared -> Prop} {s : Shared} {c dx : Addr} {kvs : List (Str × Int)}
theorem mL {RR : Result -> Shared -> Prop} {k : Nat} (R : ak A (k + 2)) (G : Gr w s.heap) (hQ : ∀ h' tk', Ext s.heap h' -> RR (.ok (.ret .none)) { s with heap := h', toks := tk' }) :
  codeAny (MK w) A (.call (.ref 936) ⟨[.ref c, .none], []⟩) RR s := by
 refine jo (binds := fun d => [(q "self", .ref c), (q "iterable", .none), (q "kwds", d)]) (fd := jl) R G rfl rfl rfl rfl (fun _ _ _ _ z => pj G _ _ z) (by decide) (fun _ => rfl) ?_
 intro h1 tk1 n1 k1 e1
 have nb := G.notMods (Aw s.heap.objs.size)
 refine Ab ?_
 refine ad ?_
 intro Qb
 refine B7 ?_
 refine Ao ?_
 refine nmL n1 rfl ?_
 refine Bs ?_
 refine wpAny_isNot_self rfl ?_
 refine Am ?_
 simp only [Al, Be]
 refine Ah ?_
 refine Ab ?_
 refine dD n1 rfl e1 nb ?_
 intro tk
 refine Ah ?_
 exact hQ _ _ k1
theorem mM {RR : Result -> Shared -> Prop} {k : Nat} {g : Heap} {l : Addr} {y : Str} (R : ak A (k + 10)) (G : Gr w g) (O : Ext g s.heap) (gc : g.get? c = none) (x : CtI w s.heap c dx kvs) (hl : IsL sOf s.heap l [y]) (hlen : kvs.length ≤ 1000)
  (hQ : ∀ h' tk', CtI w h' c dx (cK kvs y 1) -> KC c s.heap h' -> RR (.ok (.ret .none)) { s with heap := h', toks := tk' }) :
  codeAny (MK w) A (.call (.ref 936) ⟨[.ref c, .ref l], []⟩) RR s := by
 refine jo (binds := fun d => [(q "self", .ref c), (q "iterable", .ref l), (q "kwds", d)]) (fd := jl) R (G.ext O) rfl rfl rfl rfl (fun _ _ _ _ z => pj (G.ext O) _ _ z) (by decide) (fun _ => rfl) ?_
 intro h1 tk1 n1 k1 e1
 have nb := (G.ext O).notMods (Aw s.heap.objs.size)
 have hR : ak (A.deeper (callEnv jl (s.heap.objs.size + 1) 936)) (k + 9) := R.deeper _
 have O1 := Ext.trans O k1
 have fk := ae s.heap
 have fL : s.heap.get? (s.heap.objs.size + 1) = none := av (B2 _)
 refine ad ?_
 intro Qb
 refine Ab ?_
 refine ad ?_
 intro Qb
 refine B7 ?_
 refine Ao ?_
 refine nmL n1 rfl ?_
 refine Bs ?_
 refine wpAny_isNot_other rfl (by simp) ?_
 refine Am ?_
 simp only [if_true]
 refine ad ?_
 intro Qb
 refine Ab ?_
 refine ad ?_
 intro Qb
 refine B7 ?_
 refine B0 ?_
 refine bE (G.ext O1) rfl rfl ?_
 refine Ak ?_
 refine nmL n1 rfl ?_
 refine Ak ?_
 refine nmG (G.ext O1) rfl ?_
 refine An ?_
 refine ag (hl.ext k1) ?_
 rintro items ⟨nn, p1⟩ qi
 refine oW (k := k + 1) hR (G.ext O1) Kind2.l p1 rfl ?_
 intro h2 tk2 k2
 dsimp only at k2
 refine Am ?_
 simp only [Al, Be]
 have n2 := n1.keeps k2
 have O2 := Ext.trans O1 k2
 refine ad ?_
 intro Qb
 refine Ab ?_
 refine Gm ?_
 refine ad ?_
 intro Qb
 refine eI (G.ext O2) rfl rfl ?_
 refine Ak ?_
 refine nmL n2 rfl ?_
 refine Ak ?_
 refine nmL n2 rfl ?_
 refine An ⟨Ext.refl _, ?_⟩
 have k12 := Ext.trans k1 k2
 refine pp (s := { s with heap := h2, toks := _ }) (k := k + 5) hR G O2 gc (x.ext k12) (hl.ext k12) hlen ?_
 intro h3 tk3 x3 kc3
 dsimp only at kc3
 have cL : s.heap.objs.size + 1 ≠ c := fun e => x.ex.1 (e ▸ fL)
 have ck : s.heap.objs.size ≠ c := fun e => x.ex.1 (e ▸ fk)
 refine Ah ?_
 refine Ah ?_
 refine Ab ?_
 refine dD (n2.at' fun o e => kc3 _ o cL e) rfl (kc3 _ _ ck (k2 _ _ e1)) nb ?_
 intro tk
 refine Ah ?_
 exact hQ _ _ x3 ((Ext.kc k12).trans kc3)
end
end
section
section
variable {w : World} {A : Around} {E : Value -> Shared -> Prop} {s : Shared} {env : Env}
theorem iO {ob : Obj} {b : Addr} {pos : Pos} {e : Expr} {rest : List Expr} {Q : Value -> Shared -> Prop} (hkeep : ∀ h : Heap, h.get? b = some ob -> Looks (MK w) h (keeperOf (.ref b)) .machine)
  (h : wpAny (MK w) A (spliced (backTo pos (starEach (e :: rest) env))) (fun vs s_1 => s_1.heap.get? b = some ob ∧ wpAny (MK w) A (call (.ref b) vs []) Q E s_1) E s)
  (he : starEach (e :: rest) env = (false, eval e env) :: starEach rest env := by rfl) (hplain : (backTo pos (starEach rest env)).any (·.1) = false := by rfl) :
  wpAny (MK w) A (callWith pos (.ref b) [] (backTo pos (starEach (e :: rest) env)) []) Q E s := by
 rw [he] at h ⊢
 have hp : ((backTo pos ((false, eval e env) :: starEach rest env)).any (·.1) || ([] : List (Option Str × Sem Value)).any (·.1.isNone)) = false := by
  show ((false || (backTo pos (starEach rest env)).any (·.1)) || false) = false
  rw [hplain]; rfl
 unfold callWith
 refine Aa (At (Aj (evalArgs_plain (f := .ref b) (Q := fun a s_1 => a.kw = [] ∧ s_1.heap.get? b = some ob ∧ wpAny (MK w) A (call (.ref b) a.pos []) Q E s_1) (Aj h (fun vs s_1 h_1 => ⟨rfl, h_1⟩) fun _ _ z => z)) (fun a s_1 h_1 => Aa (Bz ?_)) fun _ _ z => z))
 refine cG h_1 fun hk hm h_1 => ?_
 have L := hkeep _ hm
 simp only [hp]
 refine Aa (L.here ?_)
 rw [hk]
 exact Aa (Aj h_1 (fun r s_2 hr => Aa (At (wpAny_point (Ae hr)))) fun _ _ y => y)
theorem gV {ob : Obj} {b : Addr} {pos : Pos} {Q : Value -> Shared -> Prop} (hkeep : Looks (MK w) s.heap (keeperOf (.ref b)) .machine) (h : wpAny (MK w) A (call (.ref b) [] []) Q E s) : wpAny (MK w) A (callWith pos (.ref b) [] (backTo pos (starEach [] env)) []) Q E s := by
 unfold callWith
 refine Aa (At (evalArgs_nil3 (Aa (Bz ?_))))
 refine Aa (hkeep.here ?_)
 exact Aa (Aj h (fun r s_2 hr => Aa (At (wpAny_point (Ae hr)))) fun _ _ y => y)
theorem kY {c b : Addr} {h : Heap} (hm : h.get? b = some (bZ c)) : Looks (MK w) h (keeperOf (.ref b)) .machine := by
 refine (Gs (part := none) hm).andThen ?_
 exact .now
theorem kI {c b : Addr} {h : Heap} (hm : h.get? b = some (bz c)) : Looks (MK w) h (keeperOf (.ref b)) .machine := by
 refine (Gs (part := none) hm).andThen ?_
 exact .now
end
section
variable {w : World} {A : Around} {E : Value -> Shared -> Prop} {s : Shared} {c dx : Addr} {kvs : List (Str × Int)}
theorem uk {RR : Result -> Shared -> Prop} {k : Nat} (R : ak A (k + 6)) (G : Gr w s.heap) (x : CtA w s.heap c dx []) (hQ : ∀ h' tk', Ext s.heap h' -> RR (.ok (.ret .none)) { s with heap := h', toks := tk' }) :
  codeAny (MK w) A (.call (.ref 887) ⟨[.ref c], []⟩) RR s := by
 refine iJ (binds := fun d => [(q "self", .ref c), (q "iterable", .none), (q "kwds", d)]) (fd := nH) R G rfl rfl rfl rfl (fun _ _ _ _ z => vW G _ z) (by decide) (fun _ => rfl) ?_
 intro h1 tk1 n1 k1 e1
 have nb := G.notMods (Aw s.heap.objs.size)
 have hR : ak (A.deeper (callEnv nH (s.heap.objs.size + 1) 887)) (k + 5) := R.deeper _
 have G1 := G.ext k1
 have x1 := x.ext k1
 refine ks_wpAt_execs_cons ?_
 refine ks_wpAt_Expr_any ?_
 refine ks_wpAt_MethodCall (pl := _) ?_
 refine eT (c := c) (dx := dx) (kvs := []) (o := o887 w.params) (cd := o886 w.params) G1 x1 rfl rfl rfl n1 rfl rfl rfl rfl rfl (by kernel_rfl) (by decide) rfl rfl rfl rfl rfl rfl rfl ?_
 intro so h2 k2 hso fso
 dsimp only at k2 hso fso
 have G2 := G1.ext k2
 have x2 := x1.ext k2
 refine lh G2.K x2 hso ?_
 have k3 : Ext h2 (h2.push (bz c)) := ac _ _
 have b3 : (h2.push (bz c)).get? h2.objs.size = some (bz c) := Heap.get?_push_size _ rfl
 show wpAny _ _ (callWith _ (.ref h2.objs.size) [] _ _) _ _ { s with heap := h2.push (bz c), toks := _ }
 generalize h2.push (bz c) = h3 at *
 have G3 := G2.ext k3
 have x3 := x2.ext k3
 refine gV (ob := bz c) (kI b3) ?_
 refine kJ G3.K b3 x3 ?_
 refine _root_.PySem.wpAt_of_wpAny ?_
 have k13 : Ext h1 h3 := Ext.trans k2 k3
 have n3 := n1.keeps k13
 refine Ab ?_
 refine wpAny_Expr_any ?_
 refine g0 ?_
 refine nmL n3 rfl ?_
 refine nK (f := 936) G3.K x3 rfl rfl ?_
 have k4 : Ext h3 (h3.push (methodObj (.ref 936) (.ref c))) := ac _ _
 have b4 : (h3.push (methodObj (.ref 936) (.ref c))).get? h3.objs.size = some (methodObj (.ref 936) (.ref c)) := Heap.get?_push_size _ rfl
 dsimp only
 show wpAny _ _ (callWith _ (.ref h3.objs.size) [] _ _) _ _ { s with heap := h3.push (methodObj (.ref 936) (.ref c)), toks := _ }
 generalize h3.push (methodObj (.ref 936) (.ref c)) = h4 at *
 generalize h3.objs.size = b at *
 have n4 := n3.keeps k4
 have G4 := G3.ext k4
 refine gX (g := 936) (self := .ref c) rfl ?_
 refine nmL n4 rfl ?_
 have k5 : Ext h4 (h4.push emptyDict) := ac _ _
 have e5 : (h4.push emptyDict).get? h4.objs.size = some emptyDict := Heap.get?_push_size _ rfl
 dsimp only
 generalize h4.push emptyDict = h5 at *
 refine nmL (n4.keeps k5) rfl ?_
 have G5 := G4.ext k5
 refine ⟨_, rfl, k5 _ _ (k4 _ _ (k13 _ _ e1)), nb, e5, ⟨k5 _ _ b4, G5.K⟩, ?_⟩
 refine Bf (method_call (k5 _ _ b4) ?_)
 refine mL (s := { s with heap := h5, toks := _ }) (k := k + 3) hR G5 ?_
 intro h6 tk6 k6
 dsimp only at k6
 refine Ah ?_
 exact hQ _ _ (Ext.trans k1 (Ext.trans k13 (Ext.trans k4 (Ext.trans k5 k6))))
theorem oC {k : Nat} {Q : Value -> Shared -> Prop} (R : ak A (k + 8)) (G : Gr w s.heap) (hQ : ∀ h' tk' c dx, CtI w h' c dx [] -> Ext s.heap h' -> s.heap.get? c = none -> s.heap.get? dx = none -> Q (.ref c) { s with heap := h', toks := tk' }) :
  wpAny (MK w) A (call (.ref 1093) []) Q E s := by
 have nbs := (G.ext (ac s.heap emptyDict)).notMods (Aw _)
 obtain ⟨hh, gg, d, t, os⟩ := s
 dsimp only at nbs
 refine Bf (pA G.K ?_)
 have hE : Ext hh ((hh.push emptyDict).push (fQ hh.objs.size)) := Ext.trans (ac _ _) (ac _ _)
 rw [A4] at nbs
 have x1 : CtA w ((hh.push emptyDict).push (fQ hh.objs.size)) (hh.objs.size + 1) hh.objs.size [] := by
  refine ⟨⟨#[], 0, ?_, fun _ he => by simp at he, Pairs.nil, List.nodup_nil⟩, Heap.get?_push_of_some _ (Heap.get?_push_size _ rfl), nbs⟩
  rw [<- A4 hh emptyDict]; exact Heap.get?_push_size _ rfl
 refine uk (s := ⟨(hh.push emptyDict).push (fQ hh.objs.size), gg, d, t, os⟩) (k := k + 1) (R.under_make 1093 []) (G.ext hE) x1 ?_
 intro h' tk' k'
 dsimp only at k'
 refine ⟨rfl, ?_⟩
 exact hQ h' tk' _ _ ⟨[], x1.ext k', rfl⟩ (Ext.trans hE k') (av (B2 _)) (ae _)
end
end
section
section
variable {w : World} {A : Around} {E : Value -> Shared -> Prop} {s : Shared} {c dx : Addr} {kvs : List (Str × Int)}
theorem CtI.len {h : Heap} (x : CtI w h c dx kvs) : ∃ vs, CtA w h c dx vs ∧ Rel iOf vs kvs ∧ vs.length = kvs.length := by
 refine ag x fun vs a r => ?_
 clear x
 have hl := congrArg List.length r.keys
 simp only [Ai] at hl
 exact ⟨vs, a, r, hl⟩
theorem lj {RR : Result -> Shared -> Prop} {k : Nat} {g : Heap} {d : Addr} {y : Str} {n : Int} (R : ak A (k + 10)) (G : Gr w g) (O : Ext g s.heap) (gc : g.get? c = none) (x : CtI w s.heap c dx kvs) (hd : IsD w iOf s.heap d [(y, n)]) (hdS : (d == sysModules) = false) (hlen : kvs.length ≤ 1000)
  (hQ : ∀ h' tk', CtI w h' c dx (cK kvs y (-n)) -> KC c s.heap h' -> RR (.ok (.ret .none)) { s with heap := h', toks := tk' }) :
  codeAny (MK w) A (.call (.ref 944) ⟨[.ref c, .ref d], []⟩) RR s := by
 refine jo (binds := fun d' => [(q "self", .ref c), (q "iterable", .ref d), (q "kwds", d')]) (fd := nG) R (G.ext O) rfl rfl rfl rfl (fun _ _ _ _ z => vU (G.ext O) _ _ z) (by decide) (fun _ => rfl) ?_
 intro h1 tk1 n1 k1 e1
 try dsimp only
 have nb := (G.ext O).notMods (Aw s.heap.objs.size)
 have hR : ak (A.deeper (callEnv nG (s.heap.objs.size + 1) 944)) (k + 9) := R.deeper _
 have O1 := Ext.trans O k1
 have fk := ae s.heap
 have fL : s.heap.get? (s.heap.objs.size + 1) = none := av (B2 _)
 have cL : c ≠ s.heap.objs.size + 1 := fun e => x.ex.1 (e ▸ fL)
 have dxL : dx ≠ s.heap.objs.size + 1 := fun e => x.ex.2 (e ▸ fL)
 have ck : c ≠ s.heap.objs.size := fun e => x.ex.1 (e ▸ fk)
 have kL : s.heap.objs.size ≠ s.heap.objs.size + 1 := (Nat.succ_ne_self _).symm
 have gL : g.get? (s.heap.objs.size + 1) = none := ap O fL
 refine ah (iD hd) fun tn D0 => ?_
 have D1 := D0.at fun o e => k1 d o e
 have dL : d ≠ s.heap.objs.size + 1 := fun e => by obtain ⟨o, _, _, ho, _⟩ := D0; rw [e, fL] at ho; cases ho
 have dc : d ≠ c := fun e => by
  refine jH D0 ?_
  clear D0
  rintro o es ep ho ⟨hcl, _⟩ _
  refine ag x fun vs a _ => ?_
  clear x
  refine aG a.obj fun es' ep' ho' _ => ?_
  rw [e, ho'] at ho; cases ho; cases hcl
 refine ad ?_
 intro Qb
 refine Ab ?_
 refine ad ?_
 intro Qb
 refine B7 ?_
 refine Ao ?_
 refine nmL n1 rfl ?_
 refine Bs ?_
 refine wpAny_isNot_other rfl (by simp) ?_
 refine Am ?_
 simp only [if_true]
 refine ad ?_
 intro Qb
 refine Ab ?_
 refine ad ?_
 intro Qb
 refine Aq ?_
 refine ad ?_
 intro Qb
 refine Bm ?_
 refine nmL n1 rfl ?_
 refine ag (x.ext k1) fun vs1 a1 r1 => ?_
 refine js (G.ext O1).K a1 ?_
 have k2 : Ext h1 (h1.push (aQ c)) := ac _ _
 have b2 : (h1.push (aQ c)).get? h1.objs.size = some (aQ c) := Heap.get?_push_size _ rfl
 have fb := ae h1
 dsimp only
 show wpAny _ _ (storeName _ _ _) _ _ { s with heap := h1.push (aQ c), toks := _ }
 generalize h1.push (aQ c) = h2 at *
 generalize h1.objs.size = b at *
 have bL : b ≠ s.heap.objs.size + 1 := fun e => by obtain ⟨o, _, _, ho, _⟩ := n1; rw [<- e, fb] at ho; cases ho
 have bc : b ≠ c := fun e => by obtain ⟨es, ep, ho, _⟩ := a1.obj; rw [<- e, fb] at ho; cases ho
 refine stL (n1.keeps k2) fun h3 n3 s3 => ?_
 have k3 : Ext s.heap h3 := aA (Ext.trans k1 k2) s3 fL
 have O3 := Ext.trans O k3
 have x3 := x.ext k3
 have b3 := s3.extBut _ _ bL b2
 have D3 := D0.at fun o e => k3 d o e
 have e3 := s3.extBut _ _ kL (k2 _ _ e1)
 refine ad ?_
 intro Qb
 refine Ab ?_
 refine ad ?_
 intro Qb
 refine B7 ?_
 refine B0 ?_
 refine ad ?_
 intro Qb
 refine bE (G.ext O3) rfl rfl ?_
 refine Ak ?_
 refine nmL n3 rfl ?_
 refine Ak ?_
 refine nmG (s := { s with heap := h3, toks := _ }) (G.ext O3) rfl ?_
 refine An ?_
 have hD3 := D3
 refine jH hD3 ?_
 clear hD3
 rintro od esd epd hod ⟨hcd, _⟩ _
 refine oW (s := { s with heap := h3, toks := _ }) (k := k + 1) hR (G.ext O3) Kind2.d hod hcd ?_
 intro h4 tk4 k4
 dsimp only at k4 ⊢
 refine Am ?_
 simp only [if_true]
 have n4 := n3.keeps k4
 have O4 := Ext.trans O3 k4
 have x4 := x3.ext k4
 have D4 := D3.at fun o e => k4 d o e
 have b4 := k4 _ _ b3
 have e4 := k4 _ _ e3
 have k04 : Ext s.heap h4 := Ext.trans k3 k4
 refine ad ?_
 intro Qb
 refine Ab ?_
 refine uG (d := d) (k := y) (v := .int n tn) hR.h rfl rfl ?_
 refine Bc (pl := _) ?_
 refine nmL n4 rfl ?_
 refine Bi (T := "dict") (id := "dict.items") (s := { s with heap := h4, toks := _ }) D4.typeIs Gq PySem.F.slot_dict_items PySem.F.type_dict_items D4.mapOf.noDict ?_
 refine callWith_method0 ?_
 refine call_meetsIn (s := { s with heap := h4, toks := _ }) PySem.F.slot_dict_items D4.typeIs PySem.F.entry_dict_items (PySem.F.args_dict_items_1 _) (meets_dict_items (sK w) d hdS) ⟨⟨_, D4⟩, ?_⟩
 have k5 : Ext h4 (h4.push { cls := .type "dict_items", data := .fields #[.ref d] }) := ac _ _
 have v5 : (h4.push { cls := .type "dict_items", data := .fields #[.ref d] }).IsItemsView h4.objs.size d := ⟨_, Heap.get?_push_size _ rfl, rfl, rfl⟩
 dsimp only
 show ∃ V ep, _
 generalize h4.push { cls := .type "dict_items", data := .fields #[.ref d] } = h5 at *
 generalize h4.objs.size = V at *
 have n5 := n4.keeps k5
 refine mC (D4.at fun o e => k5 d o e) fun od5 es5 ep5 D5 => ?_
 refine EI2 V ep5 ⟨rfl, v5, ⟨od5, es5, D5.1, D5.2⟩, ?_⟩
 intro h6 key E' k6 hkey
 dsimp only at k6
 refine ah (fy hkey) ?_
 rintro ty rfl
 have n6 := n5.keeps k6
 have L6 : ∀ z, h5.get? z = none -> z ≠ s.heap.objs.size + 1 := fun z hz e => by obtain ⟨o, _, _, ho, _⟩ := n5; rw [<- e, hz] at ho; cases ho
 refine assignInOrder_cons ?_
 refine Ay ?_
 refine stL n6 fun h7 n7 s7 => ?_
 refine assignInOrder_cons ?_
 refine Ay ?_
 refine stL n7 fun h8 n8 s8 => ?_
 refine assignInOrder_nil ?_
 have k06 : Ext s.heap h6 := Ext.trans k04 (Ext.trans k5 k6)
 have k08 : Ext s.heap h8 := aA (aA k06 s7 fL) s8 fL
 have O8 := Ext.trans O k08
 have x8 := x.ext k08
 have b8 := s8.extBut _ _ bL (s7.extBut _ _ bL (k6 _ _ (k5 _ _ b4)))
 have e8 := s8.extBut _ _ kL (s7.extBut _ _ kL (k6 _ _ (k5 _ _ e4)))
 refine ad ?_
 intro Qb
 refine Ab ?_
 refine Ga ?_
 refine ad ?_
 intro Qb
 refine Bg ?_
 refine Dn ?_
 refine nmL n8 rfl ?_
 refine cJ (c := c) ?_
 refine Ak ?_
 refine nmL n8 rfl ?_
 refine Ak ?_
 refine Av ?_
 refine An ⟨b8, ?_⟩
 refine fN (s := { s with heap := h8, toks := _ }) (G.ext O8).K b8 (aM y ty) x8 ?_
 intro t9 tk9
 refine nmL n8 rfl ?_
 refine P.sub_int ?_
 refine nmL n8 rfl ?_
 refine nmL n8 rfl ?_
 refine gU (s := { s with heap := h8, toks := _ }) (G.ext O8).K (aM y ty) x8 hlen ?_
 intro h10 tk10 x10 s10
 try dsimp only
 refine Ah ?_
 have c5 : h5.get? c ≠ none := (x4.ext k5).ex.1
 have kc10 : KC c s.heap h10 := fun z o hz e => s10.extBut z o hz (k08 z o e)
 refine ⟨rfl, Lk.of, fun z o hz e => ?_, ?_, ?_⟩
 ·exact s10.extBut z o (fun q => c5 (q ▸ hz)) (s8.extBut z o (L6 z hz) (s7.extBut z o (L6 z hz) e))
 ·have D8 : h10.get? d = some od5 := s10.extBut _ _ dc (s8.extBut _ _ dL (s7.extBut _ _ dL (k6 _ _ D5.1)))
  exact EI2 od5 es5 ⟨D8, D5.2⟩
 intro h11 tk11 k11
 dsimp only at k11 ⊢
 have s5 : ∀ z, s.heap.get? z ≠ none -> h5.get? z ≠ none := fun z hz e => by
  cases q : s.heap.get? z with
  | none => exact hz q
  | some o => have := Ext.trans k04 k5 z o q; rw [e] at this; cases this
 have n11 := (n8.sameBut s10 (Ne.symm cL)).at' fun o e => k11 _ o (fun z => by obtain ⟨o', _, _, ho, _⟩ := n5; rw [z] at ho; cases ho) e
 have e11 : h11.get? s.heap.objs.size = some emptyDict := k11 _ _ (fun z => by have := k5 _ _ e4; rw [z] at this; cases this) (s10.extBut _ _ (Ne.symm ck) e8)
 refine Ah ?_
 refine Ah ?_
 refine Ab ?_
 refine dD (s := { s with heap := h11, toks := _ }) n11 rfl e11 nb ?_
 intro tk
 refine Ah ?_
 have ee : (got kvs y).getD 0 - n = (got kvs y).getD 0 + -n := Int.sub_eq_add_neg
 rw [ee] at x10
 exact hQ _ _ (x10.at (fun o => k11 _ o (s5 c x.ex.1)) fun o => k11 _ o (s5 dx x.ex.2)) fun z o hz e => k11 z o (s5 z (by rw [e]; simp)) (kc10 z o hz e)
end
end
section
section
variable {w : World} {A : Around} {E : Value -> Shared -> Prop} {s : Shared} {c dx : Addr} {kvs : List (Str × Int)}
theorem mN {RR : Result -> Shared -> Prop} {k : Nat} {g : Heap} {d : Addr} {y : Str} {n : Int} (R : ak A (k + 10)) (G : Gr w g) (O : Ext g s.heap) (gc : g.get? c = none) (x : CtI w s.heap c dx kvs) (hd : IsD w iOf s.heap d [(y, n)]) (hdS : (d == sysModules) = false) (hlen : kvs.length ≤ 1000)
  (hQ : ∀ h' tk', CtI w h' c dx (cK kvs y n) -> KC c s.heap h' -> RR (.ok (.ret .none)) { s with heap := h', toks := tk' }) :
  codeAny (MK w) A (.call (.ref 936) ⟨[.ref c, .ref d], []⟩) RR s := by
 refine iJ (binds := fun d' => [(q "self", .ref c), (q "iterable", .ref d), (q "kwds", d')]) (fd := jl) R (G.ext O) rfl rfl rfl rfl (fun _ _ _ _ z => pj (G.ext O) _ _ z) (by decide) (fun _ => rfl) ?_
 intro h1 tk1 n1 k1 e1
 try dsimp only
 have nb := (G.ext O).notMods (Aw s.heap.objs.size)
 have hR : ak (A.deeper (callEnv jl (s.heap.objs.size + 1) 936)) (k + 9) := R.deeper _
 have O1 := Ext.trans O k1
 have fk := ae s.heap
 have fL : s.heap.get? (s.heap.objs.size + 1) = none := av (B2 _)
 have cL : c ≠ s.heap.objs.size + 1 := fun e => x.ex.1 (e ▸ fL)
 have dxL : dx ≠ s.heap.objs.size + 1 := fun e => x.ex.2 (e ▸ fL)
 have ck : c ≠ s.heap.objs.size := fun e => x.ex.1 (e ▸ fk)
 have kL : s.heap.objs.size ≠ s.heap.objs.size + 1 := (Nat.succ_ne_self _).symm
 have gL : g.get? (s.heap.objs.size + 1) = none := ap O fL
 refine ah (iD hd) fun tn D0 => ?_
 have D1 := D0.at fun o e => k1 d o e
 have dL : d ≠ s.heap.objs.size + 1 := fun e => by obtain ⟨o, _, _, ho, _⟩ := D0; rw [e, fL] at ho; cases ho
 have dc : d ≠ c := fun e => by
  refine jH D0 ?_
  clear D0
  rintro o es ep ho ⟨hcl, _⟩ _
  refine ag x fun vs a _ => ?_
  clear x
  refine aG a.obj fun es' ep' ho' _ => ?_
  rw [e, ho'] at ho; cases ho; cases hcl
 refine ks_wpAt_execs_cons ?_
 refine ks_wpAt_If ?_
 refine _root_.PySem.wpAt_of_wpAny ?_
 refine Ao ?_
 refine nmL n1 rfl ?_
 refine Bs ?_
 refine wpAny_isNot_other rfl (by simp) ?_
 refine Am ?_
 simp only [if_true]
 refine ks_wpAt_execs_cons ?_
 refine ks_wpAt_If ?_
 refine _root_.PySem.wpAt_of_wpAny ?_
 refine B0 ?_
 refine ad ?_
 intro Qb
 refine bE (G.ext O1) rfl rfl ?_
 refine Ak ?_
 refine nmL n1 rfl ?_
 refine Ak ?_
 refine nmG (s := { s with heap := h1, toks := _ }) (G.ext O1) rfl ?_
 refine An ?_
 have hD1 := D1
 refine jH hD1 ?_
 clear hD1
 rintro od esd epd hod ⟨hcd, _⟩ _
 refine oW (s := { s with heap := h1, toks := _ }) (k := k + 1) hR (G.ext O1) Kind2.d hod hcd ?_
 intro ha tka ka
 dsimp only at ka ⊢
 refine Am ?_
 simp only [if_true]
 have na := n1.keeps ka
 have k0a : Ext s.heap ha := Ext.trans k1 ka
 have Oa := Ext.trans O k0a
 have xa := x.ext k0a
 have Da := D0.at fun o e => k0a d o e
 have ea := ka _ _ e1
 clear hod
 refine aZ xa.len fun vsa aa ra hla => ?_
 refine ks_wpAt_execs_cons ?_
 refine ks_wpAt_If ?_
 refine _root_.PySem.wpAt_of_wpAny ?_
 refine B0 ?_
 refine nmL na rfl ?_
 refine kP (s := { s with heap := ha, toks := _ }) (G.ext Oa).K aa ((sO hlen hla)) ?_
 intro tkb
 cases hvs : vsa with
 | cons v0 vr =>
  simp only [List.isEmpty_cons, Bool.not_false, if_true]
  clear hvs
  refine _root_.PySem.wpAt_of_wpAny ?_
  refine ad ?_
  intro Qb
  refine Ab ?_
  refine ad ?_
  intro Qb
  refine Aq ?_
  refine ad ?_
  intro Qb
  refine Bm ?_
  refine nmL na rfl ?_
  refine ag (x.ext k0a) fun vs1 a1 r1 => ?_
  refine js (s := { s with heap := ha, toks := _ }) (G.ext Oa).K a1 ?_
  have k2 : Ext ha (ha.push (aQ c)) := ac _ _
  have b2 : (ha.push (aQ c)).get? ha.objs.size = some (aQ c) := Heap.get?_push_size _ rfl
  have fb := ae ha
  dsimp only
  show wpAny _ _ (storeName _ _ _) _ _ { s with heap := ha.push (aQ c), toks := _ }
  generalize ha.push (aQ c) = h2 at *
  generalize ha.objs.size = b at *
  have bL : b ≠ s.heap.objs.size + 1 := fun e => by obtain ⟨o, _, _, ho, _⟩ := na; rw [<- e, fb] at ho; cases ho
  have bc : b ≠ c := fun e => by obtain ⟨es, ep, ho, _⟩ := a1.obj; rw [<- e, fb] at ho; cases ho
  refine stL (na.keeps k2) fun h3 n3 s3 => ?_
  have k3 : Ext s.heap h3 := aA (Ext.trans k0a k2) s3 fL
  have O3 := Ext.trans O k3
  have x3 := x.ext k3
  have b3 := s3.extBut _ _ bL b2
  have D3 := D0.at fun o e => k3 d o e
  have e3 := s3.extBut _ _ kL (k2 _ _ ea)
  have n4 := n3
  have O4 := O3
  have x4 := x3
  have D4 := D3
  have b4 := b3
  have e4 := e3
  have k04 : Ext s.heap h3 := k3
  refine ad ?_
  intro Qb
  refine Ab ?_
  refine uG (d := d) (k := y) (v := .int n tn) hR.h rfl rfl ?_
  refine Bc (pl := _) ?_
  refine nmL n4 rfl ?_
  refine Bi (T := "dict") (id := "dict.items") (s := { s with heap := h3, toks := _ }) D4.typeIs Gq PySem.F.slot_dict_items PySem.F.type_dict_items D4.mapOf.noDict ?_
  refine callWith_method0 ?_
  refine call_meetsIn (s := { s with heap := h3, toks := _ }) PySem.F.slot_dict_items D4.typeIs PySem.F.entry_dict_items (PySem.F.args_dict_items_1 _) (meets_dict_items (sK w) d hdS) ⟨⟨_, D4⟩, ?_⟩
  have k5 : Ext h3 (h3.push { cls := .type "dict_items", data := .fields #[.ref d] }) := ac _ _
  have v5 : (h3.push { cls := .type "dict_items", data := .fields #[.ref d] }).IsItemsView h3.objs.size d := ⟨_, Heap.get?_push_size _ rfl, rfl, rfl⟩
  dsimp only
  show ∃ V ep, _
  generalize h3.push { cls := .type "dict_items", data := .fields #[.ref d] } = h5 at *
  generalize h3.objs.size = V at *
  have n5 := n4.keeps k5
  refine mC (D4.at fun o e => k5 d o e) fun od5 es5 ep5 D5 => ?_
  refine EI2 V ep5 ⟨rfl, v5, ⟨od5, es5, D5.1, D5.2⟩, ?_⟩
  intro h6 key E' k6 hkey
  dsimp only at k6
  refine ah (fy hkey) ?_
  rintro ty rfl
  have n6 := n5.keeps k6
  have L6 : ∀ z, h5.get? z = none -> z ≠ s.heap.objs.size + 1 := fun z hz e => by obtain ⟨o, _, _, ho, _⟩ := n5; rw [<- e, hz] at ho; cases ho
  refine assignInOrder_cons ?_
  refine Ay ?_
  refine stL n6 fun h7 n7 s7 => ?_
  refine assignInOrder_cons ?_
  refine Ay ?_
  refine stL n7 fun h8 n8 s8 => ?_
  refine assignInOrder_nil ?_
  have k06 : Ext s.heap h6 := Ext.trans k04 (Ext.trans k5 k6)
  have k08 : Ext s.heap h8 := aA (aA k06 s7 fL) s8 fL
  have O8 := Ext.trans O k08
  have x8 := x.ext k08
  have b8 := s8.extBut _ _ bL (s7.extBut _ _ bL (k6 _ _ (k5 _ _ b4)))
  have e8 := s8.extBut _ _ kL (s7.extBut _ _ kL (k6 _ _ (k5 _ _ e4)))
  refine ad ?_
  intro Qb
  refine Ab ?_
  refine Ga ?_
  refine ad ?_
  intro Qb
  refine Bg ?_
  refine nmL n8 rfl ?_
  refine Dn ?_
  refine nmL n8 rfl ?_
  refine cJ (c := c) ?_
  refine Ak ?_
  refine nmL n8 rfl ?_
  refine Ak ?_
  refine Av ?_
  refine An ⟨b8, ?_⟩
  refine fN (s := { s with heap := h8, toks := _ }) (G.ext O8).K b8 (aM y ty) x8 ?_
  intro t9 tk9
  refine P.add_int ?_
  refine nmL n8 rfl ?_
  refine nmL n8 rfl ?_
  refine gU (s := { s with heap := h8, toks := _ }) (G.ext O8).K (aM y ty) x8 hlen ?_
  intro h10 tk10 x10 s10
  try dsimp only
  refine Ah ?_
  have c5 : h5.get? c ≠ none := (x4.ext k5).ex.1
  have kc10 : KC c s.heap h10 := fun z o hz e => s10.extBut z o hz (k08 z o e)
  refine ⟨rfl, Lk.of, fun z o hz e => ?_, ?_, ?_⟩
  ·exact s10.extBut z o (fun q => c5 (q ▸ hz)) (s8.extBut z o (L6 z hz) (s7.extBut z o (L6 z hz) e))
  ·have D8 : h10.get? d = some od5 := s10.extBut _ _ dc (s8.extBut _ _ dL (s7.extBut _ _ dL (k6 _ _ D5.1)))
   exact EI2 od5 es5 ⟨D8, D5.2⟩
  intro h11 tk11 k11
  dsimp only at k11 ⊢
  have s5 : ∀ z, s.heap.get? z ≠ none -> h5.get? z ≠ none := fun z hz e => by
   cases q : s.heap.get? z with
   | none => exact hz q
   | some o => have := Ext.trans k04 k5 z o q; rw [e] at this; cases this
  have n11 := (n8.sameBut s10 (Ne.symm cL)).at' fun o e => k11 _ o (fun z => by obtain ⟨o', _, _, ho, _⟩ := n5; rw [z] at ho; cases ho) e
  have e11 : h11.get? s.heap.objs.size = some emptyDict := k11 _ _ (fun z => by have := k5 _ _ e4; rw [z] at this; cases this) (s10.extBut _ _ (Ne.symm ck) e8)
  refine Ah ?_
  refine _root_.PySem.wpAt_of_wpAny ?_
  refine Ah ?_
  refine _root_.PySem.wpAt_of_wpAny ?_
  refine Ah ?_
  refine _root_.PySem.wpAt_of_wpAny ?_
  refine Ab ?_
  refine dD (s := { s with heap := h11, toks := _ }) n11 rfl e11 nb ?_
  intro tk
  refine Ah ?_
  have ee : n + (got kvs y).getD 0 = (got kvs y).getD 0 + n := Int.add_comm _ _
  rw [ee] at x10
  exact hQ _ _ (x10.at (fun o => k11 _ o (s5 c x.ex.1)) fun o => k11 _ o (s5 dx x.ex.2)) fun z o hz e => k11 z o (s5 z (by rw [e]; simp)) (kc10 z o hz e)
 | nil =>
  simp only [List.isEmpty_nil, Bool.not_true, Al, Be]
  subst hvs
  have kv0 : kvs = [] := List.length_eq_zero_iff.mp (by rw [<- hla]; rfl)
  subst kv0
  refine ks_wpAt_execs_cons ?_
  refine ks_wpAt_Expr_any ?_
  refine ks_wpAt_MethodCall (pl := _) ?_
  refine eT (s := { s with heap := ha, toks := _ }) (c := c) (dx := dx) (kvs := []) (o := o936 w.params) (cd := o935 w.params) (G.ext Oa) aa rfl rfl rfl na rfl rfl rfl rfl rfl (by kernel_rfl) (by decide) rfl rfl rfl rfl rfl rfl rfl ?_
  intro so h2 k2 hso fso
  dsimp only at k2 hso fso
  have x2 := aa.ext k2
  have O2 := Ext.trans Oa k2
  refine mP (G.ext O2).K x2 hso ?_
  have k3 : Ext h2 (h2.push (bZ c)) := ac _ _
  have b3 : (h2.push (bZ c)).get? h2.objs.size = some (bZ c) := Heap.get?_push_size _ rfl
  show wpAny _ _ (callWith _ (.ref h2.objs.size) [] _ _) _ _ { s with heap := h2.push (bZ c), toks := _ }
  generalize h2.push (bZ c) = h3 at *
  have n3 := (na.keeps k2).keeps k3
  have O3 := Ext.trans O2 k3
  have x3 := x2.ext k3
  have k03 : Ext s.heap h3 := Ext.trans k0a (Ext.trans k2 k3)
  have D3 := D0.at fun o e => k03 d o e
  refine iO (ob := bZ c) (fun _ => kY) ?_
  refine Ak ?_
  refine nmL n3 rfl ?_
  refine An ⟨b3, ?_⟩
  refine kZ (s := { s with heap := h3, toks := _ }) (G.ext O3).K b3 x3 (Ne.symm dc) hdS D3 (by simp) ?_
  intro h4 x4 s4
  refine _root_.PySem.wpAt_of_wpAny ?_
  refine Ah ?_
  refine _root_.PySem.wpAt_of_wpAny ?_
  refine Ah ?_
  refine _root_.PySem.wpAt_of_wpAny ?_
  refine Ah ?_
  refine _root_.PySem.wpAt_of_wpAny ?_
  refine Ab ?_
  refine dD (s := { s with heap := h4, toks := _ }) (n3.sameBut s4 (Ne.symm cL)) rfl (s4.extBut _ _ (Ne.symm ck) (k3 _ _ (k2 _ _ ea))) nb ?_
  intro tk
  refine Ah ?_
  have e0 : cK [] y n = [(y, n)] := by simp [cK, put, got]
  refine hQ _ _ ?_ fun z o hz e => s4.extBut z o hz (k03 z o e)
  rw [e0]
  exact ⟨[(y, .int n tn)], x4, rfl⟩
end
end
end Mine
end
section
open PySem PySem.W PyProof.Rows PySem.Calls PySem.Spec Builtin
namespace Mine
section
section
variable {w : World} {A : Around} {E : Value -> Shared -> Prop} {s : Shared} {c dx : Addr} {kvs : List (Str × Value)} {name : Str}
theorem kQ {g a : Value} {tk : Tok} {Q : Value -> Shared -> Prop} (X : (K w.params).In s.heap) (x : CtA w s.heap c dx kvs) (hf : findObj (K w.params) 1093 (some emptyDict) name = some (.bind g a))
  (h : codeAny (MK w) A.in1 (.call g ⟨[a, .ref c, .ref 1093], []⟩) (fun r s' => match r with | .ok (.ret v) => wpAny (MK w) A (handedOut v) Q E s' | _ => False) s) : wpAny (MK w) A (getAttrBy (.ref c) (.str name tk) false) Q E s := by
 refine aB x.inst fun es ep I => ?_
 have LF := looks_find (M := MK w) X I hf
 have LG : Looks (MK w) s.heap (typeLookup (.ref 1093) "__getattribute__") (some (.builtin "dict.__getattribute__")) := B8 X rfl
 have LH : Looks (MK w) s.heap (typeLookup (.ref 1093) "__getattr__") none := B8 X rfl
 have L0 := aY x
 have x1 := x
 have X1 := X
 obtain ⟨hh, gg, d, t, os⟩ := s
 dsimp only at LF LG LH L0 X
 unfold getAttrBy
 refine At (Aa (L0.at (Aa (LG.at ?_))))
 show wpAny _ _ (getAttrByItsOwn (.ref c) (.str name tk) (.ref 1093) (.builtin "dict.__getattribute__") false false) _ _ _
 unfold getAttrByItsOwn hookBefore callGetattribute boundAndCalled
 refine Aa ?_
 rw [if_pos (show onTheHeap (.ref 1093) = true from rfl)]
 refine LH.at ?_
 refine Aa (wpAny_attempt (At ?_))
 rw [show onTheHeap (.builtin "dict.__getattribute__") = false from rfl, Bool.and_false]
 simp only [Al, Be]
 refine Aa (B6 (PySem.F.slot_dict_getattribute.bind _) ?_)
 refine Bf (dJ X1 x1 PySem.F.slot_dict_getattribute (n := "__getattribute__") (.inl (by decide +kernel)) (by decide +kernel) gy (PySem.F.args_dict_getattribute_2 _ _) ?_)
 unfold Builtin.«object.__getattribute__»
 repeat (first | (with_reducible refine Bf ?_) | lk)
 refine codeAny_mono h fun r s' z => ?_
 rcases r with e | (v | _ | _ | _) <;> first | exact z.elim | skip
 exact Ae z
theorem nO {Q : Option Value -> Shared -> Prop} (X : (K w.params).In s.heap) (x : CtA w s.heap c dx kvs) (h : ∀ v h' tk, Ext s.heap h' -> Q (some v) { s with heap := h', toks := tk }) : wpAny (MK w) A (getAttr? (.ref c) "keys") Q E s := by
 unfold getAttr? getAttrBy?
 have L1 := cv X x
 have hT : ({ s with toks := s.toks + 1 } : Shared).TypeIs (.builtin "dict.keys") "method_descriptor" := by show typeOf (.builtin "dict.keys") = _; show builtinType _ = _; rw [builtinType_eq_fast]; kernel_rfl
 have L2 : Looks (MK w) s.heap (isInstance (.ref c) (.type (".".intercalate ("dict.keys".cutAt '.').dropLast))) true := by
  rw [show ".".intercalate ("dict.keys".cutAt '.').dropLast = "dict" by decide +kernel]; exact L1
 refine Aa (wpAny_mkText (Aa (wpAny_attempt ?_)))
 refine kQ (s := { s with toks := s.toks + 1 }) X x (g := .builtin "method_descriptor.__get__") (a := .builtin "dict.keys") rfl ?_
 obtain ⟨hh, gg, d, t, os⟩ := s
 dsimp only at L1 L2
 refine De bN.plain et (bN.check _ _ _ _ _ _ _ _ hT (fR _ _ _) ?_)
 unfold Builtin.«method_descriptor.__get__»
 repeat lk
 exact h _ _ _ (ac _ _)
theorem nI {Q : Value -> Shared -> Prop} (X : (K w.params).In s.heap) (x : CtA w s.heap c dx kvs) (hlen : kvs.length ≤ 100)
  (h : ∀ h' tk d, h'.DictOf (sK w) d kvs -> Ext s.heap h' -> s.heap.get? d = none -> Q (.ref d) { s with heap := h', toks := tk }) : wpAny (MK w) A (call (.type "dict") [.ref c]) Q E s := by
 refine callType_codes (Q₁ := fun obj s_1 => obj = .ref s.heap.objs.size ∧ s_1 = { s with heap := s.heap.push { cls := .type "dict", data := .dict #[] } }) F.kt_called_dict (F.kt_typeCall_dict_1 _) F.entry_dict_init (kt_code_dict_new _ ⟨rfl, rfl⟩) ?_
 intro obj s_1 X1
 refine ao X1 ?_
 clear X1
 rintro rfl rfl
 have k1 : Ext s.heap (s.heap.push { cls := .type "dict", data := .dict #[] }) := ac _ _
 have fD := ae s.heap
 have hnew : (s.heap.push { cls := .type "dict", data := .dict #[] }).DictOf (sK w) s.heap.objs.size [] := Heap.DictOf.new s.heap
 generalize s.heap.push { cls := .type "dict", data := .dict #[] } = h1 at *
 generalize s.heap.objs.size = D at *
 have x1 := x.ext k1
 have X1 : (K w.params).In h1 := X.keeps k1
 have cD : D ≠ c := fun e => by obtain ⟨es, ep, ho, _⟩ := x.obj; rw [<- e, fD] at ho; cases ho
 refine ⟨hnew.typeIs, F.args_dict_init_2 _ _, ?_⟩
 unfold Builtin.«dict.__init__»
 refine Aa ?_
 unfold Builtin.Dict.selfAndRest
 refine Aa (wpAny_notOrdered_dict hnew.typeIs ?_)
 show wpAny _ _ (pure (D, [Value.ref c])) _ _ _
 refine Ae ?_
 show wpAny _ _ (Builtin.Dict.updateFrom "dict.__init__" D (.ref c) [] .none) _ _ _
 unfold Builtin.Dict.updateFrom
 refine Aa ((aY (s := { s with heap := h1 }) x1).here ?_)
 rw [if_pos (by rfl)]
 refine Aa (nO (s := { s with heap := h1 }) X1 x1 ?_)
 intro v h2 tk2 k2
 dsimp only at k2
 rw [if_neg (by simp)]
 have x2 := x1.ext k2
 have X2 : (K w.params).In h2 := X1.keeps k2
 refine Aa ?_
 unfold Builtin.Dict.merge
 refine Aa ?_
 unfold Builtin.Dict.readDirectly
 refine Aa ((cv (s := { s with heap := h2, toks := tk2 }) X2 x2).here ?_)
 simp only [Bool.not_true, Al, Be]
 have LI : Looks (MK w) h2 (specialOf (.ref c) "__iter__") (some (.builtin "dict.__iter__")) := (aY (s := { s with heap := h2, toks := tk2 }) x2).andThen (B8 X2 rfl)
 refine Aa (LI.here (s := { s with heap := h2, toks := tk2 }) (Ae ?_))
 simp only [beq_self_eq_true, if_true]
 refine Aa (Ae ?_)
 refine iK (s := { s with heap := h2, toks := tk2 }) cD x.nb (DD.of_dict (hnew.at fun o e => k2 D o e)) x2.dd hlen fun h' hd' hs' => ?_
 show wpAny _ _ (Builtin.Dict.addKeywords D [] >>= _) _ _ _
 refine Aa (Ae (Ae ⟨rfl, h h' _ _ hd'.dict (fun b o e => ?_) fD⟩))
 exact hs'.extBut b o (fun q => by rw [q, fD] at e; cases e) (k2 b o (k1 b o e))
end
end
end Mine
end
section
open PySem PySem.W PyProof.Rows PySem.Calls
namespace Mine
section
section
variable {prog : Program} {w : World} {A : Around} {E : Value -> Shared -> Prop} {R : Result -> Shared -> Prop} {s : Shared}
variable {elt it1 it2 : Expr} {x y : Str} {px py : Pos} {ifs : List Expr} {scope : Scope} {pos : Pos}
theorem uE {α β γ : Type} {k : Value -> Option α} {k2 : Value -> Option β} {k' : Value -> Option γ} {env : Env} {cl : List (Str × Addr)} {Q : Flow -> Shared -> Prop} {z : Str} {pz spos : Pos} (hsw : swapsWith (lc2 elt it1 it2 x y px py ifs scope pos) (some (.Name z pz)) spos.line env = pure true) (hz : env.kindOf z = some .local) (hp : (env.scope.kind == .class || (env.scope.kind == .module && env.locals != env.globals)) = false)
  (F : List Addr) (hLF : env.locals ∈ F) (cs : Shared -> List α) (inner : α -> List β) (test : α -> β -> Bool) (g : α -> β -> γ)
  (hclos : closureFor scope env = pure cl) (hcell : ∀ y ∈ scope.names, y.2 ≠ .cell) (hkind : scope.kind = .function)
  (hnames : ∀ y ∈ scope.names, y.2 = .local -> scope.names.lookup y.1 = some .local) (hx : scope.names.lookup x = some .local) (hy : scope.names.lookup y = some .local) (hxy : x ≠ y)
  (h : wpAny (model prog w) A (eval it1 env) (fun xv s_1 => (∀ b ∈ F, s_1.heap.get? b ≠ none) ∧ (∃ src, (∀ b ∈ src, b ∉ F) ∧ wpAny (model prog w) A (pyIter xv) (bk prog w A src k (cs s_1) s_1) E s_1) ∧ ((cs s_1).flatMap inner).length ≤ sizeLine ∧
   (∀ C D u c s_3 m_3 E', s_1.heap.get? C = none -> s_1.heap.get? D = none -> C ≠ D -> (∃ o, s_3.heap.get? D = some o) -> k u = some c -> c ∈ cs s_1 -> s_3.heap.Ns C m_3 -> m_3 x = some u -> Slo F s_1.heap s_3.heap ->
    wpAny (model prog w) A (eval it2 (compEnvC scope cl C env)) (fun xv s_4 => SKp F s_3 s_4 ∧ ∃ src2, D ∉ src2 ∧ C ∉ src2 ∧ wpAny (model prog w) A (pyIter xv) (bk prog w A src2 k2 (inner c) s_4) E' s_4) E' s_3) ∧
   (∀ C u v c b s_3 m_3 E', s_1.heap.get? C = none -> k u = some c -> c ∈ cs s_1 -> k2 v = some b -> b ∈ inner c -> s_3.heap.Ns C m_3 -> m_3 x = some u -> m_3 y = some v -> Slo F s_1.heap s_3.heap ->
    wpAny (model prog w) A (forIn ifs true fun c r => if r = true then do let ok <- isTrue c (compEnvC scope cl C env) (eval c (compEnvC scope cl C env)); pure (ForInStep.yield ok) else pure (ForInStep.yield r))
     (fun ok s_4 => ok = test c b ∧ Keeps s_3 s_4) E' s_3) ∧
   (∀ C u v c b s_3 m_3 E', s_1.heap.get? C = none -> k u = some c -> c ∈ cs s_1 -> k2 v = some b -> b ∈ inner c -> test c b = true -> s_3.heap.Ns C m_3 -> m_3 x = some u -> m_3 y = some v -> Slo F s_1.heap s_3.heap ->
    wpAny (model prog w) A (eval elt (compEnvC scope cl C env)) (fun z s_4 => k' z = some (g c b) ∧ Keeps s_3 s_4) E' s_3) ∧
   (∃ m, s_1.heap.Ns env.locals m ∧ ∀ D h' tk ys, Mine.hz s_1 ≤ D -> s_1.heap.get? D = none -> h'.PlainList D ys -> ys.toList.map k' = ((cs s_1).flatMap fun c => ((inner c).filter (test c)).map (g c)).map some -> h'.Ns env.locals (fun u => if u = z then some (.ref D) else m u) -> (∀ b o, b ∉ F -> s_1.heap.get? b = some o -> h'.get? b = some o) -> Q .next { s_1 with heap := h', toks := tk })) E s)
  (hs : ∀ x, foldedSetIterable it1 env x = pure x := by intro _; rfl) (hs2 : ∀ C x, foldedSetIterable it2 (compEnvC scope cl C env) x = pure x := by intro _ _; rfl) :
  wpAny (model prog w) A (exec (.Assign [.Name z pz] (lc2 elt it1 it2 x y px py ifs scope pos) spos) env) Q E s := by
 rw [exec_Assign_Name_used _ _ _ _ hsw]
 refine Aa (Bz (Aa ?_))
 show wpAny _ A (do let _ <- comprehension (lc2 elt it1 it2 x y px py ifs scope pos) scope env _ (newList []) false (eval it1 env) (some (assign (.Name z pz) env))) _ _ s
 refine Aa (Aj (wpAny_comprehension_free (use := some (assign (.Name z pz) env)) (Q := fun _ s' => Q .next s') rfl hs hclos hkind hnames
  (Aj h (fun xv s_1 h_1 => ?_) fun _ _ e => e)) (fun _ s' hq => Ae (Ae hq)) fun _ _ e => e)
 refine pM h_1 ?_
 clear h_1
 rintro hF ⟨src, hsF, hsrc⟩ hsz hin ht he Z41
 refine ag Z41 fun m hm hQ => ?_
 clear Z41
 refine cz (Aw (Mine.hz s_1)) (Aj hsrc (fun it s_2 h_2 hzz => ?_) fun _ _ e _ => e)
 refine iW (RR := fun acc C => compPost (model prog w) A E (some (assign (.Name z pz) env)) (fun _ s' => Q .next s') acc C) F hF hsF (cs s_1) inner test g hcell hkind hx hy hxy h_2 hsz hin ht he ?_ hs2
 intro D C h' tk m' ys hzD fD fC hDC hn hpl hys hk
 have hLC : env.locals ≠ C := by rintro rfl; obtain ⟨o, _, _, ho, _⟩ := hm; rw [fC] at ho; cases ho
 have hLD : env.locals ≠ D := by rintro rfl; obtain ⟨o, _, _, ho, _⟩ := hm; rw [fD] at ho; cases ho
 show wpAny _ A (assign (.Name z pz) env (.ref D)) _ _ _
 refine Ay (G6 hz (Heap.UpToSlots.ns hk.up hm) (fun h_2 hnC hsC => ?_) hp)
 refine ⟨m', hn.sameBut hsC (Ne.symm hLC), fun h_3 hsD => ?_⟩
 exact hQ D h_3 _ ys (Ag hzz hzD) fD ((hpl.extBut hsC.extBut (Ne.symm hLD)).extBut hsD.extBut hDC) hys (hnC.sameBut hsD hLC) fun b o hbL e =>
  hsD.extBut b o (fun q => by rw [q, fC] at e; cases e) (hsC.extBut b o (fun q => hbL (q ▸ hLF)) (hk.keep b o hbL e))
end
end
section
abbrev ur : FuncData := fd (stA 56) "law" "law" 3 [] .none .none .none (.str (q "law_dn0070_12") 1945) none (.ref 1243) .none 0
abbrev aK (L : Addr) : Env := callEnvC ur L 1244
abbrev cH : List Stmt := fnB (stA 56)
def Out (L a : Addr) : Prop := a < L ∨ L + 7 < a
def Kp (L : Addr) (h h' : Heap) : Prop := ∀ b o, Out L b -> h.get? b = some o -> h'.get? b = some o
theorem Kp.refl (L : Addr) (h : Heap) : Kp L h h := fun _ _ _ e => e
theorem Kp.trans {L : Addr} {a b c : Heap} (x : Kp L a b) (y : Kp L b c) : Kp L a c := fun i o n e => y i o n (x i o n e)
theorem Ext.kp {L : Addr} {h h' : Heap} (x : Ext h h') : Kp L h h' := fun b o _ e => x b o e
theorem dn {α : Type} {x : Str} {a : α} : ∀ {l : List (Str × α)}, l.lookup x = some a -> (x, a) ∈ l
 | (y, b) :: l, h => by
  rw [List.lookup_cons] at h
  by_cases e : x = y
  ·subst e; simp at h; simp [h]
  ·rw [show (x == y) = false from by simpa using e] at h
   exact A1 _ (dn h)
theorem mn (L : Addr) : (aK L).cells = [(q "more", L + 7), (q "exact", L + 6), (q "order", L + 5), (q "tells", L + 4), (q "needs", L + 3), (q "row", L + 2), (q "names", L + 1)] := rfl
theorem bJ {L a : Addr} {x : Str} (h : (aK L).cells.lookup x = some a) : L < a ∧ a ≤ L + 7 := by
 have := dn h
 rw [mn] at this
 simp only [Ap, Prod.mk.injEq, Bw, Gz] at this
 show (_ : Nat) < _ ∧ (_ : Nat) ≤ _
 rcases this with ⟨_, e⟩ | ⟨_, e⟩ | ⟨_, e⟩ | ⟨_, e⟩ | ⟨_, e⟩ | ⟨_, e⟩ | ⟨_, e⟩ <;> (subst e; exact ⟨by omega, by omega⟩)
def nQ : List (Str × Nat) := [(q "more", 7), (q "exact", 6), (q "order", 5), (q "tells", 4), (q "needs", 3), (q "row", 2), (q "names", 1)]
theorem iM {L a : Addr} {x : Str} (h : (aK L).cells.lookup x = some a) : ∃ n, (x, n) ∈ nQ ∧ a = L + n := by
 have i := dn h
 rw [mn] at i
 obtain ⟨p, hp, e⟩ := A0.mp (show (x, a) ∈ nQ.map fun p => (p.1, L + p.2) from i)
 cases e
 exact ⟨p.2, hp, rfl⟩
theorem mo {L a : Addr} {x y : Str} (h : (aK L).cells.lookup x = some a) (h' : (aK L).cells.lookup y = some a) : x = y := by
 obtain ⟨n, i, e⟩ := iM h
 obtain ⟨m, j, e'⟩ := iM h'
 have : n = m := Nat.add_left_cancel (e.symm.trans e')
 subst this
 exact (by decide : ∀ p ∈ nQ, ∀ r ∈ nQ, p.2 = r.2 -> p.1 = r.1) _ i _ j rfl
structure LS (w : World) (g h : Heap) (L : Addr) (m c : Str -> Option Value) : Prop where
 gs : g.objs.size = L
 e : Ext g h
 n : h.Ns L m
 cs : ∀ x a, (aK L).cells.lookup x = some a -> h.IsCell a (c x)
section
variable {w : World} {g h h' : Heap} {L : Addr} {m c : Str -> Option Value}
theorem LS.gOut (S : LS w g h L m c) {b : Addr} {o : Obj} (e : g.get? b = some o) : Out L b := .inl (S.gs ▸ A5 e)
theorem LS.non (S : LS w g h L m c) {b : Addr} (hb : L ≤ b) : g.get? b = none := av (by rw [S.gs]; exact hb)
theorem LS.live (S : LS w g h L m c) {b : Addr} (h1 : L ≤ b) (h2 : b ≤ L + 7) : ∃ o, h.get? b = some o := by
 have cell : ∀ {x a}, (aK L).cells.lookup x = some a -> ∃ o, h.get? a = some o := fun e => let ⟨o, ho, _⟩ := S.cs _ _ e; ⟨o, ho⟩
 have h1 : @LE.le Nat _ L b := h1
 have h2 : @LE.le Nat _ b (L + 7) := h2
 have : b = L ∨ b = L + 1 ∨ b = L + 2 ∨ b = L + 3 ∨ b = L + 4 ∨ b = L + 5 ∨ b = L + 6 ∨ b = L + 7 := by
  exact oy h1 h2
 rcases this with rfl | rfl | rfl | rfl | rfl | rfl | rfl | rfl
 ·obtain ⟨o, _, _, ho, _⟩ := S.n; exact ⟨o, ho⟩
 ·exact cell (x := q "names") rfl
 ·exact cell (x := q "row") rfl
 ·exact cell (x := q "needs") rfl
 ·exact cell (x := q "tells") rfl
 ·exact cell (x := q "order") rfl
 ·exact cell (x := q "exact") rfl
 ·exact cell (x := q "more") rfl
theorem LS.out (S : LS w g h L m c) {b : Addr} (e : h.get? b = none) : Out L b := by
 by_cases h1 : b < L
 ·exact .inl h1
 ·by_cases h2 : L + 7 < b
  ·exact .inr h2
  ·refine ah (S.live (b := b) (Bp.mp h1) (Bp.mp h2)) fun o ho => ?_
   rw [ho] at e; cases e
theorem LS.lt (S : LS w g h L m c) : L + 7 < h.objs.size := by
 refine ah (S.live (b := L + 7) (Bv _ _) (Aw _)) fun o ho => ?_
 exact A5 ho
theorem LS.new (S : LS w g h L m c) : Out L h.objs.size := .inr S.lt
theorem LS.at (S : LS w g h L m c) (x : Ext g h') (e : ∀ b o, L ≤ b -> b ≤ L + 7 -> h.get? b = some o -> h'.get? b = some o) : LS w g h' L m c where
 gs := S.gs
 e := x
 n := S.n.at' fun o e' => e _ o (Aw _) (Bv _ _) e'
 cs := fun x a hx => bg (S.cs x a hx) fun o e' => e _ o (Bh (bJ hx).1) (bJ hx).2 e'
theorem LS.up (S : LS w g h L m c) (x : Ext h h') : LS w g h' L m c := S.at (Ext.trans S.e x) fun b o _ _ e => x b o e
theorem LS.slo (S : LS w g h L m c) (x : Slo [L] h h') : LS w g h' L m c where
 gs := S.gs
 e := fun b o e => x.keep b o (fun q => by rw [Ac.mp q, S.non (Aw _)] at e; cases e) (S.e b o e)
 n := Heap.UpToSlots.ns x.up S.n
 cs := fun y a hx => bg (S.cs y a hx) fun o e' => x.keep _ o (fun q => A9 _ (Ac.mp q ▸ (bJ hx).1)) e'
theorem Slo.kp (x : Slo [L] h h') : Kp L h h' := fun b o n e => x.keep b o (fun q => by
 rw [Ac.mp q] at n
 rcases n with n | n
 ·exact A9 _ n
 ·exact absurd n (Bp.mpr (Bv _ _))) e
theorem SB.kp {a : Addr} (hs : Heap.SameBut a h h') (h1 : L ≤ a) (h2 : a ≤ L + 7) : Kp L h h' := fun b o n e => hs.extBut b o (fun q => by
 subst q
 rcases n with n | n
 ·exact absurd n (Bp.mpr h1)
 ·exact absurd n (Bp.mpr h2)) e
theorem LS.setL {x : Str} {v : Value} (S : LS w g h L m c) (n : h'.Ns L (fun y => if y = x then some v else m y)) (hs : Heap.SameBut L h h') : LS w g h' L (fun y => if y = x then some v else m y) c where
 gs := S.gs
 e := aA S.e hs (S.non (Aw _))
 n := n
 cs := fun y a hx => (S.cs y a hx).sameBut hs (Dx (bJ hx).1)
theorem LS.setC {x : Str} {a : Addr} {v : Value} (S : LS w g h L m c) (hx : (aK L).cells.lookup x = some a) (n : h'.IsCell a (some v)) (hs : Heap.SameBut a h h') : LS w g h' L m (fun y => if y = x then some v else c y) where
 gs := S.gs
 e := aA S.e hs (S.non (Bh (bJ hx).1))
 n := S.n.sameBut hs (B3 (bJ hx).1)
 cs := fun y b hy => by
  by_cases q : y = x
  ·subst q
   rw [hx] at hy; cases hy
   rw [if_pos rfl]; exact n
  ·rw [if_neg q]
   exact (S.cs y b hy).sameBut hs fun e => q (mo (e ▸ hy) hx)
theorem IsL.kp {α : Type} {k : Value -> Option α} {a : Addr} {xs : List α} (x : IsL k h a xs) (y : Kp L h h') (o : Out L a) : IsL k h' a xs := x.at fun b e => y a b o e
theorem IsD.kp {β : Type} {k : Value -> Option β} {a : Addr} {kvs : List (Str × β)} (x : IsD w k h a kvs) (y : Kp L h h') (o : Out L a) : IsD w k h' a kvs := x.at fun b e => y a b o e
theorem LS.gr (S : LS w g h L m c) (G : Gr w g) : Gr w h := G.ext S.e
end
section
variable {w : World} {A : Around} {E : Value -> Shared -> Prop} {s : Shared} {g : Heap} {x : Str} {pos : Pos} {v : Value} {L : Addr} {m c : Str -> Option Value}
theorem lsL {Q : Value -> Shared -> Prop} (S : LS w g s.heap L m c) (hv : m x = some v) (h : Q v s) (hl : (aK L).kindOf x = some .local := by rfl) (hd : (x == ("__debug__" : Str)) = false := by decide) : wpAny (MK w) A (eval (.Name x pos) (aK L)) Q E s := nmL S.n hv h rfl rfl hl hd
theorem lsC {a : Addr} {Q : Value -> Shared -> Prop} (S : LS w g s.heap L m c) (hv : c x = some v) (h : Q v s) (hl : (aK L).kindOf x = some .cell := by rfl) (hc : (aK L).cells.lookup x = some a := by rfl) (hd : (x == ("__debug__" : Str)) = false := by decide) : wpAny (MK w) A (eval (.Name x pos) (aK L)) Q E s :=
 nmC (hv ▸ S.cs x a hc) h rfl hl hc hd
theorem eJ {Q : Unit -> Shared -> Prop} (S : LS w g s.heap L m c) (h : ∀ h', LS w g h' L (fun y => if y = x then some v else m y) c -> Kp L s.heap h' -> h'.objs.size = s.heap.objs.size -> Q () { s with heap := h', toks := s.toks + 1 })
  (hl : (aK L).kindOf x = some .local := by rfl) : wpAny (MK w) A (storeName (aK L) x v) Q E s :=
 stL S.n (fun h' n' s' => h h' (S.setL n' s') (SB.kp s' (Aw _) (Bv _ _)) s'.1) rfl hl rfl
theorem jj {a : Addr} {Q : Unit -> Shared -> Prop} (S : LS w g s.heap L m c) (h : ∀ h', LS w g h' L m (fun y => if y = x then some v else c y) -> Kp L s.heap h' -> h'.objs.size = s.heap.objs.size -> Q () { s with heap := h' })
  (hl : (aK L).kindOf x = some .cell := by rfl) (hc : (aK L).cells.lookup x = some a := by rfl) : wpAny (MK w) A (storeName (aK L) x v) Q E s :=
 stC (S.cs x a hc) (fun h' n' s' => h h' (S.setC hc n' s') (SB.kp s' (Bh (bJ hc).1) (bJ hc).2) s'.1) rfl hl hc
end
end
section
def KpX (L : Addr) (bad : List Addr) (h h' : Heap) : Prop := ∀ b o, Out L b -> b ∉ bad -> h.get? b = some o -> h'.get? b = some o
theorem KpX.trans {L : Addr} {bad : List Addr} {a b c : Heap} (x : KpX L bad a b) (y : KpX L bad b c) : KpX L bad a c := fun i o n n' e => y i o n n' (x i o n n' e)
theorem Kp.x {L : Addr} {bad : List Addr} {h h' : Heap} (x : Kp L h h') : KpX L bad h h' := fun b o n _ e => x b o n e
theorem Ext.x {L : Addr} {bad : List Addr} {h h' : Heap} (x : Ext h h') : KpX L bad h h' := fun b o _ _ e => x b o e
theorem SB.x {L a : Addr} {bad : List Addr} {h h' : Heap} (hs : Heap.SameBut a h h') (ha : a ∈ bad) : KpX L bad h h' := fun b o _ n e => hs.extBut b o (fun q => n (q ▸ ha)) e
section
variable {w : World} {g h h' : Heap} {L : Addr} {m c : Str -> Option Value}
theorem LS.sb {a : Addr} (S : LS w g h L m c) (hs : Heap.SameBut a h h') (ho : Out L a) (hg : g.get? a = none) : LS w g h' L m c :=
 S.at (aA S.e hs hg) fun b o h1 h2 e => hs.extBut b o (fun q => by
  subst q
  rcases ho with n | n
  ·exact absurd n (Bp.mpr h1)
  ·exact absurd n (Bp.mpr h2)) e
theorem LS.gn {a : Addr} (S : LS w g h L m c) (ho : L + 7 < a) : g.get? a = none := S.non (Bh (Gf (Bv _ _) ho))
end
section
variable {w : World} {A : Around} {E : Value -> Shared -> Prop} {s : Shared} {g : Heap} {L : Addr} {target iter : Expr} {body : List Stmt} {pos : Pos} {Q : Flow -> Shared -> Prop}
theorem jF {α : Type} {k : Value -> Option α} (bad : List Addr)
  (h : wpAny (MK w) A (eval iter (aK L)) (fun xv s_1 => ∃ m_1 c_1 src cs, LS w g s_1.heap L m_1 c_1 ∧ (∀ b ∈ src, Out L b ∧ b ∉ bad ∧ ∃ o, s_1.heap.get? b = some o) ∧ (∀ b ∈ bad, ∃ o, s_1.heap.get? b = some o) ∧ wpAny (MK w) A (pyIter xv) (bk pw w A src k cs s_1) E s_1 ∧
   ∀ (s_2 : Shared) (wr : List Addr), Keeps s_1 s_2 -> (∀ b o, s_1.heap.get? b = some o -> b ∉ wr) -> (∀ b, hz s_2 ≤ b -> b ∉ wr) ->
   ∃ J : Nat -> Heap -> (Str -> Option Value) -> (Str -> Option Value) -> Prop, J 0 s_2.heap m_1 c_1 ∧
   (∀ i h h' m c, LS w g h L m c -> J i h m c -> (∀ b o, b ∉ wr -> h.get? b = some o -> h'.get? b = some o) -> J i h' m c) ∧
   (∀ i v y s' m c E', cs[i]? = some y -> k v = some y -> Lk s_2 s' -> hz s_2 ≤ hz s' -> LS w g s'.heap L m c -> J i s'.heap m c ->
    wpAny (MK w) A (assign target (aK L) v) (fun _ s'' => wpAny (MK w) A (execs body (aK L)) (fun f s_3 => match f with
     | .next | .cont => hz s_2 ≤ hz s_3 -> Lk s_2 s_3 ∧ (∃ m c, LS w g s_3.heap L m c ∧ J (i + 1) s_3.heap m c) ∧ KpX L bad s'.heap s_3.heap
     | .brk => Q .next s_3
     | .ret v => Q (.ret v) s_3) E' s'') E' s') ∧
   (∀ s' m c, Lk s_2 s' -> hz s_2 ≤ hz s' -> LS w g s'.heap L m c -> J cs.length s'.heap m c -> Q .next s')) E s)
  (hl : ∀ it v, letOwnedTupleGo target it v = pure () := by intro _ _; rfl) (hs : ∀ x, foldedSetIterable iter (aK L) x = pure x := by intro _; rfl) :
  wpAny (MK w) A (exec (.For target iter body [] pos) (aK L)) Q E s := by
 refine FOR (k := k) (Aj h (fun xv s_1 h_1 => ?_) fun _ _ e => e) hs
 refine nX h_1 fun m_1 c_1 src cs S hsrc hbad hit hall => ?_
 clear h_1
 refine ad ?_
 intro Qb
 refine Aj hit (fun it s_2 h_2 => ?_) fun _ _ e => e
 refine EI2 src cs ⟨h_2, fun fp wr hfp hfs hwr => ?_⟩
 refine cB h_2 ?_
 clear h_2
 rintro _ _ _ _ _ _ rfl _ _ _ _ _ _ _ hk
 have live : ∀ b o, s_1.heap.get? b = some o -> b ∉ wr := fun b o e hb => by rw [(hwr b hb).2] at e; cases e
 have fpO : ∀ b ∈ fp, Out L b ∧ b ∉ bad := fun b hb => (hfp b hb).elim (fun q => ⟨(hsrc b q).1, (hsrc b q).2.1⟩) fun e => ⟨S.out e, fun q => by obtain ⟨o, ho⟩ := hbad b q; rw [e] at ho; cases ho⟩
 refine cC (hall s_2 wr hk live fun b hb q => A9 _ (Bq (hfs b (hwr b q).1) hb)) fun J J0 stab turn done => ?_
 have hk' : Ext s_1.heap s_2.heap := by obtain ⟨h', tk, rfl, z⟩ := hk; exact z
 refine ⟨fun i h => ∃ m c, LS w g h L m c ∧ J i h m c, ⟨m_1, c_1, S.up hk', J0⟩, ?_, ?_, ?_⟩
 ·intro i h h' X1 e
  refine aG X1 fun m c S' j => ?_
  clear X1
  refine EI2 m c ⟨S'.at (fun b o z => e b o (live b o (S.e b o z)) (S'.e b o z)) (fun b o h1 h2 z => e b o ?_ z), stab i h h' m c S' j e⟩
  refine ah (S.live h1 h2) fun o' ho => ?_
  exact live b o' ho
 ·intro i v y s' E' hc hv hl' hzl X2
  refine aG X2 fun m c S' j => ?_
  clear X2
  refine B6 (hl _ v) ?_
  refine cz hzl (Aj (turn i v y s' m c E' hc hv hl' hzl S' j) (fun _ s'' h'' hz2 => cz hz2 (Aj h'' (fun f s_3 h_3 hz3 => ?_) fun _ _ e _ => e)) fun _ _ e _ => e)
  cases f with
  | next =>
   refine cG (h_3 hz3) fun h1 h2 h3 => ?_
   exact ⟨h1, h2, fun b hb o e => h3 b o (fpO b hb).1 (fpO b hb).2 e⟩
  | cont =>
   refine cG (h_3 hz3) fun h1 h2 h3 => ?_
   exact ⟨h1, h2, fun b hb o e => h3 b o (fpO b hb).1 (fpO b hb).2 e⟩
  | brk => exact h_3
  | ret v => exact h_3
 ·intro s' hl' hzl X3
  refine aG X3 fun m c S' j => ?_
  clear X3
  exact done s' m c hl' hzl S' j
end
def IsN {α : Type} (k : Value -> Option α) (h : Heap) (a : Addr) (cs : List α) : Prop := ∃ items, h.IsList a items ∧ items.toList.map k = cs.map some
theorem IsL.n {α : Type} {k : Value -> Option α} {h : Heap} {a : Addr} {cs : List α} (x : IsL k h a cs) : IsN k h a cs := let ⟨i, p, q⟩ := x; ⟨i, p.isList, q⟩
theorem IsN.at {α : Type} {k : Value -> Option α} {h h' : Heap} {a : Addr} {cs : List α} (x : IsN k h a cs) (e : ∀ o, h.get? a = some o -> h'.get? a = some o) : IsN k h' a cs := let ⟨i, ⟨o, p, r⟩, q⟩ := x; ⟨i, ⟨o, e _ p, r⟩, q⟩
theorem IsN.ext {α : Type} {k : Value -> Option α} {h h' : Heap} {a : Addr} {cs : List α} (x : IsN k h a cs) (e : Ext h h') : IsN k h' a cs := x.at fun o z => e a o z
theorem IsN.kp {α : Type} {k : Value -> Option α} {h h' : Heap} {L a : Addr} {cs : List α} (x : IsN k h a cs) (e : Kp L h h') (o : Out L a) : IsN k h' a cs := x.at fun b z => e a b o z
theorem IsN.ex {α : Type} {k : Value -> Option α} {h : Heap} {a : Addr} {cs : List α} (x : IsN k h a cs) : ∃ o, h.get? a = some o := let ⟨_, ⟨o, p, _⟩, _⟩ := x; ⟨o, p⟩
section
variable {w : World} {A : Around} {E : Value -> Shared -> Prop} {s : Shared}
theorem bu {a b : Int} {r : Addr} {t u v : Tok} (hA : A.handled = none) (ha : -1000 ≤ a) (ha' : a ≤ 1000) (hb : -1000 ≤ b) (hb' : b ≤ 1000) (hr : IsRange s.heap r a b 1 t u v) :
  wpAny (MK w) A (pyIter (.ref r)) (bk pw w A [] iOf ((List.range (b - a).toNat).map fun i : Nat => a + (i : Int)) s) E s := by
 refine wpAny_pyIter_range hr (small_one (by omega) (by omega) (by omega) (by omega)) ?_
 have hz : Builtin.Range.rangeSize a b 1 = ((b - a).toNat : Int) := by
  rw [rangeSize_one]; split <;> omega
 refine EI6 _ _ _ _ _ _ ⟨rfl, Walks.range hA s.heap.objs.size a 1 (b - a).toNat, by simp, ?_, ?_, ?_, ?_, ?_, ay (ac _ _)⟩
 ·rw [hz]
  have e : a + ((0 : Nat) : Int) * 1 = a := vt
  have e2 : ((b - a).toNat : Int) - ((0 : Nat) : Int) = ((b - a).toNat : Int) := tP
  show IsRangeIter _ _ (a + ((0 : Nat) : Int) * 1) (((b - a).toNat : Int) - ((0 : Nat) : Int)) 1
  rw [e, e2]
  exact Heap.get?_push_size _ rfl
 ·intro b hb; rw [Ac.mp hb]; rw [A4]; exact Do _
 ·intro i v X4 hi
  refine ah X4 ?_
  clear X4
  rintro t rfl
  rw [List.getElem?_map, List.getElem?_range hi]
  show some (a + (i : Int) * 1) = some (a + (i : Int))
  rw [Int.mul_one]
 ·intro b hb; rw [Ac.mp hb]; exact ae _
 ·intro b hb; rw [Ac.mp hb]; exact .inr (ae _)
theorem jJ {α : Type} {k : Value -> Option α} {env : Env} {value upper : Expr} {p pos : Pos} {Q : Value -> Shared -> Prop}
  (h : wpAny (MK w) A (eval value env) (fun o s_1 => wpAny (MK w) A (eval upper env) (fun i s_2 => ∃ l xs, ∃ b : Nat, ∃ t, o = .ref l ∧ IsL k s_2.heap l xs ∧ xs.length ≤ sizeLine ∧ i = .int (b : Int) t ∧
   ∀ h' D, IsL k h' D (xs.take b) -> s_2.heap.get? D = none -> Ext s_2.heap h' -> Q (.ref D) { s_2 with heap := h' }) E s_1) E s)
  (hs : ∀ l sl, subscripted (.Slice none (some upper) none p) false (.ref l) (.ref sl) = operate [.ref sl, .ref l] (getItem (.ref l) (.ref sl)) := by intro _ _; with_unfolding_all rfl) :
  wpAny (MK w) A (eval (.Subscript value (.Slice none (some upper) none p) pos) env) Q E s := by
 refine Dl ?_
 refine Aj h (fun o s_1 h_1 => ?_) fun _ _ e => e
 refine wpAny_Slice (Ge (evalPart_some_step (Aj h_1 (fun i s_2 h_2 => ?_) fun _ _ e => e)))
 refine nX h_2 ?_
 clear h_2
 rintro l xs b t rfl ⟨its, hp, hk⟩ hsz rfl hq
 refine Ge ?_
 have hl := congrArg List.length hk
 simp only [Ai, As] at hl
 refine tail_any ((hp.isList.push _).typeIs (s := { s_2 with heap := _ })) slot_list_getitem.lookup (wpAny_getItem_list_slice (hp.isList.push _) (Heap.IsSliceOf.new ..) .none (.int _ _) .none (by simp) ?_ ((om9 hsz hl))) (hs _ _)
 refine hq _ _ ⟨(its.toList.take b).toArray, ⟨0, by rw [slicePick_upto']; exact Heap.get?_push_size _ rfl⟩, by simp [List.map_take, hk]⟩ ?_ (Ext.trans (ac _ _) (ac _ _))
 exact ap (ac _ _) (ae _)
theorem ln {α : Type} {k : Value -> Option α} {env : Env} {value lower upper : Expr} {p pos : Pos} {Q : Value -> Shared -> Prop}
  (h : wpAny (MK w) A (eval value env) (fun o s_1 => wpAny (MK w) A (eval lower env) (fun i' s_1 => wpAny (MK w) A (eval upper env) (fun i s_2 => ∃ l xs, ∃ a b : Nat, ∃ t t', o = .ref l ∧ IsN k s_2.heap l xs ∧ xs.length ≤ sizeLine ∧ i' = .int (a : Int) t' ∧ i = .int (b : Int) t ∧ a ≤ b ∧ b ≤ xs.length ∧
   ∀ h' D, IsL k h' D ((xs.drop a).take (b - a)) -> s_2.heap.get? D = none -> Ext s_2.heap h' -> Q (.ref D) { s_2 with heap := h' }) E s_1) E s_1) E s)
  (hs : ∀ l sl, subscripted (.Slice (some lower) (some upper) none p) false (.ref l) (.ref sl) = operate [.ref sl, .ref l] (getItem (.ref l) (.ref sl)) := by intro _ _; with_unfolding_all rfl) :
  wpAny (MK w) A (eval (.Subscript value (.Slice (some lower) (some upper) none p) pos) env) Q E s := by
 refine Dl ?_
 refine Aj h (fun o s_1 h_1 => ?_) fun _ _ e => e
 refine wpAny_Slice (evalPart_some_step (Aj h_1 (fun i' s_1' h_1' => evalPart_some_step (Aj h_1' (fun i s_2 h_2 => ?_) fun _ _ e => e)) fun _ _ e => e))
 refine wb h_2 ?_
 clear h_2
 rintro l xs a b t t' rfl ⟨its, hp, hk⟩ hsz rfl rfl hab hb hq
 refine Ge ?_
 have hl := congrArg List.length hk
 simp only [Ai, As] at hl
 refine tail_any (Heap.IsList.typeIs (s := { s_2 with heap := _ }) (hp.push _)) slot_list_getitem.lookup (wpAny_getItem_list_slice (hp.push _) (Heap.IsSliceOf.new ..) (.int _ _) (.int _ _) .none (by simp) ?_ ((om9 hsz hl))) (hs _ _)
 refine hq _ _ ⟨((its.toList.drop a).take (b - a)).toArray, ⟨0, by rw [slicePick_run _ _ _ ((rB hb hl)) hab]; exact Heap.get?_push_size _ rfl⟩, by simp [List.map_take, List.map_drop, hk]⟩ ?_ (Ext.trans (ac _ _) (ac _ _))
 exact ap (ac _ _) (ae _)
end
end
section
def nm (n : Nat) : Str := Txt.slice (q "abcde") none (some (n : Int))
def upd (m : Str -> Option Value) (x : Str) (v : Value) : Str -> Option Value := fun y => if y = x then some v else m y
def sz (n : Nat) : Nat := n + n * (n - 1) / 2
theorem lg {n : Nat} (hn3 : n = 3 ∨ n = 4 ∨ n = 5) : sz n ≤ 15 := by rcases hn3 with rfl | rfl | rfl <;> decide
theorem og {n : Nat} (hn3 : n = 3 ∨ n = 4 ∨ n = 5) : n ≤ sz n := by rcases hn3 with rfl | rfl | rfl <;> decide
theorem oJ {n : Nat} (hn3 : n = 3 ∨ n = 4 ∨ n = 5) : 0 < sz n := by rcases hn3 with rfl | rfl | rfl <;> decide
theorem uc {n : Nat} (hn3 : n = 3 ∨ n = 4 ∨ n = 5) : (ab (nm n)).Nodup := by rcases hn3 with rfl | rfl | rfl <;> decide
theorem t0 {n : Nat} (hn3 : n = 3 ∨ n = 4 ∨ n = 5) : nm n ∈ aW (ab (nm n)) := by rcases hn3 with rfl | rfl | rfl <;> decide
theorem tZ {n : Nat} (hn3 : n = 3 ∨ n = 4 ∨ n = 5) : (nm n).cps.size ≤ sizeLine := by rcases hn3 with rfl | rfl | rfl <;> (rw [Az]; decide)
theorem vL {n : Nat} (hn3 : n = 3 ∨ n = 4 ∨ n = 5) : IntMulOk (n : Int) ((n : Int) - 1) := by rcases hn3 with rfl | rfl | rfl <;> mul_fits
theorem vK : ∀ {i : Nat}, i < 5 -> IntMulOk (i : Int) ((i : Int) - 1)
 | 0, _ => by mul_fits
 | 1, _ => by mul_fits
 | 2, _ => by mul_fits
 | 3, _ => by mul_fits
 | 4, _ => by mul_fits
 | n + 5, h => absurd h (Bp.mpr (Nat.le_add_left 5 n))
theorem vJ : ∀ {i : Nat}, i < 5 -> IntMulOk (i : Int) ((i : Int) + 1)
 | 0, _ => by mul_fits
 | 1, _ => by mul_fits
 | 2, _ => by mul_fits
 | 3, _ => by mul_fits
 | 4, _ => by mul_fits
 | n + 5, h => absurd h (Bp.mpr (Nat.le_add_left 5 n))
theorem pw5 {i : Nat} (h : i < 5) : 5 ^ i ≤ 625 := Ag (Nat.pow_le_pow_right (by decide) (Nat.le_of_lt_succ h)) (by decide)
theorem szl {n : Nat} (hn3 : n = 3 ∨ n = 4 ∨ n = 5) : (List.take n [(2 : Int), 0, 1, 1, 0] ++ List.take (n * (n - 1) / 2) [1, 2, 0, 3, 0, 1, 0, 2, 0, 1]).length = sz n := by rcases hn3 with rfl | rfl | rfl <;> rfl
theorem eh {n i : Nat} (hn3 : n = 3 ∨ n = 4 ∨ n = 5) (h : i < n) : i < 5 := Bq h (by rcases hn3 with rfl | rfl | rfl <;> decide)
theorem i63 {i : Nat} (h : i < 5) : (i : Int) < 2 ^ 63 := Int.lt_trans (Int.ofNat_lt.mpr h) (by decide)
theorem vP {i : Nat} (h : i < 5) : (i : Int) ≤ 1000 := Int.le_trans (Int.ofNat_le.mpr (Bh h)) (by decide)
theorem mn1 {n ua ub i z : Nat} (t : ua + i = ub) (h : n + ub ≤ z) : min (n + ub - (n + ua)) (z - (n + ua)) = i := by
 subst t
 rw [Nat.add_sub_add_left, Nat.add_sub_cancel_left]
 exact Nat.min_eq_left (Nat.le_sub_of_add_le (by rw [Dh, Db]; exact h))
theorem z10 {n : Nat} {z : Int} (hn3 : n = 3 ∨ n = 4 ∨ n = 5) (h : z < (n : Int)) : z < 10 ^ 10 := Int.lt_trans (iE hn3 h) (by decide)
theorem vO {a b c : Nat} (h1 : a ≤ 0 + 16 * min b c) (h2 : c ≤ 16) : a ≤ 256 := Ag h1 (by rw [Nat.zero_add]; exact Ag (Di 16 (Ag (Nat.min_le_right b c) h2)) (by decide))
theorem uj {a b c d : Nat} (h1 : a ≤ b + min c d) (h2 : d ≤ 16) (h3 : b ≤ 256) : a ≤ 1000 := Ag h1 (Ag (Nat.add_le_add h3 (Ag (Nat.min_le_right c d) h2)) (by decide))
theorem lsz {a b c n : Nat} (hn3 : n = 3 ∨ n = 4 ∨ n = 5) (h : b + c = n) (h1 : a = b) : a ≤ 16777216 := h1 ▸ Ag (h ▸ Bv b c) (Ag (lA hn3) (by decide))
theorem vM {j : Int} {p r n : Nat} (hn3 : n = 3 ∨ n = 4 ∨ n = 5) (h : r + p = n) (h1 : 0 ≤ j) (h2 : j < (p : Int)) : -9223372036854775808 ≤ j ∧ j < 9223372036854775808 :=
 ⟨Int.le_trans (by decide) h1, Int.lt_trans h2 (Int.lt_of_le_of_lt (Int.ofNat_le.mpr (lsz hn3 ((Dh p r).trans h) rfl)) (by decide))⟩
section
variable {w : World} {A : Around} {E : Value -> Shared -> Prop} {s : Shared} {g : Heap} {L : Addr} {m c : Str -> Option Value} {Q : Flow -> Shared -> Prop}
theorem pZ (xs : List Int) : ∃ n : Nat, (n = 3 ∨ n = 4 ∨ n = 5) ∧ 3 + xs.sum.fmod 3 = (n : Int) := by
 have h1 := Int.fmod_nonneg_of_pos xs.sum (b := 3) (by decide)
 have h2 := Int.fmod_lt_of_pos xs.sum (b := 3) (by decide)
 refine ⟨3 + (xs.sum.fmod 3).toNat, (vw h2), (vD h1)⟩
theorem pW {l : Addr} {ns : List Int} {Q : Value -> Shared -> Prop} (hA : A.handled = none) (hl : IsN iOf s.heap l ns) (h : ∀ h' tk t, Ext s.heap h' -> Q (.int ns.sum t) { s with heap := h', toks := tk }) : wpAny (MK w) A (call (.builtin "sum") [.ref l]) Q E s := by
 refine ag hl fun i hl q => ?_
 have hi := fz q
 refine ah hi.allInts.items fun xs hx => ?_
 have hn : numsOf i.toList = ns := hi.numsOf
 rw [show i = i.toList.toArray by simp, hx] at hl
 rw [show i.toList = i.toList.toArray.toList by simp, hx, nums_intItems] at hn
 refine sum_intListG hA hl fun h' tk t' hk => ?_
 have := h h' tk t' hk
 rw [preSum_eq, List.take_of_length_le (by simp), hn]
 exact this
theorem s1_ {sl : Addr} {xs : List Int} {k : Nat} (R : ak A (k + 1)) (G : Gr w g) (S : LS w g s.heap L m c) (hm : m (q "script") = some (.ref sl)) (hx : IsN iOf g sl xs) (hn : xs.length ≤ 63)
  (h : ∀ n h' tk cl zs m' t t', (n = 3 ∨ n = 4 ∨ n = 5) -> LS w g h' L m' (upd c (q "names") (.str (nm n) t)) -> m' (q "size") = some (.int (n : Int) t') -> m' (q "cells") = some (.ref cl) -> m' (q "script") = some (.ref sl) -> IsL iOf h' cl zs -> zs.length = sz n -> L + 7 < cl ->
   wpAny (MK w) A (execs (cH.drop 3) (aK L)) Q E { s with heap := h', toks := tk }) :
  wpAny (MK w) A (execs cH (aK L)) Q E s := by
 refine Ab ?_
 refine ad ?_
 intro Qb
 refine Aq ?_
 refine ad ?_
 intro Qb
 refine Bg ?_
 refine Av ?_
 refine ad ?_
 intro Qb
 refine Bg ?_
 refine bE (S.gr G) rfl rfl ?_
 refine Ak ?_
 refine lsL S hm ?_
 refine An ?_
 refine pW R.h (hx.ext S.e) ?_
 intro h1 tk1 t1 k1
 try dsimp only
 refine Av ?_
 refine mod_int (by decide) ?_
 refine add_int ?_
 refine ag (pZ xs) fun n hn3 hne => ?_
 rw [hne]
 refine eJ (S.up k1) fun h2 S2 kp2 z2 => ?_
 refine Ab ?_
 refine Aq ?_
 refine Dl ?_
 refine Gd ?_
 refine wpAny_Slice ?_
 refine Ge ?_
 refine evalPart_some_step ?_
 refine lsL S2 rfl ?_
 refine Ge ?_
 refine tail_of_ItemOn (SBH.sliceItem_ns (P := fun h' => Ext h2 h') (fun h' ob x => Ext.trans x (ac _ _)) (Ext.refl _) ?_) (by with_unfolding_all rfl) (by intro _; with_unfolding_all rfl)
 intro h3 t3 tk3 k3
 refine jj (S2.up k3) fun h4 S4 kp4 z4 => ?_
 refine Ab ?_
 refine ad ?_
 intro Qb
 refine Aq ?_
 refine ad ?_
 intro Qb
 refine Bg ?_
 refine jJ (k := iOf) ?_
 refine List_ ?_
 iterate 5 refine Ak (Av ?_)
 refine An ?_
 refine Dp ?_
 refine lsL (S4.up (ac _ _)) rfl ?_
 refine EI4 _ [2, 0, 1, 1, 0] n _ ⟨rfl, ⟨_, ⟨0, Heap.get?_push_size _ rfl⟩, rfl⟩, by rw [Az]; decide, rfl, ?_⟩
 intro h5 D5 l5 n5 k5
 dsimp only at l5 n5 k5 ⊢
 have S5 := (S4.up (ac _ _)).up k5
 refine jJ (k := iOf) ?_
 refine List_ ?_
 iterate 10 refine Ak (Av ?_)
 refine An ?_
 refine Dp ?_
 refine ad ?_
 intro Qb
 refine Bg ?_
 refine ad ?_
 intro Qb
 refine Bg ?_
 refine lsL (S5.up (ac _ _)) rfl ?_
 refine Bg ?_
 refine lsL (S5.up (ac _ _)) rfl ?_
 refine Av ?_
 refine sub_int ?_
 refine mul_int ?_ (vL hn3)
 refine Av ?_
 refine floordiv_int (by decide) ?_ (Or.inl (PyProof.noPylong_small (by decide)))
 refine EI4 _ [1, 2, 0, 3, 0, 1, 0, 2, 0, 1] (n * (n - 1) / 2) _ ⟨rfl, ⟨_, ⟨0, Heap.get?_push_size _ rfl⟩, rfl⟩, by rw [Az]; decide, by rcases hn3 with rfl | rfl | rfl <;> rfl, ?_⟩
 intro h6 D6 l6 n6 k6
 dsimp only at l6 n6 k6 ⊢
 have S6 := (S5.up (ac _ _)).up k6
 refine mx (l5.ext (Ext.trans (ac _ _) k6)) l6 (by rw [Az]; simp; omega) ?_
 intro h7 l7 k7
 have S7 := S6.up k7
 have o7 : L + 7 < h6.objs.size := S6.lt
 have len7 := szl hn3
 generalize List.take n [(2 : Int), 0, 1, 1, 0] ++ List.take (n * (n - 1) / 2) [1, 2, 0, 3, 0, 1, 0, 2, 0, 1] = zs at l7 len7
 generalize hD : h6.objs.size = cl at *
 dsimp only
 refine eJ S7 fun h8 S8 kp8 z8 => ?_
 exact h n h8 _ cl zs _ _ _ hn3 S8 rfl rfl hm (l7.kp kp8 (.inr o7)) len7 o7
end
end
section
theorem eM {its : Array Value} {xs : List Int} (h : its.toList.map iOf = xs.map some) {i : Nat} {x : Int} (hi : xs[i]? = some x) : ∃ t, its[i]? = some (.int x t) := by
 have e := congrArg (·[i]?) h
 simp only [List.getElem?_map, Array.getElem?_toList, hi, Dg] at e
 cases hv : its[i]? with
 | none => rw [hv] at e; cases e
 | some v =>
  rw [hv] at e
  refine ah (aF (Bk e)) ?_
  rintro t rfl
  exact ⟨t, rfl⟩
section
variable {w : World} {A : Around} {E : Value -> Shared -> Prop} {s : Shared} {g : Heap} {L : Addr} {m c : Str -> Option Value} {Q : Flow -> Shared -> Prop}
theorem s2_ {sl cl : Addr} {n : Nat} {t t' : Tok} {xs zs : List Int} {k : Nat} (R : ak A (k + 1)) (G : Gr w g) (hn3 : n = 3 ∨ n = 4 ∨ n = 5) (S : LS w g s.heap L m c) (hms : m (q "script") = some (.ref sl)) (hx : IsN iOf g sl xs) (hn : xs.length ≤ 63)
  (hcn : c (q "names") = some (.str (nm n) t)) (hmz : m (q "size") = some (.int (n : Int) t')) (hmc : m (q "cells") = some (.ref cl)) (hz0 : IsN iOf s.heap cl zs) (hzl : zs.length = sz n) (ho : L + 7 < cl)
  (h : ∀ h' tk zs m', LS w g h' L m' c -> m' (q "size") = some (.int (n : Int) t') -> m' (q "cells") = some (.ref cl) -> IsN iOf h' cl zs -> zs.length = sz n ->
   wpAny (MK w) A (execs (cH.drop 4) (aK L)) Q E { s with heap := h', toks := tk }) :
  wpAny (MK w) A (execs (cH.drop 3) (aK L)) Q E s := by
 have lx : ∀ {h'}, Ext g h' -> IsN iOf h' sl xs := fun e => hx.ext e
 have s5 := lg hn3
 have s1 := oJ hn3
 refine Ab ?_
 refine ad ?_
 intro Qb
 refine jF (g := g) (k := iOf) [cl] ?_
 refine ad ?_
 intro Qb
 refine bX (S.gr G) rfl rfl ?_
 refine Ak ?_
 refine bE (S.gr G) rfl rfl ?_
 refine Ak ?_
 refine lsL S hms ?_
 refine An ?_
 refine ag (lx S.e) fun its hp hk => ?_
 have hlen := congrArg List.length hk
 simp only [Ai, As] at hlen
 refine len_list hp (by rw [hlen]; exact Int.lt_of_le_of_lt (Int.ofNat_le.mpr hn) (by decide)) ?_
 refine An ?_
 rw [hlen]
 refine call_range_1 ?_
 refine EI4 m c [] _ ⟨S.up (ac _ _), (fun b hb => by cases hb), ?_, bu (a := 0) (b := (xs.length : Int)) (R.h) (by decide) (by decide) (om5) ((va hn)) (IsRange.new ..), ?_⟩
 ·intro b hb
  rw [Ac.mp hb]
  exact (hz0.ext (ac _ _)).ex
 intro s_2 wr hk2 hlive hbig
 refine aG hk2 ?_
 clear hk2
 rintro h2 tk2 rfl k2
 dsimp only at k2 hlive hbig ⊢
 have hcw : cl ∉ wr := by
  refine ah hz0.ex fun o e => ?_
  exact hlive cl o (ac _ _ _ _ e)
 refine ⟨fun i h m c' => c' = c ∧ m (q "script") = some (.ref sl) ∧ m (q "size") = some (.int (n : Int) t') ∧ m (q "cells") = some (.ref cl) ∧ ∃ zs, IsN iOf h cl zs ∧ zs.length = sz n, ?_, ?_, ?_, ?_⟩
 ·exact ⟨rfl, hms, hmz, hmc, zs, (hz0.ext (ac _ _)).ext k2, hzl⟩
 ·intro i h h' m' c' S' X1 hk
  refine ce X1 ?_
  clear X1
  rintro rfl a b d Z20
  refine ag Z20 fun ys e1 e2 => ?_
  clear Z20
  exact ⟨rfl, a, b, d, ys, e1.at (fun o e => hk _ o hcw e), e2⟩
 ·intro i v y s' m' c' E' hc hv X2 hzl3 S3 X3
  refine aB X2 ?_
  clear X2
  rintro h3 tk3 rfl
  refine ce X3 ?_
  clear X3
  rintro rfl a b d Z21
  refine ag Z21 fun ys e1 e2 => ?_
  clear Z21
  dsimp only at S3 e1 ⊢
  refine ah (aF hv) ?_
  rintro ty rfl
  have hy : ∃ j : Nat, j < xs.length ∧ y = (j : Int) := by
   rw [List.getElem?_map] at hc
   cases hr : (List.range ((xs.length : Int) - 0).toNat)[i]? with
   | none => rw [hr] at hc; cases hc
   | some j =>
    rw [hr] at hc
    have := List.mem_of_getElem? hr
    rw [List.mem_range] at this
    have e : 0 + (j : Int) = y := Bk hc
    exact ⟨j, (oS this), (tV e)⟩
  refine ag hy ?_
  clear hy
  rintro j hj rfl
  refine Ay ?_
  refine eJ S3 fun h4 S4 kp4 z4 => ?_
  have c4 := e1.kp kp4 (.inr ho)
  refine ad ?_
  intro Qb
  refine Ab ?_
  refine wpAny_AugAssign_Subscript_any ?_
  refine lsL S4 d ?_
  refine ad ?_
  intro Qb
  refine Bg ?_
  refine lsL S4 rfl ?_
  refine bE (S4.gr G) rfl rfl ?_
  refine Ak ?_
  refine lsL S4 d ?_
  refine An ?_
  refine ag (id c4) fun ics pc kc => ?_
  have clen := congrArg List.length kc
  simp only [Ai, As] at clen
  refine len_list pc (by rw [clen, e2]; exact Int.lt_of_le_of_lt (Int.ofNat_le.mpr s5) (by decide)) ?_
  refine mod_int ((sk s1 e2 clen)) ?_
  rw [clen, e2]
  have r1 := Int.fmod_nonneg_of_pos (j : Int) (b := (sz n : Int)) ((rZ s1))
  have r2 := Int.fmod_lt_of_pos (j : Int) (b := (sz n : Int)) ((rZ s1))
  generalize Int.fmod (j : Int) (sz n : Int) = r at r1 r2
  have hr : r.toNat < ys.length := e2.symm ▸ (Int.toNat_lt r1).mpr r2
  refine ah (eM kc (List.getElem?_eq_getElem hr)) fun to hto => ?_
  refine wpAny_getItem_list pc r1 (by omega) hto ?_
  refine Dl ?_
  refine lsL S4 a ?_
  refine lsL S4 rfl ?_
  refine ag (lx S4.e) fun its' hp' hk' => ?_
  refine ah (eM hk' (List.getElem?_eq_getElem hj)) fun tx htx => ?_
  refine item_list hp' (om4) (by omega) (by rw [Bo]; exact htx) ?_ 
  refine iadd_int ?_
  refine wpAny_setItem_list pc r1 (by omega) ((ry e2 clen r2)) ?_
  intro h5 l5 s5'
  refine Ah ?_
  refine fun hz5 => ⟨Lk.of, ⟨_, _, S4.sb s5' (.inr ho) (S.gn ho), rfl, a, b, d, ys.set r.toNat (ys[r.toNat] + xs[j]), ?_, ?_⟩, (Kp.x kp4).trans (SB.x s5' (by simp))⟩
  ·refine ⟨_, l5, ?_⟩
   simp [List.map_set, kc, iOf]
  ·rw [List.length_set]; exact e2
 ·intro s' m' c' X4 hzl3 S3 X5
  refine aB X4 ?_
  clear X4
  rintro h3 tk3 rfl
  refine ce X5 ?_
  clear X5
  rintro rfl a b d Z22
  refine ag Z22 fun ys e1 e2 => ?_
  clear Z22
  try dsimp only
  exact h h3 tk3 ys m' S3 b d e1 e2
end
end
section
theorem gN {its : Array Value} {xs : List Str} (h : its.toList.map sOf = xs.map some) {i : Nat} {x : Str} (hi : xs[i]? = some x) : ∃ t, its[i]? = some (.str x t) := by
 have e := congrArg (·[i]?) h
 simp only [List.getElem?_map, Array.getElem?_toList, hi, Dg] at e
 cases hv : its[i]? with
 | none => rw [hv] at e; cases e
 | some v =>
  rw [hv] at e
  refine ah (ai (Bk e)) ?_
  rintro t rfl
  exact ⟨t, rfl⟩
theorem i6 {x : Str} {acc : Array Value} (h : ItemsOf (SignAt x) acc x.cps.size) : acc.toList.map sOf = (ab x).map some := by
 apply List.ext_getElem?
 intro i
 rw [List.getElem?_map, List.getElem?_map, Array.getElem?_toList, ab, List.getElem?_map, Array.getElem?_toList]
 cases hv : acc[i]? with
 | none =>
  have : acc.size ≤ i := by rwa [Array.getElem?_eq_none_iff] at hv
  rw [h.1] at this
  rw [Array.getElem?_eq_none_iff.mpr this]; rfl
 | some v =>
  refine aG (h.2 i v hv) ?_
  rintro c u hc rfl
  rw [hc]; rfl
theorem eC {i : Int} {n : Nat} (h0 : 0 ≤ i) (h1 : i < n) : seqIndex? i n = some i.toNat := by
 unfold seqIndex?
 simp only [if_neg (Int.not_lt.mpr h0)]
 rw [if_pos (by simp [h0, h1])]
theorem fi {α : Type} : ∀ {ps : List α} {k : Nat} {y : α}, ps[k]? = some y -> (y :: ps.eraseIdx k).Perm ps
 | p :: ps, 0, y, h => by simp at h; subst h; simp
 | p :: ps, k + 1, y, h => by
  simp only [List.getElem?_cons_succ] at h
  rw [List.eraseIdx_cons_succ]
  exact (List.Perm.swap p y _).trans ((fi h).cons p)
theorem ej {α β : Type} (f : α -> β) : ∀ (l : List α) (k : Nat), (l.eraseIdx k).map f = (l.map f).eraseIdx k
 | [], _ => rfl
 | a :: l, 0 => rfl
 | a :: l, k + 1 => by rw [List.eraseIdx_cons_succ, A2, A2, List.eraseIdx_cons_succ, ej f l k]
theorem cm {n : Nat} (hn3 : n = 3 ∨ n = 4 ∨ n = 5) : (ab (nm n)).length = n := by rcases hn3 with rfl | rfl | rfl <;> rfl
section
variable {w : World} {A : Around} {E : Value -> Shared -> Prop} {s : Shared} {g : Heap} {L : Addr} {m c : Str -> Option Value} {Q : Flow -> Shared -> Prop}
theorem s3_ {cl : Addr} {n : Nat} {t t' : Tok} {zs : List Int} {k : Nat} (R : ak A (k + 1)) (G : Gr w g) (hn3 : n = 3 ∨ n = 4 ∨ n = 5) (S : LS w g s.heap L m c)
  (hcn : c (q "names") = some (.str (nm n) t)) (hmz : m (q "size") = some (.int (n : Int) t')) (hmc : m (q "cells") = some (.ref cl)) (hz0 : IsN iOf s.heap cl zs) (hzl : zs.length = sz n) (ho : L + 7 < cl)
  (h : ∀ h' tk r rw m', LS w g h' L m' (upd c (q "row") (.ref r)) -> m' (q "size") = some (.int (n : Int) t') -> m' (q "cells") = some (.ref cl) -> IsN iOf h' cl zs -> IsL sOf h' r rw -> rw.Perm (ab (nm n)) -> L + 7 < r -> r ≠ cl ->
   wpAny (MK w) A (execs (cH.drop 7) (aK L)) Q E { s with heap := h', toks := tk }) :
  wpAny (MK w) A (execs (cH.drop 4) (aK L)) Q E s := by
 have s5 := lg hn3
 have s1 := og hn3
 have nl := cm hn3
 have clt : cl < s.heap.objs.size := by obtain ⟨o, e⟩ := hz0.ex; exact A5 e
 refine Ab ?_
 refine ad ?_
 intro Qb
 refine Aq ?_
 refine ad ?_
 intro Qb
 refine bX (S.gr G) rfl rfl ?_
 refine Ak ?_
 refine lsC S hcn ?_
 refine An ?_
 refine call_list_str R.h _ _ ?_ (tZ hn3)
 intro h1 tk1 acc c1 k1 hacc hit
 try dsimp only
 have l1 : IsL sOf h1 s.heap.objs.size (ab (nm n)) := ⟨acc, ⟨_, hacc⟩, i6 hit⟩
 have S1 := S.up k1
 have o1 : L + 7 < s.heap.objs.size := S.lt
 have z1 := hz0.ext k1
 have np1 : cl ≠ s.heap.objs.size := B3 clt
 have lp1 : s.heap.objs.size < h1.objs.size := by obtain ⟨o, e⟩ := l1.ex; exact A5 e
 generalize s.heap.objs.size = p at *
 refine eJ S1 fun h2 S2 kp2 z2 => ?_
 have l2 := l1.kp kp2 (.inr o1)
 have zz2 := z1.kp kp2 (.inr ho)
 refine Ab ?_
 refine Aq ?_
 refine bW ?_
 intro h3 r3 k3
 dsimp only at r3 k3 ⊢
 have r3 := r3 Str sOf
 have S3 := S2.up k3
 have o3 : L + 7 < h2.objs.size := S2.lt
 have pr : p ≠ h2.objs.size := by rw [z2]; exact B3 lp1
 have cr : cl ≠ h2.objs.size := by rw [z2]; exact B3 (Gj clt lp1)
 generalize h2.objs.size = r at *
 refine jj S3 fun h4 S4 kp4 z4 => ?_
 have l4 := (l2.ext k3).kp kp4 (.inr o1)
 have r4 := r3.kp kp4 (.inr o3)
 have c4 := (zz2.ext k3).kp kp4 (.inr ho)
 refine Ab ?_
 refine ad ?_
 intro Qb
 refine jF (g := g) (k := iOf) [p, r] ?_
 refine bX (S4.gr G) rfl rfl ?_
 refine Ak ?_
 refine lsL S4 hmz ?_
 refine An ?_
 refine call_range_1 ?_
 refine EI4 _ _ [] _ ⟨S4.up (ac _ _), (fun b hb => by cases hb), ?_, bu (a := 0) (b := (n : Int)) R.h (by decide) (by decide) om5 (mY hn3) (IsRange.new ..), ?_⟩
 ·intro b hb
  rcases Ap.mp hb with rfl | hb
  ·exact (l4.ext (ac _ _)).ex
  ·rw [Ac.mp hb]; exact (r4.ext (ac _ _)).ex
 intro s_2 wr hk2 hlive hbig
 refine aG hk2 ?_
 clear hk2
 rintro h5 tk5 rfl k5
 dsimp only at k5 hlive hbig ⊢
 have pw_ : p ∉ wr := by obtain ⟨o, e⟩ := l4.ex; exact hlive p o (ac _ _ _ _ e)
 have rw_ : r ∉ wr := by obtain ⟨o, e⟩ := r4.ex; exact hlive r o (ac _ _ _ _ e)
 have cw_ : cl ∉ wr := by obtain ⟨o, e⟩ := c4.ex; exact hlive cl o (ac _ _ _ _ e)
 refine ⟨fun i h m c' => c' = upd c (q "row") (.ref r) ∧ m (q "size") = some (.int (n : Int) t') ∧ m (q "cells") = some (.ref cl) ∧ m (q "pool") = some (.ref p) ∧ IsN iOf h cl zs ∧
  ∃ ps rs, IsL sOf h p ps ∧ IsL sOf h r rs ∧ (rs ++ ps).Perm (ab (nm n)) ∧ rs.length = i, ?_, ?_, ?_, ?_⟩
 ·exact ⟨rfl, hmz, hmc, rfl, (c4.ext (ac _ _)).ext k5, _, [], (l4.ext (ac _ _)).ext k5, (r4.ext (ac _ _)).ext k5, .refl _, rfl⟩
 ·intro i h h' m' c' S' X1 hk
  refine fW X1 ?_
  clear X1
  rintro rfl a b d e1 Z2
  refine dv Z2 fun ps rs e2 e3 e4 e5 => ?_
  clear Z2
  exact ⟨rfl, a, b, d, e1.at (fun o e => hk _ o cw_ e), ps, rs, e2.at (fun o e => hk _ o pw_ e), e3.at (fun o e => hk _ o rw_ e), e4, e5⟩
 ·intro i v y s' m' c' E' hc hv X2 hzl6 S6 X3
  refine aB X2 ?_
  clear X2
  rintro h6 tk6 rfl
  refine fW X3 ?_
  clear X3
  rintro rfl a b d e1 Z3
  refine dv Z3 fun ps rs e2 e3 e4 e5 => ?_
  clear Z3
  dsimp only at S6 e1 e2 e3 ⊢
  refine ah (aF hv) ?_
  rintro ty rfl
  have hy : i < n ∧ y = (i : Int) := by
   rw [List.getElem?_map] at hc
   cases hr : (List.range ((n : Int) - 0).toNat)[i]? with
   | none => rw [hr] at hc; cases hc
   | some j =>
    rw [hr] at hc
    have hi := (List.getElem?_eq_some_iff.mp hr).1
    rw [Dk] at hi
    rw [List.getElem?_range hi] at hr
    have e : 0 + (j : Int) = y := Bk hc
    have e' : i = j := Bk hr
    exact ⟨(oS hi), (qh e e')⟩
  refine ao hy ?_
  clear hy
  rintro hin rfl
  refine Ay ?_
  refine eJ S6 fun h7 S7 kp7 z7 => ?_
  have c7 := e1.kp kp7 (.inr ho)
  have p7 := e2.kp kp7 (.inr o1)
  have r7 := e3.kp kp7 (.inr o3)
  have hpl := e4.length_eq
  rw [A3, nl] at hpl
  refine ad ?_
  intro Qb
  refine Ab ?_
  refine wpAny_Expr_any ?_
  refine ad ?_
  intro Qb
  refine Bc (pl := _) ?_
  refine lsC S7 rfl ?_
  refine ag (id r7) fun ir pr7 kr7 => ?_
  refine ah (id pr7) fun nr qr7 => ?_
  have rlen := congrArg List.length kr7
  simp only [Ai, As] at rlen
  refine Bi (T := "list") (id := "list.append") ⟨_, qr7, rfl⟩ Bn Go Gn (fun b e => by cases e; exact ⟨_, qr7, rfl⟩) ?_
  refine Gb ?_
  refine Ak ?_
  refine ad ?_
  intro Qb
  refine Bc (pl := _) ?_
  refine lsL S7 d ?_
  refine ag (id p7) fun ip pp7 kp7' => ?_
  refine ah (id pp7) fun np qp7 => ?_
  have plen := congrArg List.length kp7'
  simp only [Ai, As] at plen
  refine Bi (T := "list") (id := "list.pop") ⟨_, qp7, rfl⟩ Bn PySem.F.slot_list_pop PySem.F.type_list_pop (fun b e => by cases e; exact ⟨_, qp7, rfl⟩) ?_
  refine P.pop_at_list ?_
  refine ad ?_
  intro Qb
  refine Bg ?_
  refine Dl ?_
  refine lsL S7 b ?_
  refine lsL S7 rfl ?_
  refine ag (id c7) fun ic pc7 kc7 => ?_
  refine ah (eM kc7 (List.getElem?_eq_getElem (Bq hin (Ag s1 (Dq hzl.symm))))) fun tz htz => ?_
  refine item_list pc7 om4 (i63 (eh hn3 hin)) (by rw [Bo]; exact htz) ?_
  refine ad ?_
  intro Qb
  refine bE (S7.gr G) rfl rfl ?_
  refine Ak ?_
  refine lsL S7 d ?_
  refine An ?_
  refine len_list pp7.isList (by rw [plen]; exact Int.lt_of_le_of_lt (Int.ofNat_le.mpr (lsz hn3 ((Dh _ _).trans hpl) rfl)) (by decide)) ?_
  refine mod_int ((q7 e5 hin hpl plen)) ?_
  rw [plen]
  have q1 := Int.fmod_nonneg_of_pos zs[i] (b := (ps.length : Int)) ((qm e5 hin hpl))
  have q2 := Int.fmod_lt_of_pos zs[i] (b := (ps.length : Int)) ((qm e5 hin hpl))
  generalize Int.fmod zs[i] (ps.length : Int) = j at q1 q2
  have hj : j.toNat < ps.length := (re e5 hin hpl q2)
  refine ah (gN kp7' (List.getElem?_eq_getElem hj)) fun tp htp => ?_
  refine EI6 ip np j _ (j.toNat) _ ⟨by rw [Az, plen]; exact lsz hn3 ((Dh _ _).trans hpl) rfl, rfl, qp7, by simp [Builtin.List.listFitsIndex]; exact vM hn3 hpl q1 q2, eC q1 ((qp plen q2)), htp, ?_⟩
  refine An ?_
  have s8 : Heap.SameBut p h7 (h7.update p (Obj.mapSeq fun xs => xs.eraseIdxIfInBounds j.toNat)) := A8 ..
  have l8 : IsL sOf (h7.update p (Obj.mapSeq fun xs => xs.eraseIdxIfInBounds j.toNat)) p (ps.eraseIdx j.toNat) := ⟨_, ⟨_, PySem.IsL.update qp7 _⟩, by
   rw [show (ip.eraseIdxIfInBounds j.toNat).toList = ip.toList.eraseIdx j.toNat from by simp, ej, kp7', ej]⟩
  generalize h7.update p (Obj.mapSeq fun xs => xs.eraseIdxIfInBounds j.toNat) = h8 at *
  have S8 := S7.sb s8 (.inr o1) (S7.gn o1)
  have r8 : h8.PlainList r ir := pr7.at fun o e => s8.extBut _ o (Ne.symm pr) e
  have c8 := c7.at fun o e => s8.extBut _ o np1 e
  refine Dm r8 ?_ (by rw [Az]; exact lsz hn3 hpl rlen)
  intro h9 l9 s9
  have S9 := S8.sb s9 (.inr o3) (S8.gn o3)
  refine Ah ?_
  refine fun hz9 => ⟨Lk.of, ⟨_, _, S9, rfl, a, b, d, c8.at fun o e => s9.extBut _ o cr e, ps.eraseIdx j.toNat, rs ++ [ps[j.toNat]], l8.at fun o e => s9.extBut _ o pr e, ⟨_, l9, ?_⟩, ?_, ?_⟩, ((Kp.x kp7).trans (SB.x s8 (by simp))).trans (SB.x s9 (by simp))⟩
  ·rw [G7, Ba, kr7]; simp [sOf]
  ·rw [List.append_assoc]
   exact (List.Perm.append_left rs (fi (List.getElem?_eq_getElem hj))).trans e4
  ·rw [A3, e5]; rfl
 ·intro s' m' c' X4 hzl6 S6 X5
  refine aB X4 ?_
  clear X4
  rintro h6 tk6 rfl
  refine fW X5 ?_
  clear X5
  rintro rfl a b d e1 Z4
  refine dv Z4 fun ps rs e2 e3 e4 e5 => ?_
  clear Z4
  try dsimp only
  have hpl := e4.length_eq
  rw [A3, nl] at hpl
  simp only [Ai, Dk] at e5
  have : ps = [] := Gu ((sj hpl e5))
  subst this
  rw [Gi] at e4
  exact h h6 tk6 r rs m' S6 a b e1 e3 e4 o3 (Ne.symm cr)
end
end
def rOf : Value -> Option Addr | .ref a => some a | _ => none
theorem lv {v : Value} {a : Addr} (h : rOf v = some a) : v = .ref a := by cases v <;> simp [rOf] at h; rw [h]
structure ev where
 x : Str
 a : Addr
 l : List Str
def b0 (es : List ev) (x : Str) : List Str := ((es.find? fun e => decide (e.x = x)).map (·.l)).getD []
def nq (es : List ev) (x : Str) : Addr := ((es.find? fun e => decide (e.x = x)).map (·.a)).getD 0
structure NS (w : World) (h : Heap) (L nd : Addr) (rw_ : List Str) (es : List ev) : Prop where
 d : IsD w rOf h nd (es.map fun e => (e.x, e.a))
 ks : es.map (·.x) = rw_.take es.length
 ls : ∀ e ∈ es, IsL sOf h e.a e.l ∧ L + 7 < e.a
 ok : ∀ i e, es[i]? = some e -> (∀ y ∈ e.l, y ∈ rw_.take i) ∧ e.l.length ≤ 8
theorem dI {x : Str} : ∀ {es : List ev}, x ∈ es.map (·.x) -> ∃ (i : Nat) (e : ev), es[i]? = some e ∧ e.x = x ∧ es.find? (fun e => decide (e.x = x)) = some e
 | [], h => by cases h
 | a :: es, h => by
  by_cases q : a.x = x
  ·exact EI2 0 a ⟨rfl, q, by simp [q]⟩
  ·have h' : x ∈ es.map (·.x) := by
    rcases Ap.mp h with r | r
    ·exact absurd r.symm q
    ·exact r
   refine db (dI h') fun i e h1 h2 h3 => ?_
   exact EI2 (i + 1) e ⟨h1, h2, by rw [List.find?_cons, decide_eq_false q]; exact h3⟩
theorem ny (es : List ev) (x : Str) : got (es.map fun e => (e.x, e.a)) x = (es.find? fun e => decide (e.x = x)).map (·.a) := by
 unfold got
 rw [List.find?_map, Option.map_map]
 rfl
theorem NS.needsAt {w : World} {h : Heap} {L nd : Addr} {rw_ nm : List Str} {es : List ev} (N : NS w h L nd rw_ es) (hl : es.length = rw_.length) (hp : rw_.Perm nm) : bA w h nd nm (b0 es) := by
 have hk : es.map (·.x) = rw_ := by rw [N.ks, hl, A7]
 refine ⟨nq es, ?_, fun x hx => ?_⟩
 ·refine ag N.d fun vs d r => ?_
  have key : ∀ x, valueAt vs x = if x ∈ nm then some (.ref (nq es x)) else none := fun x => by
   have g := r.got (x := x)
   rw [ny] at g
   by_cases hx : x ∈ nm
   ·rw [if_pos hx]
    obtain ⟨i, e, h1, h2, h3⟩ := dI (show x ∈ es.map (·.x) by rw [hk]; exact hp.mem_iff.mpr hx)
    rw [h3] at g
    cases hv : valueAt vs x with
    | none => rw [hv] at g; cases g
    | some v =>
     rw [hv] at g
     have := lv (Bk g)
     rw [this, nq, h3]; rfl
   ·rw [if_neg hx]
    have : es.find? (fun e => decide (e.x = x)) = none := by
     rw [List.find?_eq_none]
     intro e he q
     exact hx (hp.mem_iff.mp (by rw [<- hk]; exact A0.mpr ⟨e, he, Dz q⟩))
    rw [this] at g
    cases hv : valueAt vs x with
    | none => rfl
    | some v => rw [hv] at g; cases g
  refine jG d.mapOf fun o es' ep ho hd h1 h2 h3 => ?_
  exact EI3 o es' ep ⟨ho, hd, h1, h2, fun x => (h3 x).trans (key x)⟩
 ·have : x ∈ es.map (·.x) := by rw [hk]; exact hp.mem_iff.mpr hx
  refine db (dI this) fun i e h1 h2 h3 => ?_
  rw [nq, b0, h3]
  exact (N.ls e (List.mem_of_getElem? h1)).1
theorem fF {y : Str} : ∀ {l : List Str} {i : Nat}, y ∈ l.take i -> l.idxOf y < i
 | [], i, h => by simp at h
 | a :: l, 0, h => by simp at h
 | a :: l, i + 1, h => by
  rw [List.take_succ_cons] at h
  rw [List.idxOf_cons]
  by_cases q : a = y
  ·simp [q]
  ·rcases Ap.mp h with r | r
   ·exact absurd r.symm q
   ·have := fF r
    rw [show (a == y) = false by simpa using q]; simp; exact td this
theorem gQ {z : Str} : ∀ {l : List Str} {i : Nat}, l.Nodup -> l[i]? = some z -> l.idxOf z = i
 | [], i, _, h => by simp at h
 | a :: l, 0, _, h => by simp at h; simp [h]
 | a :: l, i + 1, n, h => by
  rw [List.getElem?_cons_succ] at h
  have hne : a ≠ z := fun q => (Br.mp n).1 (q ▸ List.mem_of_getElem? h)
  rw [List.idxOf_cons, show (a == z) = false by simpa using hne, gQ (Br.mp n).2 h]; rfl
theorem NS.facts {w : World} {h : Heap} {L nd : Addr} {rw_ nm : List Str} {es : List ev} (N : NS w h L nd rw_ es) (hl : es.length = rw_.length) (hp : rw_.Perm nm) (hn : nm.Nodup) :
  aV nm (b0 es) ∧ (∀ y ∈ nm, (b0 es y).length ≤ 8) ∧ ∀ z ∈ nm, ∀ y ∈ b0 es z, rw_.idxOf y < rw_.idxOf z := by
 have hk : es.map (·.x) = rw_ := by rw [N.ks, hl, A7]
 have hnr : rw_.Nodup := hp.nodup_iff.mpr hn
 have at_ : ∀ x ∈ nm, ∃ (i : Nat) (e : ev), es[i]? = some e ∧ rw_[i]? = some x ∧ b0 es x = e.l := fun x hx => by
  obtain ⟨i, e, h1, h2, h3⟩ := dI (show x ∈ es.map (·.x) by rw [hk]; exact hp.mem_iff.mpr hx)
  exact EI2 i e ⟨h1, by rw [<- hk, List.getElem?_map, h1, <- h2]; rfl, by rw [b0, h3]; rfl⟩
 refine ⟨⟨hn, fun y hy z hz => ?_⟩, fun y hy => ?_, fun z hz y hy => ?_⟩
 ·refine db (at_ y hy) fun i e h1 h2 h3 => ?_
  rw [h3] at hz
  exact hp.mem_iff.mp (Df ((N.ok i e h1).1 z hz))
 ·refine db (at_ y hy) fun i e h1 h2 h3 => ?_
  rw [h3]; exact (N.ok i e h1).2
 ·refine db (at_ z hz) fun i e h1 h2 h3 => ?_
  rw [h3] at hy
  rw [gQ hnr h2]
  exact fF ((N.ok i e h1).1 y hy)
theorem NS.at {w : World} {h h' : Heap} {L nd : Addr} {rw_ : List Str} {es : List ev} (N : NS w h L nd rw_ es) (e : ∀ b, b = nd ∨ b ∈ es.map (·.a) -> ∀ o, h.get? b = some o -> h'.get? b = some o) : NS w h' L nd rw_ es :=
 ⟨N.d.at (e nd (.inl rfl)), N.ks, fun x hx => ⟨(N.ls x hx).1.at (e _ (.inr (A0.mpr ⟨x, hx, rfl⟩))), (N.ls x hx).2⟩, N.ok⟩
theorem NS.add {w : World} {h h' : Heap} {L nd : Addr} {rw_ : List Str} {es : List ev} {x : Str} {a : Addr} {l : List Str} (N : NS w h L nd rw_ es) (hnr : rw_.Nodup) (hx : rw_[es.length]? = some x)
  (d : IsD w rOf h' nd (put (es.map fun e => (e.x, e.a)) x a)) (k : ∀ b, b ∈ es.map (·.a) -> ∀ o, h.get? b = some o -> h'.get? b = some o) (hl : IsL sOf h' a l) (ha : L + 7 < a) (h1 : ∀ y ∈ l, y ∈ rw_.take es.length) (h2 : l.length ≤ 8) : NS w h' L nd rw_ (es ++ [⟨x, a, l⟩]) := by
 have hk : (es ++ [ev.mk x a l]).map (·.x) = rw_.take (es.length + 1) := by
  rw [Ba, N.ks, Dr, hx]; rfl
 have hno : (es.map fun e => (e.x, e.a)).any (fun p => decide (p.1 = x)) = false := by
  rw [List.any_eq_false]
  intro p hp q
  refine ag (A0.mp hp) ?_
  rintro e he rfl
  have m : e.x ∈ rw_.take es.length := by rw [<- N.ks]; exact A0.mpr ⟨e, he, rfl⟩
  have q' : e.x = x := Dz q
  rw [q'] at m
  have := fF m
  rw [gQ hnr hx] at this
  exact A9 _ this
 refine ⟨?_, ?_, ?_, ?_⟩
 ·rw [put, hno] at d
  simpa using d
 ·rw [hk, A3]; rfl
 ·intro e he
  rcases Au.mp he with q | q
  ·exact ⟨(N.ls e q).1.at (k _ (A0.mpr ⟨e, q, rfl⟩)), (N.ls e q).2⟩
  ·rw [Ac.mp q]; exact ⟨hl, ha⟩
 ·intro i e he
  by_cases hi : i < es.length
  ·rw [List.getElem?_append_left hi] at he
   exact N.ok i e he
  ·have hi' := (List.getElem?_eq_some_iff.mp he).1
   simp only [A3, Dd] at hi'
   have : i = es.length := (qt hi hi')
   subst this
   rw [List.getElem?_append_right (Aw _), Nat.sub_self] at he
   cases he
   exact ⟨h1, h2⟩
end Mine
end
section
open PySem PySem.W PyProof.Rows PySem.Calls PySem.Spec
namespace Mine
theorem bB {names : List Str} {need : Str -> List Str} {hp : List Str} (N : aV names need) (V : bF names need hp) : dQ names need hp (bv need names hp) := by
 have := (i9 N V hp.length (Aw _)).2
 rwa [A7] at this
theorem iZ {names : List Str} {need : Str -> List Str} {hp : List Str} {y : Str} (V : bF names need hp) (h1 : y ∈ names) (h2 : y ∉ hp) (h3 : ∀ u ∈ need y, u ∈ hp) : bF names need (hp ++ [y]) := by
 intro i z hz
 by_cases hi : i < hp.length
 ·rw [List.getElem?_append_left hi] at hz
  rw [List.take_append_of_le_length (Bh hi)]
  exact V i z hz
 ·have hi' := (List.getElem?_eq_some_iff.mp hz).1
  simp only [A3, Dd] at hi'
  have e : i = hp.length := (qt hi hi')
  subst e
  rw [List.getElem?_append_right (Aw _), Nat.sub_self] at hz
  cases hz
  rw [List.take_append_of_le_length (Aw _), A7]
  exact ⟨h1, h2, h3⟩
theorem j6 (names : List Str) (need : Str -> List Str) : bF names need [] := fun i z hz => by cases hz
def cj (need : Str -> List Str) (names : Str) (os : List Str) : List Str := os.flatMap fun h => (bv need (ab names) (ab h)).map fun y => h ++ y
def aS (need : Str -> List Str) (names : Str) : Nat -> List Str
 | 0 => [⟨#[]⟩]
 | k + 1 => cj need names (aS need names k)
theorem az {need : Str -> List Str} {names : Str} (N : aV (ab names) need) : ∀ k, ∀ o ∈ aS need names k, bF (ab names) need (ab o) ∧ (ab o).length = k
 | 0, o, h => by
  rw [Ac.mp h]
  exact ⟨j6 _ _, rfl⟩
 | k + 1, o, h => by
  refine ag (Dw.mp h) fun p hp h => ?_
  refine ag (A0.mp h) ?_
  rintro y hy rfl
  refine ao (az N k p hp) fun V l => ?_
  refine cG (((bB N V).2 y).mp hy) fun a b c => ?_
  rw [aN, gE a]
  exact ⟨iZ V a b c, by rw [A3, l]; rfl⟩
theorem b9 {α β : Type} {f : α -> List β} {k : Nat} : ∀ {l : List α}, (∀ a ∈ l, (f a).length ≤ k) -> (l.flatMap f).length ≤ k * l.length
 | [], _ => by simp
 | a :: l, h => by
  have := b9 (l := l) fun b hb => h b (A1 _ hb)
  have := h a Ar
  simp only [D7, A3, Bj, Nat.mul_add]; omega
theorem gh {names : List Str} {need : Str -> List Str} {hp : List Str} (N : aV names need) (V : bF names need hp) : (bv need names hp).length ≤ names.length :=
 bm (bB N V).1 fun z hz => (((bB N V).2 z).mp hz).1
theorem iC {need : Str -> List Str} {names : Str} (N : aV (ab names) need) (hn : (ab names).length ≤ 5) : ∀ k, (aS need names k).length ≤ 5 ^ k
 | 0 => Aw _
 | k + 1 => by
  have := b9 (k := 5) (l := aS need names k) (f := fun h => (bv need (ab names) (ab h)).map fun y => h ++ y) fun o ho => by
   rw [Ai]
   exact Ag (gh N (az N k o ho).1) hn
  have ih := iC N hn k
  show (cj need names (aS need names k)).length ≤ _
  unfold cj
  rw [Nat.pow_succ]; exact rL this ih
end Mine
end
section
open PySem PySem.W PyProof.Rows PySem.Calls
namespace Mine
section
theorem uO : ∀ {j : Nat}, j < 5 -> ((j : Int) * ((j : Int) - 1)).fdiv 2 = ((j * (j - 1) / 2 : Nat) : Int)
 | 0, _ => rfl | 1, _ => rfl | 2, _ => rfl | 3, _ => rfl | 4, _ => rfl
 | n + 5, h => absurd h (qE)
theorem uN : ∀ {j : Nat}, j < 5 -> ((j : Int) * ((j : Int) + 1)).fdiv 2 = ((j * (j + 1) / 2 : Nat) : Int)
 | 0, _ => rfl | 1, _ => rfl | 2, _ => rfl | 3, _ => rfl | 4, _ => rfl
 | n + 5, h => absurd h (qE)
theorem uM : ∀ {n j : Nat}, n ≤ 5 -> j < n -> j * (j - 1) / 2 + j = j * (j + 1) / 2 ∧ n + j * (j + 1) / 2 ≤ sz n
 | n, 0, h, h' => ⟨rfl, by unfold sz; exact sw⟩
 | n, 1, h, h' => ⟨rfl, by rcases (show n = 2 ∨ n = 3 ∨ n = 4 ∨ n = 5 by omega) with rfl | rfl | rfl | rfl <;> decide⟩
 | n, 2, h, h' => ⟨rfl, by rcases (show n = 3 ∨ n = 4 ∨ n = 5 by omega) with rfl | rfl | rfl <;> decide⟩
 | n, 3, h, h' => ⟨rfl, by rcases (show n = 4 ∨ n = 5 by omega) with rfl | rfl <;> decide⟩
 | n, 4, h, h' => ⟨rfl, by rcases (show n = 5 by omega) with rfl; decide⟩
 | n, j + 5, h, h' => absurd h' ((sI h))
theorem dj {n i : Nat} {y : Int} (h : ((List.range ((n : Int) - 0).toNat).map fun i : Nat => (0 : Int) + (i : Int))[i]? = some y) : i < n ∧ y = (i : Int) := by
 rw [List.getElem?_map] at h
 cases hr : (List.range ((n : Int) - 0).toNat)[i]? with
 | none => rw [hr] at h; cases h
 | some j =>
  rw [hr] at h
  have hi := (List.getElem?_eq_some_iff.mp hr).1
  rw [Dk] at hi
  rw [List.getElem?_range hi] at hr
  have e : 0 + (j : Int) = y := Bk h
  have e' : i = j := Bk hr
  exact ⟨(oS hi), (qh e e')⟩
theorem ef {n : Nat} {y : Int} (h : y ∈ (List.range ((n : Int) - 0).toNat).map fun i : Nat => (0 : Int) + (i : Int)) : ∃ i : Nat, i < n ∧ y = (i : Int) := by
 refine ah (List.getElem?_of_mem h) fun i hi => ?_
 exact ⟨i, dj hi⟩
def hW (tl : List Int) (i : Int) : List Int := (List.range ((((tl[i.toNat]?.getD 0).fmod 4 - 1) - 0).toNat)).map fun i : Nat => (0 : Int) + (i : Int)
theorem hO (tl : List Int) (i : Int) : (hW tl i).length ≤ 2 := by
 unfold hW
 rw [Ai, Dk]
 have := Int.fmod_lt_of_pos (tl[i.toNat]?.getD 0) (b := 4) (by decide)
 exact vu this
def gv (rw_ : List Str) (tl : List Int) (j : Nat) : List Str := ((List.range ((j : Int) - 0).toNat).map fun i : Nat => (0 : Int) + (i : Int)).flatMap fun c => ((hW tl c).filter fun _ => true).map fun _ => rw_[c.toNat]?.getD ⟨#[]⟩
theorem lG {rw_ : List Str} {tl : List Int} {j : Nat} (hj : j < 5) (hr : j ≤ rw_.length) : (∀ y ∈ gv rw_ tl j, y ∈ rw_.take j) ∧ (gv rw_ tl j).length ≤ 8 := by
 constructor
 ·intro y hy
  refine ag (Dw.mp hy) fun c hc hy => ?_
  refine ag (A0.mp hy) ?_
  rintro b _ rfl
  refine ag (ef hc) ?_
  rintro i hi rfl
  rw [Bo]
  have hi' : i < rw_.length := (rC hr hi)
  rw [List.getElem?_eq_getElem hi', Option.getD_some, List.mem_take_iff_getElem]
  exact ⟨i, by omega, rfl⟩
 ·have := b9 (k := 2) (l := (List.range ((j : Int) - 0).toNat).map fun i : Nat => (0 : Int) + (i : Int)) (f := fun c => ((hW tl c).filter fun _ => true).map fun _ => rw_[c.toNat]?.getD ⟨#[]⟩) fun c _ => by
   rw [Ai, List.filter_eq_self.mpr fun _ _ => rfl]; exact hO tl c
  rw [Ai, Dk] at this
  show (gv rw_ tl j).length ≤ 8
  unfold gv
  exact oA hj this
section
variable {w : World} {A : Around} {E : Value -> Shared -> Prop} {s : Shared} {g : Heap} {L : Addr} {m c : Str -> Option Value} {Q : Flow -> Shared -> Prop}
theorem s4_ {cl r : Addr} {n : Nat} {t t' : Tok} {zs : List Int} {rw_ : List Str} {k : Nat} (R : ak A (k + 1)) (G : Gr w g) (hn3 : n = 3 ∨ n = 4 ∨ n = 5) (S : LS w g s.heap L m c)
  (hcn : c (q "names") = some (.str (nm n) t)) (hcr : c (q "row") = some (.ref r)) (hmz : m (q "size") = some (.int (n : Int) t')) (hmc : m (q "cells") = some (.ref cl)) (hz0 : IsN iOf s.heap cl zs) (hzl : zs.length = sz n) (ho : L + 7 < cl)
  (hr0 : IsL sOf s.heap r rw_) (hrp : rw_.Perm (ab (nm n))) (hor : L + 7 < r)
  (h : ∀ h' tk nd es m' c', LS w g h' L m' c' -> c' (q "names") = some (.str (nm n) t) -> c' (q "needs") = some (.ref nd) -> m' (q "size") = some (.int (n : Int) t') -> NS w h' L nd rw_ es -> es.length = n -> L + 7 < nd ->
   wpAny (MK w) A (execs (cH.drop 9) (aK L)) Q E { s with heap := h', toks := tk }) :
  wpAny (MK w) A (execs (cH.drop 7) (aK L)) Q E s := by
 have s5 := lg hn3
 have s1 := og hn3
 have n5 : n ≤ 5 := (lA hn3)
 have rl : rw_.length = n := by rw [hrp.length_eq, cm hn3]
 have nd_ := uc hn3
 have hnr : rw_.Nodup := hrp.nodup_iff.mpr nd_
 have clt : cl < s.heap.objs.size := by obtain ⟨o, e⟩ := hz0.ex; exact A5 e
 have rlt : r < s.heap.objs.size := by obtain ⟨o, e⟩ := hr0.ex; exact A5 e
 refine Ab ?_
 refine Aq ?_
 refine gT ?_
 intro h1 d1 k1
 have d1 := d1 Addr rOf
 have S1 := S.up k1
 have o1 : L + 7 < s.heap.objs.size := S.lt
 have cn : cl ≠ s.heap.objs.size := B3 clt
 have rn : r ≠ s.heap.objs.size := B3 rlt
 generalize s.heap.objs.size = nd at *
 refine jj S1 fun h2 S2 kp2 z2 => ?_
 have d2 := d1.kp kp2 (.inr o1)
 have c2 := (hz0.ext k1).kp kp2 (.inr ho)
 have r2 := (hr0.ext k1).kp kp2 (.inr hor)
 refine Ab ?_
 refine ad ?_
 intro Qb
 refine jF (g := g) (k := iOf) [nd] ?_
 refine bX (S2.gr G) rfl rfl ?_
 refine Ak ?_
 refine lsL S2 hmz ?_
 refine An ?_
 refine call_range_1 ?_
 refine EI4 _ _ [] _ ⟨S2.up (ac _ _), (fun b hb => by cases hb), ?_, bu (a := 0) (b := (n : Int)) R.h (by decide) (by decide) om5 (mY hn3) (IsRange.new ..), ?_⟩
 ·intro b hb
  rw [Ac.mp hb]; exact (d2.ext (ac _ _)).ex
 intro s_2 wr hk2 hlive hbig
 refine aG hk2 ?_
 clear hk2
 rintro h5 tk5 rfl k5
 dsimp only at k5 hlive hbig ⊢
 have nw_ : nd ∉ wr := by obtain ⟨o, e⟩ := d2.ex; exact hlive nd o (ac _ _ _ _ e)
 have rw' : r ∉ wr := by obtain ⟨o, e⟩ := r2.ex; exact hlive r o (ac _ _ _ _ e)
 have cw_ : cl ∉ wr := by obtain ⟨o, e⟩ := c2.ex; exact hlive cl o (ac _ _ _ _ e)
 refine ⟨fun i h m c' => c' (q "names") = some (.str (nm n) t) ∧ c' (q "row") = some (.ref r) ∧ c' (q "needs") = some (.ref nd) ∧ m (q "size") = some (.int (n : Int) t') ∧ m (q "cells") = some (.ref cl) ∧ IsN iOf h cl zs ∧ IsL sOf h r rw_ ∧
  ∃ es, NS w h L nd rw_ es ∧ es.length = i ∧ ∀ b ∈ es.map (·.a), b ∉ wr ∧ nd ≠ b, ?_, ?_, ?_, ?_⟩
 ·refine ⟨hcn, hcr, rfl, hmz, hmc, (c2.ext (ac _ _)).ext k5, (r2.ext (ac _ _)).ext k5, [], ⟨(d2.ext (ac _ _)).ext k5, rfl, (fun e he => by cases he), (fun i e he => by cases he)⟩, rfl, (fun b hb => by cases hb)⟩
 ·intro i h h' m' c' S' X1 hk
  refine kU X1 fun a1 a2 a3 a4 a5 e1 e2 Z29 => ?_
  clear X1
  refine aZ Z29 fun es N el ew => ?_
  clear Z29
  exact ⟨a1, a2, a3, a4, a5, e1.at (fun o e => hk _ o cw_ e), e2.at (fun o e => hk _ o rw' e), es, N.at (fun b hb o e => hk b o (by
   rcases hb with rfl | hb
   ·exact nw_
   ·exact (ew b hb).1) e), el, ew⟩
 ·intro i v y s' m' c' E' hc hv X2 hzl6 S6 X3
  refine aB X2 ?_
  clear X2
  rintro h6 tk6 rfl
  refine kU X3 fun a1 a2 a3 a4 a5 e1 e2 Z30 => ?_
  clear X3
  refine aZ Z30 fun es N el ew => ?_
  clear Z30
  dsimp only at S6 e1 e2 N hzl6 ⊢
  refine ah (aF hv) ?_
  rintro ty rfl
  refine ao (dj hc) ?_
  rintro hin rfl
  refine Ay ?_
  refine eJ S6 fun h7 S7 kp7 z7 => ?_
  have c7 := e1.kp kp7 (.inr ho)
  have r7 := e2.kp kp7 (.inr hor)
  have N7 := N.at (h' := h7) fun b hb o e => kp7 b o (by
   rcases hb with rfl | hb
   ·exact .inr o1
   ·refine ag (A0.mp hb) ?_
    rintro x hx rfl
    exact .inr (N.ls x hx).2) e
  refine ao (uM n5 hin) fun t3 t4 => ?_
  have ea : (n : Int) + ((i : Int) * ((i : Int) - 1)).fdiv 2 = ((n + i * (i - 1) / 2 : Nat) : Int) := by rw [uO (eh hn3 hin), Int.natCast_add]
  have eb : (n : Int) + ((i : Int) * ((i : Int) + 1)).fdiv 2 = ((n + i * (i + 1) / 2 : Nat) : Int) := by rw [uN (eh hn3 hin), Int.natCast_add]
  generalize i * (i - 1) / 2 = ua at *
  generalize i * (i + 1) / 2 = ub at *
  have hul : zs.length ≤ sizeLine := by rw [Az]; exact sY hzl s5
  have hab : n + ua ≤ n + ub := (rt t3)
  have hbl : n + ub ≤ zs.length := (rq hzl t4)
  refine ad ?_
  intro Qb
  refine Ab ?_
  refine Aq ?_
  refine cz (n := h7.objs.size) (Aw _) ?_
  refine ln (k := iOf) ?_
  refine lsL S7 a5 ?_
  refine Bg ?_
  refine lsL S7 a4 ?_
  refine Bg ?_
  refine Bg ?_
  refine lsL S7 rfl ?_
  refine Bg ?_
  refine lsL S7 rfl ?_
  refine Av ?_
  refine sub_int ?_
  refine mul_int ?_ (vK (eh hn3 hin))
  refine Av ?_
  refine floordiv_int (by decide) ?_ (Or.inl (PyProof.noPylong_small (by decide)))
  refine add_int ?_
  refine Bg ?_
  refine lsL S7 a4 ?_
  refine Bg ?_
  refine Bg ?_
  refine lsL S7 rfl ?_
  refine Bg ?_
  refine lsL S7 rfl ?_
  refine Av ?_
  refine add_int ?_
  refine mul_int ?_ (vJ (eh hn3 hin))
  refine Av ?_
  refine floordiv_int (by decide) ?_ (Or.inl (PyProof.noPylong_small (by decide)))
  refine add_int ?_
  refine EI6 cl zs (n + ua) (n + ub) _ _ ⟨rfl, c7, hul, congrArg (fun z => Value.int z _) ea, congrArg (fun z => Value.int z _) eb, hab, hbl, ?_⟩
  intro h8 D8 l8 f8 k8 z8
  dsimp only [hz] at l8 f8 k8 z8 ⊢
  have S8 := S7.up k8
  have od8 : Out L D8 := S7.out f8
  have tll : ((zs.drop (n + ua)).take (n + ub - (n + ua))).length = i := by
   rw [Dc, List.length_drop]; exact mn1 t3 hbl
  generalize (zs.drop (n + ua)).take (n + ub - (n + ua)) = tl at l8 tll
  refine jj S8 fun h9 S9 kp9 z9 => ?_
  have t9 := l8.kp kp9 od8
  have r9 := (r7.ext k8).kp kp9 (.inr hor)
  have N9 := N7.at (h' := h9) fun b hb o e => kp9 b o (by
   rcases hb with rfl | hb
   ·exact .inr o1
   ·refine ag (A0.mp hb) ?_
    rintro x hx rfl
    exact .inr (N7.ls x hx).2) (k8 b o e)
  refine Ab ?_
  refine Ga ?_
  refine vZ (k := iOf) (k2 := iOf) (k' := sOf) (fun _ => (List.range ((i : Int) - 0).toNat).map fun i : Nat => (0 : Int) + (i : Int)) (hW tl) (fun _ _ => true) (fun c _ => rw_[c.toNat]?.getD ⟨#[]⟩) rfl (by decide) rfl (by decide) rfl rfl (by decide) ?_
  refine bX (S9.gr G) rfl rfl ?_
  refine Ak ?_
  refine lsL S9 rfl ?_
  refine An ?_
  refine call_range_1 ?_
  have cT : h9.IsCell (L + 4) (some (.ref D8)) := S9.cs (q "tells") _ rfl
  have cR : h9.IsCell (L + 2) (some (.ref r)) := a2 ▸ S9.cs (q "row") _ rfl
  have ir : i ≤ rw_.length := (rW rl hin)
  refine ⟨⟨_, bu (a := 0) (b := (i : Int)) R.h (by decide) (by decide) om5 (vP (eh hn3 hin)) (IsRange.new ..)⟩, ?_, ?_, ?_, ?_, ?_⟩
  ·have := b9 (k := 2) (l := (List.range ((i : Int) - 0).toNat).map fun i : Nat => (0 : Int) + (i : Int)) (f := hW tl) fun c _ => hO tl c
   rw [Ai, Dk] at this
   rw [Az]; exact Ag (oA (eh hn3 hin) this) (by decide)
  ·intro C D u cc s_3 m_3 E3 hC hD hCD hDo hu hcc hnD hmD hkD
   have e3 : Ext h9 s_3.heap := Ext.trans (ac _ _) hkD
   refine ah (aF hu) ?_
   rintro tu rfl
   refine ag (ef hcc) ?_
   rintro ii hii rfl
   refine bX ((S9.gr G).ext e3) rfl rfl ?_
   refine Ak ?_
   refine ad ?_
   intro Qb
   refine Bg ?_
   refine ad ?_
   intro Qb
   refine Bg ?_
   refine Dl ?_
   refine nmC (cT.keeps e3) ?_
   refine nmL hnD hmD ?_
   refine ag ((t9.ext e3).n) fun it pt kt => ?_
   refine ah (eM kt (List.getElem?_eq_getElem (om7 tll hii))) fun tt htt => ?_
   refine item_list pt om4 (i63 (Gj hii (eh hn3 hin))) (by rw [Bo]; exact htt) ?_
   refine Av ?_
   refine mod_int (by decide) ?_
   refine Av ?_
   refine sub_int ?_
   refine An ?_
   refine call_range_1 ?_
   have f1 := Int.fmod_nonneg_of_pos tl[ii] (b := 4) (by decide)
   have f2 := Int.fmod_lt_of_pos tl[ii] (b := 4) (by decide)
   have ht : hW tl (ii : Int) = (List.range ((tl[ii].fmod 4 - 1) - 0).toNat).map fun i : Nat => (0 : Int) + (i : Int) := by
    unfold hW
    rw [Bo, List.getElem?_eq_getElem (om7 tll hii), Option.getD_some]
   rw [ht]
   exact ⟨ay (ac _ _), [], by simp, by simp, bu (a := 0) R.h (by decide) (by decide) ((qU eb t3 tll hii f1)) ((qT eb t3 tll hii f2)) (IsRange.new ..)⟩
  ·intro C u v cc b s_3 m_3 E3 _ _ _ _ _ _ _ _ _
   exact wpAny_tests_nil ⟨rfl, aq _⟩
  ·intro C u v cc b s_3 m_3 E3 hC hu hcc hv hb _ hnD hmD hmD' hkD
   have e3 : Ext h9 s_3.heap := Ext.trans (ac _ _) hkD
   refine ah (aF hu) ?_
   rintro tu rfl
   refine ag (ef hcc) ?_
   rintro ii hii rfl
   refine Dl ?_
   refine nmC (cR.keeps e3) ?_
   refine nmL hnD hmD ?_
   refine ag ((r9.ext e3).n) fun it pt kt => ?_
   refine ah (gN kt (List.getElem?_eq_getElem (qk rl hin hii))) fun tt htt => ?_
   refine item_list pt om4 (i63 (Gj hii (eh hn3 hin))) (by rw [Bo]; exact htt) ?_
   refine ⟨?_, aq _⟩
   rw [Bo, List.getElem?_eq_getElem (qk rl hin hii)]
   rfl
  intro D10 h10 tk10 ys hzD hD hpl hys hk10
  dsimp only at hD hk10 hzD ⊢
  have e10 : Ext h9 h10 := Ext.trans (ac _ _) hk10
  have S10 := S9.up e10
  have l10 : IsL sOf h10 D10 (gv rw_ tl i) := ⟨ys, hpl, hys⟩
  have f9 : h9.get? D10 = none := ap (ac _ _) hD
  have od10 : h9.objs.size ≤ D10 := Ag (by rw [hz, A4]; exact B2 _) hzD
  refine lsC S10 a3 ?_
  refine Dl ?_
  refine lsC S10 a2 ?_
  refine lsL S10 rfl ?_
  refine ag ((r9.ext e10).n) fun it pt kt => ?_
  have hix : rw_[i]? = some (rw_[i]'((om7 rl hin))) := List.getElem?_eq_getElem ((om7 rl hin))
  refine ah (gN kt hix) fun tt htt => ?_
  refine item_list pt om4 (i63 (eh hn3 hin)) (by rw [Bo]; exact htt) ?_
  refine oH (k := rOf) (N9.d.ext e10) rfl (by rw [Ai, Az, el]; exact Ag (Bh (eh hn3 hin)) (by decide)) ?_
  intro h11 d11 s11
  have S11 := S10.sb s11 (.inr o1) (S10.gn o1)
  subst el
  refine ao (lG (rw_ := rw_) (tl := tl) (j := es.length) (eh hn3 hin) (Bh (om7 rl hin))) fun k1' k2' => ?_
  have N11 := N9.add (h' := h11) (a := D10) (l := gv rw_ tl es.length) hnr hix d11 (fun b hb o e => s11.extBut b o (Ne.symm (ew b hb).2) (e10 b o e)) (l10.sb s11 (l10.ne_dict (N9.d.ext e10))) (Bq S9.lt od10) k1' k2'
  refine Ah ?_
  refine fun hz11 => ⟨Lk.of, ⟨_, _, S11, a1, a2, a3, a4, a5, (c7.at fun o e => s11.extBut _ o cn (e10 _ o (kp9 _ o (.inr ho) (k8 _ o e)))), ((r9.ext e10).at fun o e => s11.extBut _ o rn e), _, N11, by rw [A3]; rfl, ?_⟩, ?_⟩
  ·intro b hb
   rw [Ba] at hb
   rcases Au.mp hb with hb | hb
   ·exact ew b hb
   ·rw [Ac.mp hb]
    have zz : h5.objs.size ≤ D10 := by
     have hzl6 : h5.objs.size ≤ h6.objs.size := hzl6
     have z7 : h7.objs.size = h6.objs.size := z7
     have z9 : h9.objs.size = h8.objs.size := z9
     exact Ag hzl6 (Ag (Dq z7.symm) (Ag z8 (Ag (Dq z9.symm) od10)))
    refine ah N9.d.ex fun o eo => ?_
    exact ⟨hbig _ zz, B3 (Bq (A5 eo) od10)⟩
  ·exact ((Kp.x kp7).trans ((Ext.x k8).trans ((Kp.x kp9).trans (Ext.x e10)))).trans (SB.x s11 (by simp))
 ·intro s' m' c' X4 hzl6 S6 X5
  refine aB X4 ?_
  clear X4
  rintro h6 tk6 rfl
  refine kU X5 fun a1 a2 a3 a4 a5 e1 e2 Z31 => ?_
  clear X5
  refine aZ Z31 fun es N el ew => ?_
  clear Z31
  try dsimp only
  simp only [Ai, Dk] at el
  exact h h6 tk6 nd es m' c' S6 a1 a3 a4 N ((sZ el)) o1
end
end
section
theorem LS.ff {w : World} {g h : Heap} {L : Addr} {m c : Str -> Option Value} (S : LS w g h L m c) : FF h [aK L] := FF.cons (env := aK L) (l := []) (L := L) trivial (fun e => by cases e) rfl S.n
def frm (L : Addr) : List Addr := [L, L + 1, L + 2, L + 3, L + 4, L + 5, L + 6, L + 7]
theorem nE {L b : Addr} (h : b ∉ frm L) : Out L b := by
 simp only [frm, Ap, Bw, Gz, not_or] at h
 refine kU h fun a0 a1 a2 a3 a4 a5 a6 a7 => ?_
 clear h
 show @LT.lt Nat _ b L ∨ @LT.lt Nat _ (L + 7) b
 have a0 : ¬ @Eq Nat b L := a0
 have a1 : ¬ @Eq Nat b (L + 1) := a1
 have a2 : ¬ @Eq Nat b (L + 2) := a2
 have a3 : ¬ @Eq Nat b (L + 3) := a3
 have a4 : ¬ @Eq Nat b (L + 4) := a4
 have a5 : ¬ @Eq Nat b (L + 5) := a5
 have a6 : ¬ @Eq Nat b (L + 6) := a6
 have a7 : ¬ @Eq Nat b (L + 7) := a7
 exact sx a0 a1 a2 a3 a4 a5 a6 a7
theorem gM {L b : Addr} (h : Out L b) : b ∉ frm L := by
 simp only [frm, Ap, Bw, Gz, not_or]
 have h : @LT.lt Nat _ b L ∨ @LT.lt Nat _ (L + 7) b := h
 show ¬ @Eq Nat b L ∧ ¬ @Eq Nat b (L + 1) ∧ ¬ @Eq Nat b (L + 2) ∧ ¬ @Eq Nat b (L + 3) ∧ ¬ @Eq Nat b (L + 4) ∧ ¬ @Eq Nat b (L + 5) ∧ ¬ @Eq Nat b (L + 6) ∧ ¬ @Eq Nat b (L + 7)
 exact tL h
theorem jR {L : Addr} {h h' : Heap} (x : Kp L h h') : Ext (hideAll h (frm L)) h' := fun b o e => by
 have hm : b ∉ frm L := fun hm => by rw [hideAll_none _ hm] at e; cases e
 exact x b o (nE hm) (of_hideAll _ e)
theorem nu {w : World} {g h : Heap} {L : Addr} {m c : Str -> Option Value} (S : LS w g h L m c) : Ext g (hideAll h (frm L)) := fun b o e => hideAll_get _ (S.e b o e) (gM (S.gOut e))
section
variable {w : World} {A : Around} {E : Value -> Shared -> Prop} {s : Shared} {g : Heap} {L : Addr} {m c : Str -> Option Value} {Q : Flow -> Shared -> Prop}
theorem s5_ {nd : Addr} {n : Nat} {t t' : Tok} {need : Str -> List Str} {rank : Str -> Nat} {k : Nat} (R : ak A (k + 9)) (hfr : A.frames = some [aK L]) (G : Gr w g) (hn3 : n = 3 ∨ n = 4 ∨ n = 5) (S : LS w g s.heap L m c)
  (hcn : c (q "names") = some (.str (nm n) t)) (hcd : c (q "needs") = some (.ref nd)) (hmz : m (q "size") = some (.int (n : Int) t'))
  (N : bA w (hideAll s.heap (frm L)) nd (ab (nm n)) need) (Nn : aV (ab (nm n)) need) (h8 : ∀ y ∈ ab (nm n), (need y).length ≤ 8) (hrank : ∀ z ∈ ab (nm n), ∀ y ∈ need z, rank y < rank z)
  (h : ∀ h' tk ol m' c', LS w g h' L m' c' -> c' (q "names") = some (.str (nm n) t) -> c' (q "needs") = some (.ref nd) -> m' (q "size") = some (.int (n : Int) t') -> m' (q "orders") = some (.ref ol) -> IsL sOf h' ol (aS need (nm n) n) -> Out L ol -> Kp L s.heap h' ->
   wpAny (MK w) A (execs (cH.drop 11) (aK L)) Q E { s with heap := h', toks := tk }) :
  wpAny (MK w) A (execs (cH.drop 9) (aK L)) Q E s := by
 have nl := cm hn3
 have n5 : n ≤ 5 := (lA hn3)
 refine Ab ?_
 refine ad ?_
 intro Qb
 refine Aq ?_
 refine eL (k := sOf) ?_
 refine Gd ?_
 refine ⟨⟨#[]⟩, rfl, ?_⟩
 intro h1 l1 k1
 dsimp only at l1 k1 ⊢
 have S1 := S.up k1
 have o1 := S.new
 generalize hol : s.heap.objs.size = ol at *
 refine eJ S1 fun h2 S2 kp2 z2 => ?_
 have l2 := l1.kp kp2 o1
 refine Ab ?_
 refine ad ?_
 intro Qb
 refine jF (g := g) (k := iOf) [] ?_
 refine ad ?_
 intro Qb
 refine bX (S2.gr G) rfl rfl ?_
 refine Ak ?_
 refine lsL S2 hmz ?_
 refine An ?_
 refine call_range_1 ?_
 refine EI4 _ _ [] _ ⟨S2.up (ac _ _), (fun b hb => by cases hb), (fun b hb => by cases hb), bu (a := 0) (b := (n : Int)) R.h (by decide) (by decide) om5 (mY hn3) (IsRange.new ..), ?_⟩
 intro s_2 wr hk2 hlive hbig
 refine aG hk2 ?_
 clear hk2
 rintro h5 tk5 rfl k5
 dsimp only at k5 hlive hbig ⊢
 have ow : ol ∉ wr := by obtain ⟨o, e⟩ := l2.ex; exact hlive ol o (ac _ _ _ _ e)
 have bw : ∀ b o, Out L b -> s.heap.get? b = some o -> b ∉ wr := fun b o hb e => hlive b o (ac _ _ _ _ (kp2 b o hb (k1 b o e)))
 refine ⟨fun i h m c' => c' = c ∧ m (q "size") = some (.int (n : Int) t') ∧ Kp L s.heap h ∧ ∃ ol, m (q "orders") = some (.ref ol) ∧ IsL sOf h ol (aS need (nm n) i) ∧ Out L ol ∧ ol ∉ wr, ?_, ?_, ?_, ?_⟩
 ·exact ⟨rfl, hmz, ((Ext.kp k1).trans kp2).trans (Ext.kp (Ext.trans (ac _ _) k5)), ol, rfl, (l2.ext (ac _ _)).ext k5, o1, ow⟩
 ·intro i h h' m c' S' X1 hk
  refine dh X1 ?_
  clear X1
  rintro rfl a kp Z49
  refine cC Z49 fun ol' b l o e => ?_
  clear Z49
  exact ⟨rfl, a, fun x y hx hy => hk x y (bw x y hx hy) (kp x y hx hy), ol', b, l.at (fun o q => hk _ o e q), o, e⟩
 ·intro i v y s' m' c' E' hc hv X2 hzl6 S6 X3
  refine aB X2 ?_
  clear X2
  rintro h6 tk6 rfl
  refine dh X3 ?_
  clear X3
  rintro rfl a kp Z50
  refine cC Z50 fun ol' b l6 o6 w6 => ?_
  clear Z50
  dsimp only at S6 kp l6 hzl6 ⊢
  refine ah (aF hv) ?_
  rintro ty rfl
  refine ao (dj hc) ?_
  rintro hin rfl
  refine Ay ?_
  refine eJ S6 fun h7 S7 kp7 z7 => ?_
  have l7 := l6.kp kp7 o6
  have x7 : Kp L s.heap h7 := kp.trans kp7
  refine ad ?_
  intro Qb
  refine Ab ?_
  have hz7 : h5.objs.size ≤ h7.objs.size := Ag hzl6 (Dq z7.symm)
  have olen := iC Nn (oB hn3 nl) i
  have o5 := pw5 (eh hn3 hin)
  refine ad ?_
  intro Qb
  refine uE (k := sOf) (k2 := sOf) (k' := sOf) rfl rfl rfl [L] (Ac.mpr rfl) (fun _ => aS need (nm n) i) (fun hd => bv need (ab (nm n)) (ab hd)) (fun _ _ => true) (fun hd y => hd ++ y) rfl (by decide) rfl (by decide) rfl rfl (by decide) ?_
  refine lsL S7 b ?_
  refine ag (id l7) fun io po ko => ?_
  refine ⟨?_, ⟨_, ?_, aL R.h po.isList ko⟩, ?_, ?_, ?_, ?_, _, S7.n, ?_⟩
  ·intro b hb
   rw [Ac.mp hb]
   refine ah (S7.live (b := L) (Aw _) (Bv _ _)) fun o e => ?_
   dsimp only
   rw [e]; simp
  ·intro b hb
   rw [Ac.mp hb]
   intro q
   rw [Ac.mp q] at o6
   rcases o6 with z | z
   ·exact A9 _ z
   ·exact absurd z (Bp.mpr (Bv _ _))
  ·have := b9 (k := 5) (l := aS need (nm n) i) (f := fun hd => bv need (ab (nm n)) (ab hd)) fun o ho => Ag (gh Nn (az Nn i o ho).1) (by omega)
   rw [Az]; exact rJ olen o5 this
  ·intro C D u hd s_3 m_3 E3 hC hD hCD hDo hu hcc hnD hmD hkD
   dsimp only at hkD hC hD hcc
   refine ah (ai hu) ?_
   rintro tu rfl
   have S8 := S7.slo hkD
   refine ao (az Nn i hd hcc) fun V vl => ?_
   refine ad ?_
   intro Qb
   refine eI (S8.gr G) rfl rfl ?_
   refine Ak ?_
   refine nmC (hcn ▸ S8.cs (q "names") _ rfl) ?_
   refine Ak ?_
   refine nmC (hcd ▸ S8.cs (q "needs") _ rfl) ?_
   refine Ak ?_
   refine nmL hnD hmD ?_
   refine An ⟨Ext.refl _, ?_⟩
   refine oI (k := k + 1) (g := hideAll s.heap (frm L)) (rank := rank) (l := [aK L]) R (G.ext (nu S)) (jR (x7.trans (Slo.kp hkD))) hfr S8.ff (fun b hb => hideAll_none _ (by rw [Ac.mp hb]; simp [frm])) N Nn V (by rw [<- au]; omega) h8 hrank ?_
   intro h' tk' D' lD fD sl
   try dsimp only
   refine ⟨⟨h', tk', rfl, sl⟩, [D'], ?_, ?_, ?_⟩
   ·intro q
    refine ah hDo fun o e => ?_
    clear hDo
    rw [Ac.mp q, fD] at e; cases e
   ·intro q
    refine mB hnD fun o _ _ e _ => ?_
    clear hnD
    rw [Ac.mp q, fD] at e; cases e
   ·refine ag lD fun i' p' k' => ?_
    clear lD
    exact aL R.h p'.isList k'
  ·intro C u v cc b s_3 m_3 E3 _ _ _ _ _ _ _ _ _
   exact wpAny_tests_nil ⟨rfl, aq _⟩
  ·intro C u v hd y s_3 m_3 E3 hC hu hcc hv hy _ hnD hmD hmD' hkD
   refine ah (ai hu) ?_
   rintro tu rfl
   refine ah (ai hv) ?_
   rintro tv rfl
   refine ao (az Nn i hd hcc) fun V vl => ?_
   have yl := gF (((bB Nn V).2 y).mp hy).1
   rw [au] at vl
   refine Bg (nmL hnD hmD (nmL hnD hmD' (SB.add (fun t' k => ⟨rfl, ay fun _ _ e => e⟩) ?_)))
   rw [Az]; omega
  ·intro D h8 tk8 ys hzD fD hpl hys hns hkeep
   dsimp only at hzD fD hkeep
   have od := S7.out fD
   have kp8 : Kp L h7 h8 := fun b o hb e => hkeep b o (fun q => gM hb (by rw [Ac.mp q]; simp [frm])) e
   refine Ah ?_
   refine fun hz9 => ⟨Lk.of, ⟨_, _, ⟨S7.gs, ?_, hns, ?_⟩, rfl, a, x7.trans kp8, D, rfl, ⟨ys, hpl, ?_⟩, od, hbig _ (Ag hz7 hzD)⟩, (Kp.x kp7).trans (Kp.x kp8)⟩
   ·exact fun b o e => kp8 b o (S7.gOut e) (S7.e b o e)
   ·exact fun x b hx => bg (S7.cs x b hx) fun o e => hkeep b o (fun q => A9 _ (Ac.mp q ▸ (bJ hx).1)) e
   ·rw [hys]
    show _ = (cj need (nm n) (aS need (nm n) i)).map some
    unfold cj
    congr 1
    congr 1
    funext hd
    rw [List.filter_eq_self.mpr fun _ _ => rfl]
 ·intro s' m' c' X4 hzl6 S6 X5
  refine aB X4 ?_
  clear X4
  rintro h6 tk6 rfl
  refine dh X5 ?_
  clear X5
  rintro rfl a kp Z51
  refine cC Z51 fun ol' b l6 o6 w6 => ?_
  clear Z51
  try dsimp only
  simp only [Ai, Dk] at l6
  exact h h6 tk6 ol' m' _ S6 hcn hcd a b (by simpa using l6) o6 kp
end
end
section
theorem g6 {names : List Str} {need : Str -> List Str} : ∀ {hp : List Str}, bF names need hp -> hp.Nodup ∧ ∀ y ∈ hp, y ∈ names := by
 intro hp V
 have mem : ∀ y ∈ hp, y ∈ names := fun y hy => by
  refine ah (List.getElem?_of_mem hy) fun i hi => ?_
  exact (V i y hi).1
 have key : ∀ i, i ≤ hp.length -> (hp.take i).Nodup := by
  intro i
  induction i with
  | zero => intro _; rw [List.take_zero]; exact List.nodup_nil
  | succ i ih =>
   intro hi
   have hy : hp[i]? = some (hp[i]'((om1 hi))) := List.getElem?_eq_getElem ((om1 hi))
   rw [Dr, hy, B5]
   refine ⟨ih ((qD hi)), by simp, ?_⟩
   intro a ha b hb q
   rw [show b = hp[i]'((om1 hi)) by simpa using hb] at q
   exact (V i _ hy).2.1 (q ▸ ha)
 have := key hp.length (Aw _)
 rw [A7] at this
 exact ⟨this, mem⟩
theorem iY {names : List Str} {need : Str -> List Str} {hp : List Str} (N : aV names need) (V : bF names need hp) : (bv need names hp).length + hp.length ≤ names.length := by
 refine ao (g6 V) fun n1 m1 => ?_
 refine ao (bB N V) fun n2 m2 => ?_
 rw [<- A3]
 refine bm ?_ ?_
 ·rw [B5]
  exact ⟨n2, n1, fun a ha b hb q => ((m2 a).mp ha).2.1 (q ▸ hb)⟩
 ·intro z hz
  rcases Au.mp hz with q | q
  ·exact ((m2 z).mp q).1
  ·exact m1 z q
def oE (n : Nat) : Nat -> Nat
 | 0 => 1
 | k + 1 => (n - k) * oE n k
theorem gq {need : Str -> List Str} {names : Str} {n : Nat} (N : aV (ab names) need) (hn : (ab names).length ≤ n) : ∀ k, (aS need names k).length ≤ oE n k
 | 0 => Aw _
 | k + 1 => by
  have := b9 (k := n - k) (l := aS need names k) (f := fun h => (bv need (ab names) (ab h)).map fun y => h ++ y) fun o ho => by
   rw [Ai]
   refine ao (az N k o ho) fun V l => ?_
   have := iY N V
   exact qW hn l this
  exact Ag this (Di _ (gq N hn k))
theorem ib : ∀ {vs : List Value} {ss : List Str}, vs.map sOf = ss.map some -> ∃ l : List (Str × Tok), vs = strValues l ∧ l.map (·.1) = ss
 | [], [], _ => ⟨[], rfl, rfl⟩
 | v :: vs, c :: cs, e => by
  simp only [A2, B9] at e
  refine ah (ai e.1) ?_
  rintro t rfl
  refine ag (ib e.2) ?_
  rintro l rfl h2
  exact ⟨(c, t) :: l, rfl, by rw [A2, h2]⟩
def dg (z : Int) : Str := toString z
def ds (o : Str) (z : Int) : Bool := ltS (Txt.item o z) (Txt.item o (z - 1))
def bG (n : Nat) : List Int := (List.range ((n : Int) - 1).toNat).map fun i : Nat => (1 : Int) + (i : Int)
def jT (n : Nat) (o : Str) : List Str := ((bG n).filter (ds o)).map dg
def aR (n : Nat) (o : Str) : Str := Txt.join ⟨#[]⟩ (jT n o)
def dK (n : Nat) (os : List Str) : List (Str × Int) := os.foldl (fun kvs o => cK kvs (aR n o) 1) []
theorem iU (kvs : List (Str × Int)) (y : Str) (z : Int) : (cK kvs y z).length ≤ kvs.length + 1 := jM _ _ _
theorem jX (n : Nat) : ∀ (os : List Str) (kvs : List (Str × Int)), (os.foldl (fun kvs o => cK kvs (aR n o) 1) kvs).length ≤ kvs.length + os.length
 | [], kvs => Aw _
 | o :: os, kvs => by
  have := jX n os (cK kvs (aR n o) 1)
  have := iU kvs (aR n o) 1
  rw [A6, Bj]; omega
theorem cf {n : Nat} {z : Int} (h : z ∈ bG n) : 1 ≤ z ∧ z < n := by
 refine ag (A0.mp h) ?_
 rintro i hi rfl
 rw [List.mem_range] at hi
 exact tj hi
theorem pg {z : Int} (h1 : 1 ≤ z) (h2 : z < 5) : (dg z).length = 1 := by
 rcases (show z = 1 ∨ z = 2 ∨ z = 3 ∨ z = 4 by omega) with rfl | rfl | rfl | rfl <;> decide
theorem LS.kc {w : World} {g h h' : Heap} {L a : Addr} {m c : Str -> Option Value} (S : LS w g h L m c) (hs : KC a h h') (ho : Out L a) (hg : g.get? a = none) : LS w g h' L m c :=
 S.at (fun b o e => hs b o (fun q => by rw [q, hg] at e; cases e) (S.e b o e)) fun b o h1 h2 e => hs b o (fun q => by
  subst q
  rcases ho with n | n
  ·exact absurd n (Bp.mpr h1)
  ·exact absurd n (Bp.mpr h2)) e
theorem KC.x {L a : Addr} {bad : List Addr} {h h' : Heap} (hs : KC a h h') (ha : a ∈ bad) : KpX L bad h h' := fun b o _ n e => hs b o (fun q => n (q ▸ ha)) e
theorem CtI.kp {w : World} {L : Addr} {h h' : Heap} {c dx : Addr} {kvs : List (Str × Int)} (x : CtI w h c dx kvs) (k : Kp L h h') (h1 : Out L c) (h2 : Out L dx) : CtI w h' c dx kvs := x.at (fun o e => k c o h1 e) fun o e => k dx o h2 e
theorem fG : ∀ (ts : List Str) (a : Nat), (∀ t ∈ ts, t.length ≤ 1) -> ts.foldl (fun n (x : Str) => n + x.length + (⟨#[]⟩ : Str).length) a ≤ a + ts.length
 | [], a, _ => Aw _
 | t :: ts, a, h => by
  have h1 := h t Ar
  have := fG ts (a + t.length + (⟨#[]⟩ : Str).length) fun u hu => h u (A1 _ hu)
  have e : (⟨#[]⟩ : Str).length = 0 := rfl
  rw [A6, Bj]; exact q6 h1 this e
theorem gO {ts : List Str} (h : ∀ t ∈ ts, t.length ≤ 1) (hl : ts.length ≤ 100) : JoinOk ⟨#[]⟩ ts = true := by
 have := fG ts 0 h
 unfold JoinOk Builtin.Str.tooLong
 rw [List.foldl_toArray]
 simp only [Bool.not_eq_true', decide_eq_false_iff_not, Az]
 exact sR hl this
section
variable {w : World} {A : Around} {E : Value -> Shared -> Prop} {s : Shared} {g : Heap} {L : Addr} {m c : Str -> Option Value} {Q : Flow -> Shared -> Prop}
theorem s6_ {ol : Addr} {n : Nat} {t t' : Tok} {os : List Str} {k : Nat} (R : ak A (k + 10)) (G : Gr w g) (hn3 : n = 3 ∨ n = 4 ∨ n = 5) (S : LS w g s.heap L m c)
  (hmz : m (q "size") = some (.int (n : Int) t')) (hmo : m (q "orders") = some (.ref ol)) (lo : IsL sOf s.heap ol os) (oo : Out L ol) (hlen : os.length ≤ 120) (hos : ∀ o ∈ os, o.length = n)
  (h : ∀ h' tk fc dx m' c', LS w g h' L m' c' -> (∀ x, x ≠ q "order" -> c' x = c x) -> m' (q "size") = some (.int (n : Int) t') -> m' (q "falls") = some (.ref fc) -> CtI w h' fc dx (dK n os) -> Out L fc -> Out L dx -> g.get? fc = none -> s.heap.get? fc = none -> Kp L s.heap h' ->
   wpAny (MK w) A (execs (cH.drop 13) (aK L)) Q E { s with heap := h', toks := tk }) :
  wpAny (MK w) A (execs (cH.drop 11) (aK L)) Q E s := by
 refine Ab ?_
 refine ad ?_
 intro Qb
 refine Aq ?_
 refine ad ?_
 intro Qb
 refine Dn ?_
 refine nmG (S.gr G) rfl ?_
 refine callWith_K0 (S.gr G).K rfl ?_
 refine oC (k := k + 2) R (S.gr G) ?_
 intro h1 tk1 fc dx x1 k1 f1 fd1
 try dsimp only
 have S1 := S.up k1
 have of_ := S.out f1
 have od_ := S.out fd1
 have gf : g.get? fc = none := ap S.e f1
 refine eJ S1 fun h2 S2 kp2 z2 => ?_
 have x2 := x1.kp kp2 of_ od_
 have l2 := (lo.ext k1).kp kp2 oo
 refine Ab ?_
 refine ad ?_
 intro Qb
 refine jF (g := g) (k := sOf) [fc] ?_
 refine lsL S2 hmo ?_
 refine ag (id l2) fun io po ko => ?_
 have nof : ol ≠ fc := fun e => by obtain ⟨o, z⟩ := lo.ex; rw [e, f1] at z; cases z
 refine EI4 _ _ [ol] os ⟨S2, ?_, ?_, aL R.h po.isList ko, ?_⟩
 ·intro b hb
  rw [Ac.mp hb]
  exact ⟨oo, fun q => nof (Ac.mp q), l2.ex⟩
 ·intro b hb
  rw [Ac.mp hb]
  have := x2.ex.1
  cases e : h2.get? fc with
  | none => exact absurd e this
  | some o => exact ⟨o, rfl⟩
 intro s_2 wr hk2 hlive hbig
 refine aG hk2 ?_
 clear hk2
 rintro h5 tk5 rfl k5
 dsimp only at k5 hlive hbig ⊢
 have ex_ : ∀ {b}, h2.get? b ≠ none -> b ∉ wr := fun {b} h => by
  cases e : h2.get? b with
  | none => exact absurd e h
  | some o => exact hlive b o e
 have fw : fc ∉ wr := ex_ x2.ex.1
 have dw : dx ∉ wr := ex_ x2.ex.2
 have bw : ∀ b o, Out L b -> s.heap.get? b = some o -> b ∉ wr := fun b o hb e => hlive b o (kp2 b o hb (k1 b o e))
 refine ⟨fun i h m c' => (∀ x, x ≠ q "order" -> c' x = c x) ∧ m (q "size") = some (.int (n : Int) t') ∧ m (q "falls") = some (.ref fc) ∧ (∀ b o, Out L b -> s.heap.get? b = some o -> h.get? b = some o) ∧ CtI w h fc dx (dK n (os.take i)), ?_, ?_, ?_, ?_⟩
 ·exact ⟨fun _ _ => rfl, hmz, rfl, fun b o hb e => k5 b o (kp2 b o hb (k1 b o e)), x2.ext k5⟩
 ·intro i h h' m c' S' X1 hk
  refine ce X1 fun a b d e x => ?_
  clear X1
  exact ⟨a, b, d, fun y o hy z => hk y o (bw y o hy z) (e y o hy z), x.at (fun o z => hk _ o fw z) (fun o z => hk _ o dw z)⟩
 ·intro i v y s' m' c' E' hc hv X2 hzl6 S6 X3
  refine aB X2 ?_
  clear X2
  rintro h6 tk6 rfl
  refine ce X3 fun a b d e x6 => ?_
  clear X3
  dsimp only at S6 e x6 hzl6 ⊢
  refine ah (ai hv) ?_
  rintro ty rfl
  have hym := List.mem_of_getElem? hc
  have yl := hos y hym
  have hil := (List.getElem?_eq_some_iff.mp hc).1
  refine Ay ?_
  refine jj S6 fun h7 S7 kp7 z7 => ?_
  have x7 := x6.kp kp7 of_ od_
  refine ad ?_
  intro Qb
  refine Ab ?_
  refine wpAny_Expr_any ?_
  refine ad ?_
  intro Qb
  refine Bc (pl := _) ?_
  refine lsL S7 d ?_
  refine ag (id x7) fun vs xa xr => ?_
  refine cu (f := 936) (S7.gr G).K xa rfl rfl ?_
  refine callWith_K (S7.gr G).K rfl ?_
  refine Ak ?_
  refine eL (k := sOf) ?_
  refine ad ?_
  intro Qb
  refine Bc (pl := _) ?_
  refine Gd ?_
  refine GM.join ?_
  refine Gb ?_
  refine Ak ?_
  refine ad ?_
  intro Qb
  refine LC (k := iOf) (k' := sOf) (fun _ => bG n) (ds y) dg rfl (by decide) rfl (by decide) rfl ?_
  refine ad ?_
  intro Qb
  refine bX (S7.gr G) rfl rfl ?_
  refine Ak ?_
  refine Av ?_
  refine Ak ?_
  refine lsL S7 b ?_
  refine An ?_
  refine call_range_2 ?_
  have cO : h7.IsCell (L + 5) (some (.str y ty)) := S7.cs (q "order") _ rfl
  refine ⟨⟨_, bu (a := 1) (b := (n : Int)) R.h (by decide) (by decide) (om5) ((mY hn3)) (IsRange.new ..)⟩, ?_, ?_, ?_, ?_⟩
  ·simp only [bG, Ai, Dk, Az]; exact vo hn3
  ·intro C v z s_3 m_3 E3 hC hv hz hnD hmD hkD
   have e3 : Ext h7 s_3.heap := Ext.trans (ac _ _) hkD
   refine ah (aF hv) ?_
   rintro tv rfl
   refine ao (cf hz) fun z1 z2 => ?_
   refine Dt ?_
   refine Ao ?_
   refine Dl ?_
   refine nmC (cO.keeps e3) ?_
   refine nmL hnD hmD ?_
   refine item_str (by simp [fitsSsize]; exact tR hn3 z1 z2) ((qQ z1)) ((qp yl z2)) ?_
   intro _
   refine Dl ?_
   refine nmC (cO.keeps e3) ?_
   refine ad ?_
   intro Qb
   refine Bg ?_
   refine nmL hnD hmD ?_
   refine Av ?_
   refine sub_int ?_
   refine item_str (by simp [fitsSsize]; exact tS hn3 z1 z2) ((qP z1)) ((sp yl z2)) ?_
   intro _
   refine P.lt_str ?_
   refine Am ?_
   exact ⟨rfl, ay fun _ _ e => e⟩
  ·intro C v z s_3 m_3 E3 hC hv hz _ hnD hmD hkD
   have e3 : Ext h7 s_3.heap := Ext.trans (ac _ _) hkD
   refine ah (aF hv) ?_
   rintro tv rfl
   refine ao (cf hz) fun z1 z2 => ?_
   refine bX ((S7.gr G).ext e3) rfl rfl ?_
   refine Ak ?_
   refine nmL hnD hmD ?_
   refine An ?_
   refine P.str_of_int (by rcases (tQ hn3 z1 z2) with rfl | rfl | rfl | rfl <;> decide) ?_
   exact ⟨rfl, ay fun _ _ e => e⟩
  intro D8 h8 tk8 ys fD8 hpl hys hk8
  have e8 : Ext h7 h8 := Ext.trans (ac _ _) hk8
  refine An ?_
  refine ag (ib hys) fun lst el em => ?_
  refine SC.join (l := lst) (texts := jT n y) (by rw [<- el]; simpa using hpl.isList) em ?_ ?_
  ·refine gO (fun u hu => ?_) ?_
   ·refine ag (A0.mp hu) ?_
    rintro z hz rfl
    refine ao (cf (Bd.mp hz).1) fun z1 z2 => ?_
    exact Dq (pg z1 ((iE hn3 z2)))
   ·have := Dv (ds y) (bG n)
    simp only [bG, Ai, Dk] at this
    rw [jT, Ai]
    show (List.filter (ds y) (bG n)).length ≤ _
    simp only [bG]
    exact tK hn3 this
  intro t8 k8'
  refine ⟨aR n y, rfl, ?_⟩
  intro h9 l9 k9
  dsimp only at l9 k9 ⊢
  have e9 : Ext h7 h9 := Ext.trans e8 k9
  refine An ⟨((S7.gr G).ext e9).K, ?_⟩
  refine Bf ?_
  have clen := jX n (os.take i) []
  rw [Dc, Gh] at clen
  refine mM (k := k) R G (Ext.trans S7.e e9) gf (x7.ext e9) l9 (by show (dK n (os.take i)).length ≤ 1000; unfold dK; omega) ?_
  intro h10 tk10 x10 kc10
  try dsimp only
  have S10 := (S7.up e9).kc kc10 of_ gf
  dsimp only at kc10
  refine Ah ?_
  refine fun hz10 => ⟨Lk.of, ⟨_, _, S10, ?_, b, d, ?_, ?_⟩, ((Kp.x kp7).trans (Ext.x e9)).trans (KC.x kc10 (by simp))⟩
  ·intro x hx
   show (if x = q "order" then _ else c' x) = c x
   rw [if_neg hx]; exact a x hx
  ·intro b' o' hb' z
   refine kc10 b' o' (fun q => by rw [q, f1] at z; cases z) (e9 b' o' (kp7 b' o' hb' (e b' o' hb' z)))
  ·rw [dK, bh _ _ _ _ _ hc]; exact x10
 ·intro s' m' c' X4 hzl6 S6 X5
  refine aB X4 ?_
  clear X4
  rintro h6 tk6 rfl
  refine ce X5 fun a b d e x6 => ?_
  clear X5
  try dsimp only
  rw [A7] at x6
  exact h h6 tk6 fc dx m' c' S6 a b d x6 of_ od_ gf f1 e
end
end
end Mine
end
section
open PySem PySem.W PyProof.Rows PySem.Calls PySem.Spec
namespace Mine
theorem ga (p : Str) (n : Nat) : Txt.contains p ⟨#[n]⟩ = decide ((⟨#[n]⟩ : Str) ∈ ab p) := by
 unfold Txt.contains
 rw [StrLaws.found_one]
 rw [decide_eq_decide, ab, A0]
 constructor
 ·exact fun h => ⟨n, h, rfl⟩
 ·intro X1
  refine ag X1 fun m hm e => ?_
  clear X1
  have : m = n := by simpa using e
  exact this ▸ hm
theorem aU {x p b : Str} (hb : b ∈ ab x) : Txt.contains p b = decide (b ∈ ab p) := by
 refine ag (A0.mp hb) ?_
 rintro n _ rfl
 exact ga p n
theorem dH {β : Type} (x y : Str) (b : β) : ∀ (kvs : List (Str × β)), (kvs.map fun p => if p.1 = x then (p.1, b) else p).find? (fun p => decide (p.1 = y)) = (kvs.find? fun p => decide (p.1 = y)).map fun p => if p.1 = x then (p.1, b) else p
 | [] => rfl
 | p :: kvs => by
  rw [A2, List.find?_cons, List.find?_cons, dH x y b kvs]
  have e : (if p.1 = x then (p.1, b) else p).1 = p.1 := by split <;> rfl
  rw [e]
  by_cases q : p.1 = y
  ·simp [q]
  ·simp [q]
theorem eO {β : Type} (kvs : List (Str × β)) (x y : Str) (b : β) : got (put kvs x b) y = if y = x then some b else got kvs y := by
 unfold put got
 by_cases h : kvs.any (fun p => decide (p.1 = x)) = true
 ·rw [if_pos h, dH]
  by_cases q : y = x
  ·subst q
   rw [if_pos rfl]
   cases hf : kvs.find? (fun p => decide (p.1 = y)) with
   | none =>
    rw [List.find?_eq_none] at hf
    refine ag (Gc.mp h) fun p hp hq => ?_
    exact absurd hq (hf p hp)
   | some p =>
    have := List.find?_some hf
    simp at this
    simp [this]
  ·rw [if_neg q]
   cases hf : kvs.find? (fun p => decide (p.1 = y)) with
   | none => rfl
   | some p =>
    have := List.find?_some hf
    simp at this
    simp [this, q]
 ·rw [if_neg h, List.find?_append]
  by_cases q : y = x
  ·subst q
   rw [if_pos rfl]
   have hf : kvs.find? (fun p => decide (p.1 = y)) = none := by
    rw [List.find?_eq_none]
    intro p hp hq
    exact h (Gc.mpr ⟨p, hp, hq⟩)
   rw [hf]; simp
  ·rw [if_neg q]
   cases hf : kvs.find? (fun p => decide (p.1 = y)) with
   | none => simp [Ne.symm q]
   | some p => rfl
theorem er {need : Str -> List Str} {W : List (Str × Int)} {z : Int} {x : Str} : ∀ (l : List Str) (acc : List (Str × Int)),
  got (l.foldl (aC need W z) acc) x = if x ∈ l ∧ (x.length : Int) = z then some (dT need W x) else got acc x
 | [], acc => by simp
 | d :: l, acc => by
  rw [A6, er l]
  by_cases h1 : x ∈ l ∧ (x.length : Int) = z
  ·rw [if_pos h1, if_pos ⟨A1 _ h1.1, h1.2⟩]
  ·rw [if_neg h1]
   unfold aC
   by_cases h2 : x = d
   ·subst h2
    by_cases h3 : (x.length : Int) = z
    ·rw [if_pos (show x ∈ x :: l ∧ (x.length : Int) = z from ⟨Ar, h3⟩), if_pos (by simpa using h3), eO, if_pos rfl]
    ·rw [if_neg (show ¬ (x ∈ x :: l ∧ (x.length : Int) = z) from fun q => h3 q.2), if_neg (by simpa using h3)]
   ·have h4 : ¬ (x ∈ d :: l ∧ (x.length : Int) = z) := fun q => by
     rcases Ap.mp q.1 with r | r
     ·exact h2 r
     ·exact h1 ⟨r, q.2⟩
    rw [if_neg h4]
    split
    ·rw [eO, if_neg h2]
    ·rfl
theorem j4 (need : Str -> List Str) (names : Str) (l : List Int) (z : Int) : bR need names (l ++ [z]) = aP need (al need names) (bR need names l) z := by
 unfold bR; rw [List.foldl_append]; rfl
theorem bP {need : Str -> List Str} {names : Str} (hin : ∀ y ∈ ab names, ∀ z ∈ need y, z ∈ ab names) (p : Str) : p ∈ al need names ↔ p ∈ aW (ab names) ∧ ∀ y ∈ ab p, ∀ z ∈ need y, z ∈ ab p := by
 unfold al
 rw [Bd]
 constructor
 ·intro X2
  refine ao X2 fun h1 h2 => ?_
  clear X2
  refine ⟨h1, fun y hy z hz => ?_⟩
  unfold dM at h2
  rw [List.isEmpty_iff, List.flatMap_eq_nil_iff] at h2
  have := h2 y hy
  rw [Ds] at this
  have := this z hz
  rw [aU (hin y (dA h1 y hy) z hz)] at this
  simpa using this
 ·intro X3
  refine ao X3 fun h1 h2 => ?_
  clear X3
  refine ⟨h1, ?_⟩
  unfold dM
  rw [List.isEmpty_iff, List.flatMap_eq_nil_iff]
  intro y hy
  rw [Ds]
  intro z hz
  rw [aU (hin y (dA h1 y hy) z hz)]
  simpa using h2 y hy z hz
theorem gd {need : Str -> List Str} {names : Str} (hin : ∀ y ∈ ab names, ∀ z ∈ need y, z ∈ ab names) (hp : names ∈ aW (ab names)) (l : List Int) :
  got (bR need names (l ++ [(names.length : Int)])) names = some (dT need (bR need names l) names) := by
 rw [j4]
 unfold aP
 rw [er, if_pos ⟨(bP hin names).mpr ⟨hp, hin⟩, rfl⟩]
end Mine
end
section
open PySem PySem.W PyProof.Rows PySem.Calls
namespace Mine
section
def chs (n : Nat) : List Str := aW (ab (Txt.slice (q "1234") none (some ((n : Int) - 1))))
def gt (c : Str) : Int := ((c.cps[0]?.getD 48 : Nat) : Int) - 48
def iy (few : Str) : List Int := (ab few).map gt
def kA (need : Str -> List Str) (n : Nat) (few : Str) : Int := dT need (bR need (nm n) (iy few)) (nm n)
def bq (few more : Str) : Bool := ((ab few).filter fun p => !Txt.contains more p).isEmpty
def sgn (few more : Str) (z : Int) : Int := if (((more.length : Int) - (few.length : Int)).fmod 2 == 1) = true then -z else z
def bC (need : Str -> List Str) (n : Nat) (few : Str) (kvs : List (Str × Int)) (more : Str) : List (Str × Int) := if bq few more = true then cK kvs more (sgn few more (kA need n few)) else kvs
def d0 (need : Str -> List Str) (n : Nat) (kvs : List (Str × Int)) (few : Str) : List (Str × Int) := (chs n).foldl (bC need n few) kvs
def aX (need : Str -> List Str) (n : Nat) : List (Str × Int) := (chs n).foldl (d0 need n) []
theorem dX (need : Str -> List Str) (n : Nat) (few : Str) : ∀ (l : List Str) (kvs : List (Str × Int)), (l.foldl (bC need n few) kvs).length ≤ kvs.length + l.length
 | [], kvs => Aw _
 | d :: l, kvs => by
  have := dX need n few l (bC need n few kvs d)
  have : (bC need n few kvs d).length ≤ kvs.length + 1 := by
   unfold bC; split
   ·exact iU _ _ _
   ·exact om6
  rw [A6, Bj]; omega
theorem dN {n : Nat} (hn3 : n = 3 ∨ n = 4 ∨ n = 5) : (chs n).length ≤ 16 := by rcases hn3 with rfl | rfl | rfl <;> decide
theorem iu {need : Str -> List Str} {n : Nat} (hn3 : n = 3 ∨ n = 4 ∨ n = 5) : ∀ (l : List Str) (kvs : List (Str × Int)), (l.foldl (d0 need n) kvs).length ≤ kvs.length + 16 * l.length
 | [], kvs => Aw _
 | d :: l, kvs => by
  have := iu (need := need) hn3 l (d0 need n kvs d)
  have h1 : (d0 need n kvs d).length ≤ kvs.length + (chs n).length := dX need n d (chs n) kvs
  have := dN hn3
  rw [A6, Bj]; omega
theorem gB {n : Nat} (hn3 : n = 3 ∨ n = 4 ∨ n = 5) : ∀ p ∈ chs n, p.length ≤ 4 ∧ ∀ y ∈ ab p, 1 ≤ gt y ∧ gt y < n ∧ y = dg (gt y) ∧ y.length = 1 := by
 rcases hn3 with rfl | rfl | rfl <;> decide
section
variable {w : World} {A : Around} {E : Value -> Shared -> Prop} {s : Shared} {g : Heap} {L : Addr} {m c : Str -> Option Value} {Q : Flow -> Shared -> Prop}
theorem s7_ {n : Nat} {t' : Tok} {k : Nat} (R : ak A (k + 10)) (G : Gr w g) (hn3 : n = 3 ∨ n = 4 ∨ n = 5) (S : LS w g s.heap L m c)
  (hmz : m (q "size") = some (.int (n : Int) t'))
  (h : ∀ h' tk ec dx chl, LS w g h' L (upd m (q "choices") (.ref chl)) (upd c (q "exact") (.ref ec)) -> CtI w h' ec dx [] -> Out L ec -> Out L dx -> g.get? ec = none -> s.heap.get? ec = none -> IsL sOf h' chl (chs n) -> Out L chl -> chl ≠ ec -> Kp L s.heap h' ->
   wpAny (MK w) A (execs (cH.drop 15) (aK L)) Q E { s with heap := h', toks := tk }) :
  wpAny (MK w) A (execs (cH.drop 13) (aK L)) Q E s := by
 refine Ab ?_
 refine Aq ?_
 refine Dn ?_
 refine nmG (S.gr G) rfl ?_
 refine callWith_K0 (S.gr G).K rfl ?_
 refine oC (k := k + 2) R (S.gr G) ?_
 intro h1 tk1 fc dx x1 k1 f1 fd1
 try dsimp only
 have S1 := S.up k1
 have of_ := S.out f1
 have od_ := S.out fd1
 have gf : g.get? fc = none := ap S.e f1
 refine jj S1 fun h2 S2 kp2 z2 => ?_
 have x2 := x1.kp kp2 of_ od_
 refine Ab ?_
 refine Aq ?_
 refine eI (S2.gr G) rfl rfl ?_
 refine Ak ?_
 refine Dl ?_
 refine Gd ?_
 refine wpAny_Slice ?_
 refine Ge ?_
 refine evalPart_some_step ?_
 refine Bg ?_
 refine lsL S2 hmz ?_
 refine Av ?_
 refine sub_int ?_
 refine Ge ?_
 refine tail_of_ItemOn (SBH.sliceItem_ns (P := fun h' => Ext h2 h') (fun h' ob x => Ext.trans x (ac _ _)) (Ext.refl _) ?_) (by with_unfolding_all rfl) (by intro _; with_unfolding_all rfl)
 intro h3 t3 tk3 k3
 refine An ⟨k3, ?_⟩
 refine ly (n := k) (R.le (vI)) ((S2.up k3).gr G) (by rcases hn3 with rfl | rfl | rfl <;> decide) ?_
 intro h4 tk4 chl k4 f4 l4
 dsimp only at k4 f4 l4 ⊢
 have S4 := (S2.up k3).up k4
 have f2 : h2.get? chl = none := ap k3 f4
 have oc := S2.out f2
 have x4 := (x2.ext k3).ext k4
 refine eJ S4 fun h5 S5 kp5 z5 => ?_
 refine h h5 _ fc dx chl S5 (x4.kp kp5 of_ od_) of_ od_ gf f1 (l4.kp kp5 oc) oc (fun e => x2.ex.1 (e ▸ f2)) ?_
 exact ((Ext.kp k1).trans kp2).trans ((Ext.kp (Ext.trans k3 k4)).trans kp5)
end
end
section
section
variable {w : World} {A : Around} {E : Value -> Shared -> Prop} {s : Shared} {g : Heap} {L : Addr} {m c : Str -> Option Value}
theorem lZ {env : Env} {ke ve : Expr} {pos : Pos} {Q : Value -> Shared -> Prop}
  (h : wpAny (MK w) A (eval ke env) (fun kv s_1 => wpAny (MK w) A (eval ve env) (fun vv s_2 => ∃ x t i u, kv = .str x t ∧ vv = .int i u ∧ s_2.heap = s.heap.push { cls := .type "dict", data := .dict #[] } ∧
   ∀ h' tk, IsD w iOf h' s.heap.objs.size [(x, i)] -> Ext s.heap h' -> Q (.ref s.heap.objs.size) { s_2 with heap := h', toks := tk }) E s_1) E { s with heap := s.heap.push { cls := .type "dict", data := .dict #[] } }) :
  wpAny (MK w) A (eval (.Dict [some ke] [ve] pos) env) Q E s := by
 refine wpAny_Dict_pairs (knd := sK w) (pairs := [(eval ke env, do let x <- eval ve env; standAt pos; pure x)]) rfl (by simp) (by simp) ?_
 refine evalPairs_cons ?_
 refine Aj h (fun kv s_1 h_1 => ?_) fun _ _ e => e
 refine Aa ?_
 refine Aj h_1 (fun vv s_2 h_2 => ?_) fun _ _ e => e
 refine Aa ?_
 refine Bz ?_
 refine Ae ?_
 refine evalPairs_nil ?_
 refine wg h_2 ?_
 clear h_2
 rintro x t i u rfl rfl hh hq
 refine ⟨[(x, .int i u)], ⟨aM x _, rfl, trivial⟩, by rw [hh]; exact Heap.DictOf.new _, fun h' d hs => ?_⟩
 rw [hh] at hs
 exact hq h' _ ⟨_, d, rfl⟩ (aA (ac _ _) hs (ae _))
variable {Q : Flow -> Shared -> Prop}
theorem s8_ {nd ec dx chl : Addr} {n : Nat} {t t' : Tok} {need : Str -> List Str} {h₀ : Heap} {k : Nat} (R : ak A (k + 10)) (G : Gr w g) (hn3 : n = 3 ∨ n = 4 ∨ n = 5) (S : LS w g s.heap L m c)
  (hcn : c (q "names") = some (.str (nm n) t)) (hcd : c (q "needs") = some (.ref nd)) (hmz : m (q "size") = some (.int (n : Int) t')) (hce : c (q "exact") = some (.ref ec)) (hmh : m (q "choices") = some (.ref chl))
  (N : bA w (hideAll h₀ (frm L)) nd (ab (nm n)) need) (hin : ∀ y ∈ ab (nm n), ∀ z ∈ need y, z ∈ ab (nm n)) (h8 : ∀ y ∈ ab (nm n), (need y).length ≤ 8) (kp0 : Kp L h₀ s.heap) (e0 : h₀.get? ec = none)
  (x : CtI w s.heap ec dx []) (oe : Out L ec) (od : Out L dx) (ge : g.get? ec = none) (lc : IsL sOf s.heap chl (chs n)) (oc : Out L chl) (nce : chl ≠ ec)
  (h : ∀ h' tk m' c', LS w g h' L m' c' -> c' (q "exact") = some (.ref ec) -> m' (q "choices") = some (.ref chl) -> m' (q "falls") = m (q "falls") -> CtI w h' ec dx (aX need n) -> IsL sOf h' chl (chs n) -> Kp L h₀ h' ->
   wpAny (MK w) A (execs (cH.drop 16) (aK L)) Q E { s with heap := h', toks := tk }) :
  wpAny (MK w) A (execs (cH.drop 15) (aK L)) Q E s := by
 have nl := cm hn3
 have nl' : (nm n).length = n := by rw [<- au]; exact nl
 have hparts := t0 hn3
 refine Ab ?_
 refine ad ?_
 intro Qb
 refine jF (g := g) (k := sOf) [ec] ?_
 refine lsL S hmh ?_
 refine ag (id lc) fun io po ko => ?_
 have liveX : ∀ {h : Heap} {b : Addr}, h.get? b ≠ none -> ∃ o, h.get? b = some o := fun {h b} z => by
  cases e : h.get? b with
  | none => exact absurd e z
  | some o => exact ⟨o, rfl⟩
 refine EI4 _ _ [chl] (chs n) ⟨S, ?_, ?_, aL R.h po.isList ko, ?_⟩
 ·intro b hb
  rw [Ac.mp hb]
  exact ⟨oc, fun q => nce (Ac.mp q), lc.ex⟩
 ·intro b hb
  rw [Ac.mp hb]
  exact liveX x.ex.1
 intro s_2 wr hk2 hlive hbig
 refine aG hk2 ?_
 clear hk2
 rintro h5 tk5 rfl k5
 try dsimp only at k5 hlive hbig ⊢
 have ex_ : ∀ {b}, (∃ o, s.heap.get? b = some o) -> b ∉ wr := fun {b} ⟨o, e⟩ => hlive b o e
 have ew : ec ∉ wr := ex_ (liveX x.ex.1)
 have dw : dx ∉ wr := ex_ (liveX x.ex.2)
 have cw : chl ∉ wr := ex_ lc.ex
 have bw : ∀ b o, Out L b -> h₀.get? b = some o -> b ∉ wr := fun b o hb e => hlive b o (kp0 b o hb e)
 refine ⟨fun i h m' c' => c' (q "names") = some (.str (nm n) t) ∧ c' (q "needs") = some (.ref nd) ∧ c' (q "exact") = some (.ref ec) ∧ m' (q "size") = some (.int (n : Int) t') ∧ m' (q "falls") = m (q "falls") ∧ m' (q "choices") = some (.ref chl) ∧
  Kp L h₀ h ∧ IsL sOf h chl (chs n) ∧ CtI w h ec dx (((chs n).take i).foldl (d0 need n) []), ?_, ?_, ?_, ?_⟩
 ·exact ⟨hcn, hcd, hce, hmz, rfl, hmh, kp0.trans (Ext.kp k5), lc.ext k5, x.ext k5⟩
 ·intro i h h' m' c' S' X1 hk
  refine mF X1 fun a1 a2 a3 a4 a5 a6 kp l y => ?_
  clear X1
  exact ⟨a1, a2, a3, a4, a5, a6, fun b o hb e => hk b o (bw b o hb e) (kp b o hb e), l.at (fun o e => hk _ o cw e), y.at (fun o e => hk _ o ew e) (fun o e => hk _ o dw e)⟩
 ·intro i v few s' m' c' E' hc hv X2 hzl6 S6 X3
  refine aB X2 ?_
  clear X2
  rintro h6 tk6 rfl
  refine mF X3 fun a1 a2 a3 a4 a5 a6 kp6 l6 x6 => ?_
  clear X3
  dsimp only at S6 kp6 l6 x6 hzl6 ⊢
  refine ah (ai hv) ?_
  rintro tf rfl
  have hfm := List.mem_of_getElem? hc
  have hil := (List.getElem?_eq_some_iff.mp hc).1
  refine ao (gB hn3 few hfm) fun fl4 fnum => ?_
  refine Ay ?_
  refine eJ S6 fun h7 S7 kp7 z7 => ?_
  have x7 := x6.kp kp7 oe od
  have l7 := l6.kp kp7 oc
  have k07 := kp6.trans kp7
  refine ad ?_
  intro Qb
  refine Ab ?_
  refine ad ?_
  intro Qb
  refine Aq ?_
  refine ad ?_
  intro Qb
  refine eI (S7.gr G) rfl rfl ?_
  refine Ak ?_
  refine lsC S7 a1 ?_
  refine Ak ?_
  refine lsC S7 a2 ?_
  refine Ak ?_
  refine ad ?_
  intro Qb
  refine Bg ?_
  refine ad ?_
  intro Qb
  refine LC (k := sOf) (k' := iOf) (fun _ => ab few) (fun _ => true) gt rfl (by decide) rfl (by decide) rfl ?_
  refine lsL S7 rfl ?_
  refine ⟨⟨_, bT R.h⟩, ?_, ?_, ?_, ?_⟩
  ·rw [au, Az]; exact rz fl4
  ·exact fun C v c s_3 m_3 E' _ _ _ _ _ _ => wpAny_tests_nil ⟨rfl, aq _⟩
  ·intro C v y s_3 m_3 E3 hC hv hy _ hnD hmD hkD
   refine ah (ai hv) ?_
   rintro tv rfl
   refine dh (fnum y hy) fun f1 f2 f3 f4 => ?_
   refine bX ((S7.gr G).ext hkD) rfl rfl ?_
   refine Ak ?_
   refine nmL hnD hmD ?_
   refine An ?_
   generalize gt y = z at f1 f2 f3
   subst f3
   exact KIN.call_num (vB f1) (z10 hn3 f2) ⟨rfl, ay fun _ _ e => e⟩
  intro D8 h8' tk8 ys fD8 hpl hys hk8
  have l8 : IsL iOf h8' D8 (iy few) := ⟨ys, hpl, by rw [hys, List.filter_eq_self.mpr fun _ _ => rfl]; rfl⟩
  have S8 := S7.up hk8
  refine eL (k := iOf) ?_
  refine lsL S8 a4 ?_
  refine ⟨(n : Int), rfl, ?_⟩
  intro h9 l9 k9
  dsimp only at l9 k9 ⊢
  refine mx (l8.ext k9) l9 (by rw [iy, Ai, au, Az]; simp; exact vc fl4) ?_
  intro h10 l10 k10
  dsimp only at l10 k10 ⊢
  have e10 : Ext h7 h10 := Ext.trans hk8 (Ext.trans k9 k10)
  refine An ⟨e10, ?_⟩
  have k010 : Kp L h₀ h10 := k07.trans (Ext.kp e10)
  have hgot := gd (need := need) (names := nm n) hin hparts (iy few)
  rw [nl'] at hgot
  refine nR (n := k) (R.le (uX)) ((S7.up e10).gr G) (N.ext (jR k010)) l10 ((oB hn3 nl')) (fun y hy => Ag (h8 y hy) (by decide)) hgot ?_
  intro h11 tk11 tm k11
  dsimp only at k11 ⊢
  have e11 : Ext h7 h11 := Ext.trans e10 k11
  refine eJ (S7.up e11) fun h12 S12 kp12 z12 => ?_
  have x12 := (x7.ext e11).kp kp12 oe od
  have l12 := (l7.ext e11).kp kp12 oc
  have kp712 : Kp L h7 h12 := (Ext.kp e11).trans kp12
  have k012 := k07.trans kp712
  refine ad ?_
  intro Qb
  refine Ab ?_
  refine ad ?_
  intro Qb
  refine jF (g := g) (k := sOf) [ec] ?_
  refine lsL S12 a6 ?_
  refine ag (id l12) fun io12 po12 ko12 => ?_
  refine EI4 _ _ [chl] (chs n) ⟨S12, ?_, ?_, aL R.h po12.isList ko12, ?_⟩
  ·intro b hb
   rw [Ac.mp hb]
   exact ⟨oc, fun q => nce (Ac.mp q), l12.ex⟩
  ·intro b hb
   rw [Ac.mp hb]
   exact liveX x12.ex.1
  intro s_3 wr2 hk3 hlive2 hbig2
  refine aG hk3 ?_
  clear hk3
  rintro h13 tk13 rfl k13
  try dsimp only at k13 hlive2 hbig2 ⊢
  have ex2 : ∀ {b}, (∃ o, h12.get? b = some o) -> b ∉ wr2 := fun {b} ⟨o, e⟩ => hlive2 b o e
  have ew2 : ec ∉ wr2 := ex2 (liveX x12.ex.1)
  have dw2 : dx ∉ wr2 := ex2 (liveX x12.ex.2)
  have cw2 : chl ∉ wr2 := ex2 l12.ex
  have bw2 : ∀ b o, Out L b -> h₀.get? b = some o -> b ∉ wr2 := fun b o hb e => hlive2 b o (k012 b o hb e)
  have k0len : (((chs n).take i).foldl (d0 need n) []).length ≤ 256 := by
   have h1 := iu (need := need) hn3 ((chs n).take i) []
   have h2 := dN hn3
   rw [Dc, Gh] at h1
   exact vO h1 h2
  have otake := bh (d0 need n) [] (chs n) i few hc
  generalize hK0 : ((chs n).take i).foldl (d0 need n) [] = K0 at *
  generalize hZ : dT need (bR need (nm n) (iy few)) (nm n) = Z at *
  have hZ' : kA need n few = Z := hZ
  refine ⟨fun j h m' c' => c' (q "names") = some (.str (nm n) t) ∧ c' (q "needs") = some (.ref nd) ∧ c' (q "exact") = some (.ref ec) ∧ m' (q "size") = some (.int (n : Int) t') ∧ m' (q "falls") = m (q "falls") ∧ m' (q "choices") = some (.ref chl) ∧
   m' (q "few") = some (.str few tf) ∧ m' (q "many") = some (.int Z tm) ∧ Kp L h₀ h ∧ KpX L [ec] h12 h ∧ IsL sOf h chl (chs n) ∧ CtI w h ec dx (((chs n).take j).foldl (bC need n few) K0), ?_, ?_, ?_, ?_⟩
  ·exact ⟨a1, a2, a3, a4, a5, a6, rfl, rfl, k012.trans (Ext.kp k13), Ext.x k13, l12.ext k13, x12.ext k13⟩
  ·intro j h h' m' c' S' X4 hk
   refine mG X4 fun a1 a2 a3 a4 a5 a6 b1 b2 kp kx l y => ?_
   clear X4
   exact ⟨a1, a2, a3, a4, a5, a6, b1, b2, fun b o hb e => hk b o (bw2 b o hb e) (kp b o hb e), fun b o hb hn e => hk b o (hlive2 b o e) (kx b o hb hn e), l.at (fun o e => hk _ o cw2 e), y.at (fun o e => hk _ o ew2 e) (fun o e => hk _ o dw2 e)⟩
  ·intro j v more s' m' c' E' hc2 hv2 X5 hzl14 S14 X6
   refine aB X5 ?_
   clear X5
   rintro h14 tk14 rfl
   refine mG X6 fun a1 a2 a3 a4 a5 a6 b1 b2 kp14 kx14 l14 x14 => ?_
   clear X6
   dsimp only at S14 kp14 kx14 l14 x14 hzl14 ⊢
   refine ah (ai hv2) ?_
   rintro tmo rfl
   have hmm := List.mem_of_getElem? hc2
   refine ao (gB hn3 more hmm) fun ml4 _ => ?_
   have klen : (((chs n).take j).foldl (bC need n few) K0).length ≤ 1000 := by
    have h1 := dX need n few ((chs n).take j) K0
    have h2 := dN hn3
    rw [Dc] at h1
    exact uj h1 h2 k0len
   have ftake := bh (bC need n few) K0 (chs n) j more hc2
   generalize ((chs n).take j).foldl (bC need n few) K0 = K1 at *
   refine Ay ?_
   refine jj S14 fun h15 S15 kp15 z15 => ?_
   have x15 := x14.kp kp15 oe od
   have l15 := l14.kp kp15 oc
   have k015 := kp14.trans kp15
   have cM : h15.IsCell (L + 7) (some (.str more tmo)) := S15.cs (q "more") _ rfl
   refine ad ?_
   intro Qb
   refine Ab ?_
   refine ad ?_
   intro Qb
   refine B7 ?_
   refine Ao ?_
   refine LC (k := sOf) (k' := sOf) (fun _ => ab few) (fun p => !Txt.contains more p) id rfl (by decide) rfl (by decide) rfl ?_
   refine lsL S15 b1 ?_
   refine ⟨⟨_, bT R.h⟩, ?_, ?_, ?_, ?_⟩
   ·rw [au, Az]; exact rz fl4
   ·intro C v p s_3 m_3 E3 hC hv hp hnD hmD hkD
    refine ah (ai hv) ?_
    rintro tp rfl
    refine Dt ?_
    refine Ao ?_
    refine nmL hnD hmD ?_
    refine nmC (cM.keeps hkD) ?_
    exact SB.notContains (Am ⟨rfl, aq _⟩)
   ·intro C v p s_3 m_3 E3 hC hv hp _ hnD hmD hkD
    exact nmL hnD hmD ⟨hv, aq _⟩
   intro D16 h16 tk16 ys fD16 hpl hys hk16
   have l16 : IsL sOf h16 D16 ((ab few).filter fun p => !Txt.contains more p) := ⟨ys, hpl, by rw [hys, List.map_id]⟩
   refine bW ?_
   intro h17 l17 k17
   refine jm (l16.ext k17) (l17 _ _) R.units ?_
   refine Am ?_
   have e17 : Ext h15 h17 := Ext.trans hk16 k17
   have S17 := S15.up e17
   have x17 := x15.ext e17
   have l17' := l15.ext e17
   have k017 := k015.trans (Ext.kp e17)
   have kx17 : KpX L [ec] h14 h17 := (Kp.x kp15).trans (Ext.x e17)
   cases hb : ((ab few).filter fun p => !Txt.contains more p).isEmpty with
   | false =>
    simp only [Al, Be]
    refine Ah ?_
    refine Ah ?_
    refine fun _ => ⟨Lk.of, ⟨_, _, S17, a1, a2, a3, a4, a5, a6, b1, b2, k017, kx14.trans kx17, l17', ?_⟩, kx17⟩
    rw [ftake, bC, if_neg (by rw [bq, hb]; simp)]
    exact x17
   | true =>
    simp only [if_true]
    refine ad ?_
    intro Qb
    refine Ab ?_
    refine ad ?_
    intro Qb
    refine B7 ?_
    refine Ao ?_
    refine Bg ?_
    refine Bg ?_
    refine bE (S17.gr G) rfl rfl ?_
    refine Ak ?_
    refine lsC S17 rfl ?_
    refine An ?_
    refine P.len_str (by omega) ?_
    refine bE (S17.gr G) rfl rfl ?_
    refine Ak ?_
    refine lsL S17 b1 ?_
    refine An ?_
    refine P.len_str (by omega) ?_
    refine sub_int ?_
    refine Av ?_
    refine mod_int (by decide) ?_
    refine Av ?_
    refine P.eq_int ?_
    refine Am ?_
    cases hs : (((more.length : Int) - (few.length : Int)).fmod 2 == 1) with
    | true =>
     simp only [if_true]
     refine Ab ?_
     refine wpAny_Expr_any ?_
     refine Bc (pl := _) ?_
     refine lsC S17 a3 ?_
     refine ag (id x17) fun vs xa xr => ?_
     refine cu (f := 944) (S17.gr G).K xa rfl rfl ?_
     refine callWith_K (S17.gr G).K rfl ?_
     refine Ak ?_
     refine lZ ?_
     refine lsC (S17.up (ac _ _)) rfl ?_
     refine lsL (S17.up (ac _ _)) b2 ?_
     refine EI4 more tmo Z tm ⟨rfl, rfl, rfl, ?_⟩
     intro h18 tk18 d18 k18
     dsimp only at d18 k18 ⊢
     refine An ⟨((S17.gr G).ext k18).K, ?_⟩
     refine Bf ?_
     refine lj (k := k) R G (Ext.trans S17.e k18) ge (x17.ext k18) d18 ((S17.gr G).notMods (Aw _)) klen ?_
     intro h19 tk19 x19 kc19
     dsimp only at kc19 ⊢
     have S19 := (S17.up k18).kc kc19 oe ge
     have k019 : Kp L h₀ h19 := fun b o hb e => kc19 b o (fun q => by rw [q, e0] at e; cases e) (k18 b o (k017 b o hb e))
     have l19 := (l17'.ext k18).at (fun o e => kc19 _ o nce e)
     have kx19 : KpX L [ec] h14 h19 := (kx17.trans (Ext.x k18)).trans (KC.x kc19 (by simp))
     refine Ah ?_
     refine Ah ?_
     refine Ah ?_
     refine fun _ => ⟨Lk.of, ⟨_, _, S19, a1, a2, a3, a4, a5, a6, b1, b2, k019, kx14.trans kx19, l19, ?_⟩, kx19⟩
     rw [ftake, bC, if_pos (show bq few more = true from hb), sgn, if_pos hs, hZ']
     exact x19
    | false =>
     simp only [Al, Be]
     refine Ab ?_
     refine wpAny_Expr_any ?_
     refine Bc (pl := _) ?_
     refine lsC S17 a3 ?_
     refine ag (id x17) fun vs xa xr => ?_
     refine cu (f := 936) (S17.gr G).K xa rfl rfl ?_
     refine callWith_K (S17.gr G).K rfl ?_
     refine Ak ?_
     refine lZ ?_
     refine lsC (S17.up (ac _ _)) rfl ?_
     refine lsL (S17.up (ac _ _)) b2 ?_
     refine EI4 more tmo Z tm ⟨rfl, rfl, rfl, ?_⟩
     intro h18 tk18 d18 k18
     dsimp only at d18 k18 ⊢
     refine An ⟨((S17.gr G).ext k18).K, ?_⟩
     refine Bf ?_
     refine mN (k := k) R G (Ext.trans S17.e k18) ge (x17.ext k18) d18 ((S17.gr G).notMods (Aw _)) klen ?_
     intro h19 tk19 x19 kc19
     dsimp only at kc19 ⊢
     have S19 := (S17.up k18).kc kc19 oe ge
     have k019 : Kp L h₀ h19 := fun b o hb e => kc19 b o (fun q => by rw [q, e0] at e; cases e) (k18 b o (k017 b o hb e))
     have l19 := (l17'.ext k18).at (fun o e => kc19 _ o nce e)
     have kx19 : KpX L [ec] h14 h19 := (kx17.trans (Ext.x k18)).trans (KC.x kc19 (by simp))
     refine Ah ?_
     refine Ah ?_
     refine Ah ?_
     refine fun _ => ⟨Lk.of, ⟨_, _, S19, a1, a2, a3, a4, a5, a6, b1, b2, k019, kx14.trans kx19, l19, ?_⟩, kx19⟩
     rw [ftake, bC, if_pos (show bq few more = true from hb), sgn, if_neg (by rw [hs]; simp), hZ']
     exact x19
  ·intro s' m' c' X7 hzl14 S14 X8
   refine aB X7 ?_
   clear X7
   rintro h14 tk14 rfl
   refine mG X8 fun a1 a2 a3 a4 a5 a6 b1 b2 kp14 kx14 l14 x14 => ?_
   clear X8
   try dsimp only
   rw [A7] at x14
   refine Ah ?_
   refine fun _ => ⟨Lk.of, ⟨_, _, S14, a1, a2, a3, a4, a5, a6, kp14, l14, ?_⟩, ((Kp.x kp7).trans (Kp.x kp712)).trans kx14⟩
   rw [otake]
   exact x14
 ·intro s' m' c' X9 hzl6 S6 X10
  refine aB X9 ?_
  clear X9
  rintro h6 tk6 rfl
  refine mF X10 fun a1 a2 a3 a4 a5 a6 kp6 l6 x6 => ?_
  clear X10
  try dsimp only
  rw [A7] at x6
  exact h h6 tk6 m' c' S6 a3 a6 a5 x6 l6 kp6
end
end
section
section
variable {w : World} {A : Around} {E : Value -> Shared -> Prop} {s : Shared} {c dx : Addr}
theorem nJ {kvs : List (Str × Value)} {k : Str} {key : Value} {v : Value} {value slice : Expr} {Q : Value -> Shared -> Prop} (X : (K w.params).In s.heap) (hkey : (sK w).is k key = true) (x : CtA w s.heap c dx kvs) (hv : valueAt kvs k = some v)
  (hQ : Q v { s with toks := s.toks + 1 }) (hs : subscripted slice false (.ref c) key = operate [.ref c, key] (getItem (.ref c) key)) : wpAny (MK w) A (subscriptTail value slice (.ref c) key) Q E s := by
 have L1 := aY x
 have L2 : Looks (MK w) s.heap (typeLookup (.ref 1093) "__getitem__") (some (.builtin "dict.__getitem__")) := B8 X rfl
 unfold subscriptTail getitemInPython
 refine Aa ?_
 refine Aa ?_
 refine (L1.andThen L2 : Looks (MK w) s.heap (specialOf (.ref c) "__getitem__") _).here ?_
 refine Ae ?_
 rw [hs]
 refine Aa ?_
 exact wpAny_operating (Aj (jr X hkey x hv hQ) (fun r s_3 h_3 => Aa (wpAny_letTemporaryGo (Ae h_3))) fun _ _ x => x)
theorem jL {kvs : List (Str × Value)} {ks : List (Str × Int)} {x : Str} {z : Int} (r : Rel iOf kvs ks) (h : got ks x = some z) : ∃ t, valueAt kvs x = some (.int z t) := by
 have e := r.got (x := x)
 rw [h] at e
 cases hv : valueAt kvs x with
 | none => rw [hv] at e; cases e
 | some v =>
  rw [hv] at e
  refine ah (aF (Bk e)) ?_
  rintro t rfl
  exact ⟨t, rfl⟩
theorem i3 {f : Str -> Int} {l : List Value} {kvs : List (Str × Value)} (h : StoredAll (fun v k => sOf v = some k) (fun v y => ∃ x, sOf v = some x ∧ iOf y = some (f x)) l kvs) : ∀ {xs : List Str}, l.map sOf = xs.map some -> Rel iOf kvs (xs.foldl (fun kvs x => put kvs x (f x)) []) := by
 induction h with
 | nil =>
  intro xs e
  cases xs with
  | nil => rfl
  | cons _ _ => cases e
 | @snoc l kvs v k y _ hk hy ih =>
  intro xs e
  rw [Ba, List.map_singleton] at e
  refine db (List.map_eq_append_iff.mp e.symm) ?_
  rintro ys zs rfl h1 h2
  obtain ⟨z, rfl⟩ : ∃ z, zs = [z] := by
   have hl := congrArg List.length h2
   simp only [Ai, Dd] at hl
   exact List.length_eq_one_iff.mp hl
  have ez : sOf v = some z := by
   have := h2
   simp only [A2, Gv, B9, and_true] at this
   exact this.symm
  refine ag hy fun x hx hf => ?_
  clear hy
  rw [List.foldl_append]
  show Rel iOf (stored kvs k y) (put _ z (f z))
  have e1 : x = z := Bk (hx.symm.trans ez)
  have e2 : k = z := Bk (hk.symm.trans ez)
  rw [e2]
  exact (ih h1.symm).put (by rw [hf, e1])
theorem DC {env : Env} {kx vx iter : Expr} {x : Str} {px : Pos} {ifs : List Expr} {scope : Scope} {cl : List (Str × Addr)} {pos : Pos} {Q : Value -> Shared -> Prop} (cs : List Str) (test : Str -> Bool) (f : Str -> Int)
  (hclos : closureFor scope env = pure cl) (hcell : ∀ y ∈ scope.names, y.2 ≠ .cell) (hkind : scope.kind = .function)
  (hnames : ∀ y ∈ scope.names, y.2 = .local -> scope.names.lookup y.1 = some .local) (hx : scope.names.lookup x = some .local)
  (h : wpAny (MK w) A (eval iter env) (fun xv s_1 => (∃ src, wpAny (MK w) A (pyIter xv) (bk pw w A src sOf cs s_1) E s_1) ∧ cs.length ≤ sizeLine ∧
   (∀ C v y s_3 m_3 E', sOf v = some y -> y ∈ cs -> s_3.heap.Ns C m_3 -> m_3 x = some v -> Ext s_1.heap s_3.heap ->
    wpAny (MK w) A (forIn ifs true fun c r => if r = true then do let ok <- isTrue c (compEnvC scope cl C env) (eval c (compEnvC scope cl C env)); pure (ForInStep.yield ok) else pure (ForInStep.yield r))
     (fun ok s_4 => ok = test y ∧ Keeps s_3 s_4) E' s_3) ∧
   (∀ C v y s_3 m_3 E', sOf v = some y -> y ∈ cs -> s_3.heap.Ns C m_3 -> m_3 x = some v -> Ext s_1.heap s_3.heap ->
    wpAny (MK w) A (eval kx (compEnvC scope cl C env)) (fun z s_4 => sOf z = some y ∧ Keeps s_3 s_4) E' s_3) ∧
   (∀ C v y s_3 m_3 E', sOf v = some y -> y ∈ cs -> s_3.heap.Ns C m_3 -> m_3 x = some v -> Ext s_1.heap s_3.heap ->
    wpAny (MK w) A (eval vx (compEnvC scope cl C env)) (fun z s_4 => iOf z = some (f y) ∧ Keeps s_3 s_4) E' s_3) ∧
   (∀ D h' tk, s_1.heap.get? D = none -> IsD w iOf h' D ((cs.filter test).foldl (fun kvs x => put kvs x (f x)) []) -> Ext s_1.heap h' -> Q (.ref D) { s_1 with heap := h', toks := tk })) E s)
  (hs : ∀ x, foldedSetIterable iter env x = pure x := by intro _; rfl) :
  wpAny (MK w) A (eval (.DictComp kx vx [⟨.Name x px, iter, ifs, 0⟩] scope pos) env) Q E s := by
 refine wpAny_DictComp_free (sK w) (fun v => ((sOf v).map test).getD false) (fun v k => sOf v = some k) (fun v y => ∃ x, sOf v = some x ∧ iOf y = some (f x)) hclos hcell hkind hnames hx (Aj h (fun xv s_1 h_1 => ?_) fun _ _ e => e) hs
 refine fW h_1 ?_
 clear h_1
 rintro ⟨src, hsrc⟩ hsz ht hk hv hQ
 refine ad ?_
 intro Qb
 refine Aj hsrc (fun it s_2 h_2 => ?_) fun _ _ e => e
 refine cB h_2 ?_
 clear h_2
 rintro I fp wr n P St rfl W hn hst hfp hP hwr hfr Z39
 refine aG Z39 ?_
 clear Z39
 rintro h2 tk2 rfl k2
 have out : ∀ b o, s_1.heap.get? b = some o -> b ∉ wr := fun b o e hb => by rw [hwr b hb] at e; cases e
 have W' : Walks pw w A I fp wr n (fun i v => P i v ∧ i < n) St :=
  ⟨W.sub, W.frame, fun i s Q E hi st hQ => W.item i s Q E hi st fun v h' tk hp => hQ v h' tk ⟨hp, hi⟩, W.done, W.self⟩
 have item : ∀ i v, P i v ∧ i < n -> ∃ c, sOf v = some c ∧ c ∈ cs ∧ cs[i]? = some c := fun i v hv => by
  have hkv := hP i v hv.1 hv.2
  have hl := hv.2
  rw [hn] at hl
  rw [List.getElem?_eq_getElem hl] at hkv
  exact ⟨_, hkv, List.getElem_mem hl, List.getElem?_eq_getElem hl⟩
 refine EI6 I fp wr n _ St ⟨rfl, W', by omega, hst, hfp, ⟨?_, ?_, ?_⟩, ?_⟩
 ·intro C i v s_3 m_3 E' hv' hns hm hk'
  refine aZ (item i v hv') fun c hkv hc _ => ?_
  exact Aj (ht C v c s_3 m_3 E' hkv hc hns hm fun b o e => hk' b o (out b o e) (k2 b o e)) (fun ok s_4 h => ⟨by rw [h.1, hkv]; rfl, h.2⟩) fun _ _ e => e
 ·intro C i v s_3 m_3 E' hv' hpv hns hm hk'
  refine aZ (item i v hv') fun c hkv hc _ => ?_
  refine Aj (hk C v c s_3 m_3 E' hkv hc hns hm fun b o e => hk' b o (out b o e) (k2 b o e)) (fun z s_4 h => ⟨?_, h.2⟩) fun _ _ e => e
  refine ah (ai h.1) ?_
  rintro t rfl
  exact ⟨c, aM c t, hkv⟩
 ·intro C i v s_3 m_3 E' hv' hpv hns hm hk'
  refine aZ (item i v hv') fun c hkv hc _ => ?_
  exact Aj (hv C v c s_3 m_3 E' hkv hc hns hm fun b o e => hk' b o (out b o e) (k2 b o e)) (fun z s_4 h => ⟨⟨c, hkv, h.1⟩, h.2⟩) fun _ _ e => e
 ·intro D h' tk kvs vs hD hd hlen hPv hF hk'
  have hvs : vs.map sOf = cs.map some := by
   refine List.ext_getElem? fun j => ?_
   rw [List.getElem?_map, List.getElem?_map]
   cases hj : vs[j]? with
   | none =>
    have : cs[j]? = none := by rw [List.getElem?_eq_none_iff] at hj ⊢; omega
    rw [this]; rfl
   | some v =>
    refine aZ (item j v (hPv j v hj)) fun c hkv _ hc => ?_
    rw [hc, Dg, Dg, hkv]
  exact hQ D h' tk (ap k2 hD) ⟨kvs, hd, i3 hF (dq hvs)⟩ fun b o e => hk' b o (out b o e) (k2 b o e)
end
end
section
structure br (h h' : Heap) : Prop where
 z : h.objs.size ≤ h'.objs.size
 d : ∀ b, b < h.objs.size -> h.get? b = none -> h'.get? b = none
theorem br.refl (h : Heap) : br h h := ⟨Aw _, fun _ _ e => e⟩
theorem br.trans {a b c : Heap} (x : br a b) (y : br b c) : br a c := ⟨Ag x.z y.z, fun i h e => y.d i (Bq h x.z) (x.d i h e)⟩
theorem gz (h : Heap) (o : Obj) : br h (h.push o) := by
 refine ⟨by rw [A4]; exact B2 _, fun b hb e => ?_⟩
 unfold Heap.get? at e ⊢
 have : (h.push o).objs[b]? = h.objs[b]? := by
  cases h
  show (Array.push _ o)[b]? = _
  rw [Array.getElem?_push_lt hb]
  simp
 rw [this]; exact e
theorem eH {h : Heap} {a : Addr} {f : Obj -> Obj} (ha : (h.get? a).isSome) : br h (h.update a f) := by
 refine ⟨Dq (Heap.size_after_update h a f).symm, fun b _ e => ?_⟩
 have hn : b ≠ a := fun q => by rw [<- q, e] at ha; cases ha
 rw [Heap.get?_update_other _ _ (Ne.symm hn)]; exact e
theorem dZ {M : Model} {Γ : Ctx} {p : Pos} {t : Sem Fin} {fs : List Frame} {s s' : Shared} {e : End} (h : Runs M Γ p t fs s e s') : br s.heap s'.heap := by
 induction h with
 | done => exact .refl _
 | raise => exact .refl _
 | again _ _ ih => exact ih
 | rule _ ih => exact ih
 | «at» _ ih => exact ih
 | load _ _ ih => exact ih
 | update ha _ ih => exact (eH ha).trans ih
 | loadIfAlive _ ih => exact ih
 | point _ ih => exact ih
 | alloc _ ih => exact (gz _ _).trans ih
 | fresh _ ih => exact ih
 | ask _ ih => exact ih
 | choose _ _ ih => exact ih
 | os _ ih => exact ih
 | handled _ ih => exact ih
 | genState _ _ ih => exact ih
 | stack _ ih => exact ih
 | thread _ ih => exact ih
 | newGen _ ih => exact ih
 | call _ _ ih1 ih2 => exact ih1.trans ih2
 | callSusp _ ih => exact ih
 | «yield» => exact .refl _
 | resumeFresh _ _ _ _ ih1 ih2 => exact br.trans ih1 ih2
 | resumeSuspended _ _ _ _ ih1 ih2 => exact br.trans ih1 ih2
 | resumeJustStarted _ _ _ ih => exact ih
 | resumeThrowFresh _ _ ih => exact ih
 | resumeRunning _ _ ih => exact ih
 | resumeFinished _ _ ih => exact ih
 | segRet _ _ ih1 ih2 => exact ih1.trans ih2
 | segGen _ _ ih1 ih2 => exact br.trans ih1 ih2
 | segSuspOut _ _ ih => exact ih
 | segSuspGen _ _ _ _ ih1 ih2 => exact br.trans ih1 ih2
theorem iX {M : Model} {Γ : Ctx} {p : Pos} {g : Nat} {r : Resume} {s s' : Shared} {res : GenResult} (h : Wakes M Γ p g r s res s') : br s.heap s'.heap := by
 unfold Wakes at h
 split at h
 ·exact h.elim
 ·split at h
  ·obtain ⟨e_1, s_1, hr, _, _, rfl⟩ := h; exact (dZ hr : br (s.setGen g .running).heap s_1.heap)
  ·rw [h.2]; exact .refl _
  ·rw [h.2]; exact .refl _
 ·obtain ⟨e_1, s_1, hr, _, _, rfl⟩ := h; exact (dZ hr : br (s.setGen g .running).heap s_1.heap)
 ·rw [h.2]; exact .refl _
 ·rw [h.2]; exact .refl _
open Sem in
theorem mJ {α : Type} (M : Model) (Γ : Ctx) (h0 : Heap) (t : Sem α) : ∀ (Q : α -> Pos -> Shared -> Prop) (E : Value -> Pos -> Shared -> Prop) (p : Pos) (s : Shared), br h0 s.heap -> Sem.wp M Γ t Q E p s ->
  Sem.wp M Γ t (fun a p' s' => br h0 s'.heap ∧ Q a p' s') (fun e p' s' => br h0 s'.heap ∧ E e p' s') p s := by
 induction t with
 | pure a => intro Q E p s hn h; exact ⟨hn, h⟩
 | raise e => intro Q E p s hn h; exact ⟨hn, h⟩
 | unsupported _ => intro Q E p s _ h; exact h
 | finish _ => intro Q E p s _ h; exact h
 | rule _ k ih => intro Q E p s hn h; exact ih () Q E p s hn h
 | «at» p' k ih => intro Q E p s hn h; exact ih () Q E p' s hn h
 | load a _ k ih => intro Q E p s hn h; obtain ⟨o, ho, h⟩ := h; exact ⟨o, ho, ih o Q E p s hn h⟩
 | update a _ f k ih => intro Q E p s hn h; exact ⟨h.1, ih () Q E p _ (hn.trans (eH h.1)) h.2⟩
 | loadIfAlive a k ih => intro Q E p s hn h; exact ih _ Q E p s hn h
 | point _ k ih => intro Q E p s hn h; exact ih () Q E p s hn h
 | register _ _ => intro Q E p s _ h; exact h
 | alloc o k ih => intro Q E p s hn h; exact ih _ Q E p _ (hn.trans (gz _ _)) h
 | fresh k ih => intro Q E p s hn h; exact ih _ Q E p _ hn h
 | ask k ih => intro Q E p s hn h; exact ih _ Q E p s hn h
 | choose src m k ih => intro Q E p s hn h; exact ⟨h.1, ih _ Q E p _ hn h.2⟩
 | os q _ k ih => intro Q E p s hn h; exact ih _ Q E p _ hn h
 | call c hd _ _ k ih => intro Q E p s hn h; obtain ⟨r, s', hr, h⟩ := h; exact ⟨r, s', hr, ih r Q E p s' (hn.trans (dZ hr)) h⟩
 | handled own k ih => intro Q E p s hn h; exact ih _ Q E p s hn h
 | genState g k ih => intro Q E p s hn h; obtain ⟨st, hs, h⟩ := h; exact ⟨st, hs, ih _ Q E p s hn h⟩
 | newGen c k ih => intro Q E p s hn h; exact ih _ Q E p _ hn h
 | resume g r _ k ih => intro Q E p s hn h; obtain ⟨res, s', hw, h⟩ := h; exact ⟨res, s', hw, ih res Q E p s' (hn.trans (iX hw)) h⟩
 | yield _ _ _ _ => intro Q E p s _ h; exact h
 | stack k ih => intro Q E p s hn h; exact ih _ Q E p s hn h
 | fork _ _ => intro Q E p s _ h; exact h
 | thread k ih => intro Q E p s hn h; exact ih _ Q E p s hn h
 | await _ _ _ _ _ => intro Q E p s _ h; exact h
section
variable {α : Type} {M : Model} {A : Around} {s : Shared}
theorem jV {t : Sem α} {Q : α -> Shared -> Prop} {E : Value -> Shared -> Prop} {h0 : Heap} (hn : br h0 s.heap) (h : wpAny M A t (fun a s' => br h0 s'.heap -> Q a s') (fun e s' => br h0 s'.heap -> E e s') s) : wpAny M A t Q E s :=
 Aj (fun Γ p hΓ => mJ M Γ h0 t _ _ p s hn (h Γ p hΓ) : wpAny M A t (fun a s' => br h0 s'.heap ∧ (br h0 s'.heap -> Q a s')) (fun e s' => br h0 s'.heap ∧ (br h0 s'.heap -> E e s')) s) (fun _ _ x => x.2 x.1) fun _ _ x => x.2 x.1
theorem br.new {h h' : Heap} (x : br h h') {b : Addr} {o : Obj} (e : h.get? b = none) (e' : h'.get? b = some o) : h.objs.size ≤ b := by
 by_cases q : b < h.objs.size
 ·have := x.d b q e
  rw [e'] at this; cases this
 ·exact Bp.mp q
end
end
section
def fa (need : Str -> List Str) (n : Nat) : List (Str × Int) :=
 ((chs n).filter fun x => (got (aX need n) x).getD 0 != 0).foldl (fun kvs x => put kvs x ((got (aX need n) x).getD 0)) []
theorem iG {A : Around} {s : Shared} {kb : List (Str × Value)} {ys : List (Str × Int)} (rb : Rel iOf kb ys) : ∀ {ka : List (Str × Value)} {xs : List (Str × Int)}, Rel iOf ka xs -> (∀ p ∈ xs, got ys p.1 = some p.2) -> KeqHits A s kb ka true
 | [], [], _, _ => .nil
 | (k, v) :: ka, (k', z) :: xs, r, h => by
  simp only [Rel, A2, B9, Prod.mk.injEq] at r
  refine ao r ?_
  clear r
  rintro ⟨rfl, hv⟩ r
  refine ah (aF hv) ?_
  rintro t rfl
  refine ah (jL rb (h (k, z) Ar)) fun u hu => ?_
  have := KeqHits.hit (A := A) (s := s) hu (SeqAt.EqAt.int_int z t z u) (iG rb r fun p hp => h p (A1 _ hp))
  simpa using this
theorem Rel.len {kvs : List (Str × Value)} {ks : List (Str × Int)} (r : Rel iOf kvs ks) : kvs.length = ks.length := by
 have := congrArg List.length r
 simpa using this
section
variable {w : World} {A : Around} {E : Value -> Shared -> Prop} {s : Shared} {g : Heap} {L : Addr} {m c : Str -> Option Value} {Q : Flow -> Shared -> Prop}
theorem s9_ {fc fdx ec dx chl : Addr} {n : Nat} {need : Str -> List Str} {os : List Str} {k : Nat} (R : ak A (k + 10)) (G : Gr w g) (hn3 : n = 3 ∨ n = 4 ∨ n = 5) (S : LS w g s.heap L m c)
  (hmf : m (q "falls") = some (.ref fc)) (hce : c (q "exact") = some (.ref ec)) (hmh : m (q "choices") = some (.ref chl)) (xf : CtI w s.heap fc fdx (dK n os)) (xe : CtI w s.heap ec dx (aX need n)) (lc : IsL sOf s.heap chl (chs n))
  (p1 : (dK n os).length = (fa need n).length) (p2 : ∀ p ∈ dK n os, got (fa need n) p.1 = some p.2) (p3 : ∀ x ∈ chs n, got (aX need n) x ≠ none) (p4 : (dK n os).length ≤ 100)
  (h : ∀ h' tk, Ext s.heap h' -> Q (.ret (.bool true)) { s with heap := h', toks := tk }) :
  wpAny (MK w) A (execs (cH.drop 16) (aK L)) Q E s := by
 refine Ab ?_
 refine Bu ?_
 refine wpAny_Compare1 ?_
 refine bX (S.gr G) rfl rfl ?_
 refine Ak ?_
 refine lsL S hmf ?_
 refine An ?_
 refine ag (id xf) fun vf xa xr => ?_
 refine jV (h0 := s.heap) (.refl _) ?_
 refine nI (S.gr G).K xa (by rw [Rel.len xr]; exact p4) ?_
 intro h1 tk1 d1 dd1 k1 f1 de1
 try dsimp only
 have S1 := S.up k1
 refine jV (h0 := h1) (.refl _) ?_
 refine DC (chs n) (fun x => (got (aX need n) x).getD 0 != 0) (fun x => (got (aX need n) x).getD 0) rfl (by decide) rfl (by decide) rfl ?_
 refine lsL S1 hmh ?_
 refine ag (lc.ext k1) fun io po ko => ?_
 refine ag (id (xe.ext k1)) fun ve xb xs => ?_
 have cE : h1.IsCell (L + 6) (some (.ref ec)) := hce ▸ S1.cs (q "exact") _ rfl
 have item : ∀ {y : Str} {s_3 : Shared} {A' : Around} {value slice : Expr} {t : Tok} {E' : Value -> Shared -> Prop} {P : Value -> Shared -> Prop}, y ∈ chs n -> Ext h1 s_3.heap ->
   (∀ u, P (.int ((got (aX need n) y).getD 0) u) { s_3 with toks := s_3.toks + 1 }) -> subscripted slice false (.ref ec) (.str y t) = operate [.ref ec, .str y t] (getItem (.ref ec) (.str y t)) -> wpAny (MK w) A' (subscriptTail value slice (.ref ec) (.str y t)) P E' s_3 := by
  intro y s_3 A' value slice t E' P hy e3 hP hs
  cases hg : got (aX need n) y with
  | none => exact absurd hg (p3 y hy)
  | some z =>
   refine ah (jL xs hg) fun u hu => ?_
   refine nJ ((S1.gr G).ext e3).K (aM y t) (xb.ext e3) hu ?_ hs
   have := hP u
   rw [hg] at this
   exact this
 refine ⟨⟨_, aL R.h po.isList ko⟩, ?_, ?_, ?_, ?_, ?_⟩
 ·have := dN hn3
  rw [Az]; exact vd this
 ·intro C v y s_3 m_3 E3 hv hy hnD hmD hkD
  refine ah (ai hv) ?_
  rintro tv rfl
  refine Dt ?_
  refine Ao ?_
  refine Dl ?_
  refine nmC (cE.keeps hkD) ?_
  refine nmL hnD hmD ?_
  refine item hy hkD (fun u => ?_) (by with_unfolding_all rfl)
  refine Av ?_
  refine P.ne_int ?_
  exact Am ⟨rfl, ay fun _ _ e => e⟩
 ·intro C v y s_3 m_3 E3 hv hy hnD hmD hkD
  exact nmL hnD hmD ⟨hv, aq _⟩
 ·intro C v y s_3 m_3 E3 hv hy hnD hmD hkD
  refine ah (ai hv) ?_
  rintro tv rfl
  refine Dl ?_
  refine nmC (cE.keeps hkD) ?_
  refine nmL hnD hmD ?_
  refine item hy hkD (fun u => ?_) (by with_unfolding_all rfl)
  exact ⟨rfl, ay fun _ _ e => e⟩
 intro D h2 tk2 fD d2 k2 de2
 refine ag d2 fun vr dr rr => ?_
 clear d2
 have nd1 : (d1 == sysModules) = false := by
  refine mB (id dd1) fun o _ _ e _ => ?_
  exact (S.gr G).notMods (de1.new f1 e)
 have nd2 : (D == sysModules) = false := by
  refine mB (id dr) fun o _ _ e _ => ?_
  exact (S1.gr G).notMods (de2.new fD e)
 refine keq_eq (r := true) nd1 nd2 (dd1.at fun o e => k2 _ o e) dr (by have := R.units; exact tr this) (fun _ => iG rr xr p2) ?_
 have el : (vf.length == vr.length && true) = true := by
  rw [Rel.len xr, Rel.len rr, p1]
  simp [fa]
 rw [el]
 exact h h2 _ (Ext.trans k1 k2)
end
end
noncomputable section
theorem ui : LeftO pw qv ek Xt_ H.obs H.val 30000 :=
 LeftO.of_pieces qg pY uR (by decide) fun w => funext fun os => ou (uh w os) (ou (ug w os) (uf w os))
def oV : Stmt -> Pos
 | .FunctionDef _ _ _ _ _ _ _ _ _ p => p
 | _ => z
def iL : DefRec := ⟨q "law", fnP (stA 56), fnB (stA 56), fnS (stA 56), oV (stA 56)⟩
theorem um : defOf qv rw_.row.name = some (iL, []) := by kernel_rfl
theorem hp_ : pw.theDef rw_.row.name = some (iL.params, iL.body, iL.scope) := by kernel_rfl
theorem hk_ : kwWritten? iL.params.kwonlyargs iL.params.kw_defaults = some [] := by kernel_rfl
theorem wr_ : (!rw_.row.writes || rw_.row.toRowW.records.isEmpty) = true := by kernel_rfl
theorem ok_ : (chainsOk qv && opensWell pw && (frees rw_.row.toRowW && rw_.row.toRowW.within.isEmpty)) = true := by kernel_rfl
theorem uD : pw.bare := ⟨by kernel_rfl, by kernel_rfl, by kernel_rfl, by kernel_rfl, by kernel_rfl, by kernel_rfl⟩
theorem qc : rw_.row.toRowW.promised := ⟨[.list []], by kernel_rfl, by kernel_rfl⟩
theorem oO {S : OpenLaw -> Bool} (h : @OpenLaw.wellSaid = S) {l : OpenLaw} (k : S l = true) : l.wellSaid = true := by subst h; exact k
theorem p5 : rw_.wellSaid = true := oO PySem.W.Fast.te9446332074065402090 (by kernel_rfl)
end
theorem hd (call : WalkO qv ek (XL qv []) H.says rw_.row.toRowW iL [] (fun f vs => PySem.call f vs)) : PySem.Challenge.rw_dn0070_12.Holds :=
 holds_law p5 fun said => holds_open (q := qv) (loose := ek) (Xt := Xt_) (XP := XL qv []) (Yf := H.obs) (Ya := H.val) (YP := H.says) (N := 30000) ui H.of H.keeps
  (fun s e => xl_of s (Bool.and_eq_true_iff.mp e).1) XL.keeps um hp_ hk_ (fun s e => recFacts_of (Bool.and_eq_true_iff.mp e).2) wr_ said ok_ uD qc call
end Mine
end
section
open PySem PySem.W PyProof.Rows PySem.Calls PySem.Spec
namespace Mine
def co (y : Str) : Nat := y.cps[0]?.getD 0
def One (y : Str) : Prop := ∃ n, y = ⟨#[n]⟩
theorem bb {x y : Str} (h : y ∈ ab x) : One y := by
 refine ag (A0.mp h) ?_
 rintro n _ rfl
 exact ⟨n, rfl⟩
theorem One.chars {y : Str} (h : One y) : ab y = [y] := by
 refine ah h ?_
 clear h
 rintro n rfl
 rfl
theorem mf {x y : Str} (hx : One x) (hy : One y) (h : co x = co y) : x = y := by
 refine ah hx ?_
 clear hx
 rintro n rfl
 refine ah hy ?_
 clear hy
 rintro m rfl
 have : n = m := by simpa [co] using h
 rw [this]
theorem ji {x y : Str} (hx : One x) (hy : One y) : ltS x y = decide (co x < co y) := by
 refine ah hx ?_
 clear hx
 rintro n rfl
 refine ah hy ?_
 clear hy
 rintro m rfl
 simp [ltS, co, List.cons_lt_cons_iff]
theorem ba {a b : Str} (h : ab a = ab b) : a = b := by
 cases a with | mk a => cases b with | mk b =>
 unfold ab at h
 have e : a.toList = b.toList := by
  refine List.map_inj_right (f := fun c : Nat => (⟨#[c]⟩ : Str)) (fun x y q => ?_) |>.mp h
  simpa using q
 have : a = b := Array.toList_inj.mp e
 rw [this]
def cA (l : List Str) : Str := l.foldr (· ++ ·) ⟨#[]⟩
theorem aE : ∀ {l : List Str}, (∀ y ∈ l, One y) -> ab (cA l) = l
 | [], _ => rfl
 | y :: l, h => by
  show ab (y ++ cA l) = _
  rw [aN, aE fun z hz => h z (A1 _ hz), (h y Ar).chars]; rfl
def Asc (l : List Str) : Prop := l.Pairwise fun a b => co a < co b
theorem j0 {a b : List Str} (ha : Asc a) (hb : Asc b) (h : ∀ y, y ∈ a ↔ y ∈ b) : a = b := by
 have nd : ∀ {l : List Str}, Asc l -> l.Nodup := fun {l} h => h.imp fun {x y} q e => by rw [e] at q; exact A9 _ q
 have p : a.Perm b := (List.perm_ext_iff_of_nodup (nd ha) (nd hb)).mpr h
 refine p.eq_of_pairwise (le := fun a b => co a < co b) (fun x y _ _ h1 h2 => ?_) ha hb
 omega
theorem Asc.nodup {l : List Str} (h : Asc l) : l.Nodup := h.imp fun {x y} q e => by rw [e] at q; exact A9 _ q
theorem ki (l : List Str) : ∀ (ps l0 : List Str), (∀ c ∈ l, One c) -> (∀ c ∈ l0, One c) -> (∀ p, p ∈ ps ↔ (ab p).Sublist l0) -> ∀ p, p ∈ l.foldl bO ps ↔ (ab p).Sublist (l0 ++ l) := by
 induction l with
 | nil => intro ps l0 _ _ h p; rw [Gi]; exact h p
 | cons c r ih =>
  intro ps l0 h1 h0 h p
  have hc := h1 c Ar
  rw [A6, ih (bO ps c) (l0 ++ [c]) (fun d hd => h1 d (A1 _ hd)) ?_ ?_ p, List.append_assoc]; · rfl
  ·intro d hd
   rcases Au.mp hd with q | q
   ·exact h0 d q
   ·rw [Ac.mp q]; exact hc
  ·intro p
   unfold bO
   rw [Au, A0, h p, List.sublist_append_iff]
   constructor
   ·rintro (q | ⟨u, hu, rfl⟩)
    ·exact EI2 (ab p) [] ⟨by simp, q, List.nil_sublist _⟩
    ·exact EI2 (ab u) [c] ⟨by rw [aN, hc.chars], (h u).mp hu, List.Sublist.refl _⟩
   ·intro X1
    refine db X1 fun a b e ha hb => ?_
    clear X1
    have hb' : b = [] ∨ b = [c] := by
     cases b with
     | nil => exact .inl rfl
     | cons x b =>
      right
      rw [List.sublist_cons_iff] at hb
      rcases hb with q | ⟨r, q, q'⟩
      ·cases List.sublist_nil.mp q
      ·rw [q, List.sublist_nil.mp q']
    rcases hb' with rfl | rfl
    ·left; rw [e, Gi]; exact ha
    ·right
     have oa : ∀ y ∈ a, One y := fun y hy => h0 y (ha.subset hy)
     refine ⟨cA a, (h _).mpr (by rw [aE oa]; exact ha), ba ?_⟩
     rw [aN, aE oa, hc.chars, e]
theorem cV {names p : Str} : p ∈ aW (ab names) ↔ (ab p).Sublist (ab names) := by
 have := ki (ab names) [⟨#[]⟩] [] (fun c h => bb h) (by simp) (fun p => by
  rw [Ac, List.sublist_nil]
  exact ⟨fun e => by rw [e]; rfl, fun e => ba e⟩) p
 exact this
def part (names o : Str) : Str := cA ((ab names).filter fun y => decide (y ∈ ab o))
theorem ci (names o : Str) : ab (part names o) = (ab names).filter fun y => decide (y ∈ ab o) := aE fun _ h => bb (Bd.mp h).1
theorem bD {names o y : Str} : y ∈ ab (part names o) ↔ y ∈ ab names ∧ y ∈ ab o := by rw [ci, Bd, Bx]
theorem fn {names o x : Str} (hA : Asc (ab names)) (hx : (ab x).Sublist (ab names)) (ho : ∀ y ∈ ab o, y ∈ ab names) : part names o = x ↔ ∀ y, y ∈ ab o ↔ y ∈ ab x := by
 constructor
 ·rintro rfl y
  rw [bD]
  exact ⟨fun h => ⟨ho y h, h⟩, fun h => h.2⟩
 ·intro h
  refine ba (j0 ?_ (hA.sublist hx) fun y => ?_)
  ·rw [ci]; exact hA.sublist D9
  ·rw [bD, h]
   exact ⟨fun q => q.2, fun q => ⟨hx.subset q, q⟩⟩
theorem eA {need : Str -> List Str} {f x : Str} (hone : ∀ a ∈ ab x, ∀ b ∈ need a, One b) :
  bi need f x = true ↔ (∀ y ∈ ab f, y ∈ ab x) ∧ ∀ a ∈ ab x, a ∉ ab f -> ∀ b ∈ need a, b ∈ ab x -> b ∉ ab f -> ¬ co a < co b := by
 have fresh : ∀ a, a ∈ aJ f x ↔ a ∈ ab x ∧ a ∉ ab f := fun a => by
  unfold aJ
  rw [Bd]
  constructor
  ·intro X2
   refine ao X2 fun h1 h2 => ?_
   clear X2
   rw [aU h1] at h2
   exact ⟨h1, by simpa using h2⟩
  ·intro X3
   refine ao X3 fun h1 h2 => ?_
   clear X3
   refine ⟨h1, ?_⟩
   rw [aU h1]
   simpa using h2
 unfold bi
 have e1 : ((ab f).filter fun c => !Txt.contains x c).isEmpty = true ↔ ∀ y ∈ ab f, y ∈ ab x := by
  rw [List.isEmpty_iff, Ds]
  refine ⟨fun h y hy => ?_, fun h y hy => ?_⟩
  ·have := h y hy
   rw [aU hy] at this
   simpa using this
  ·rw [aU hy]
   simpa using h y hy
 have e2 : ((aJ f x).flatMap fun a => (need a).filter fun b => (aJ f x).any (· == b) && ltS a b).isEmpty = true ↔ ∀ a ∈ ab x, a ∉ ab f -> ∀ b ∈ need a, b ∈ ab x -> b ∉ ab f -> ¬ co a < co b := by
  rw [List.isEmpty_iff, List.flatMap_eq_nil_iff]
  constructor
  ·intro h a h1 h2 b hb h3 h4 hlt
   have := Ds.mp (h a ((fresh a).mpr ⟨h1, h2⟩)) b hb
   apply this
   rw [Bool.and_eq_true, ji (bb h1) (hone a h1 b hb), Bx, Gc]
   exact ⟨⟨b, (fresh b).mpr ⟨h3, h4⟩, by simp⟩, hlt⟩
  ·intro h a ha
   refine ao ((fresh a).mp ha) fun h1 h2 => ?_
   rw [Ds]
   intro b hb q
   rw [Bool.and_eq_true, ji (bb h1) (hone a h1 b hb), Bx, Gc] at q
   refine ao q ?_
   clear q
   rintro ⟨b', hb', e⟩ hlt
   have e : b' = b := by simpa using e
   subst e
   refine ao ((fresh b').mp hb') fun h3 h4 => ?_
   exact h a h1 h2 b' hb h3 h4 hlt
 by_cases c : ((ab f).filter fun c => !Txt.contains x c).isEmpty = true
 ·rw [if_neg (by rw [c]; simp), e2]
  exact ⟨fun h => ⟨e1.mp c, h⟩, fun h => h.2⟩
 ·rw [if_pos (by simpa using c)]
  exact ⟨fun h => (by cases h), fun h => absurd (e1.mpr h.1) c⟩
theorem eP {names : List Str} {need : Str -> List Str} {hp : List Str} (V : bF names need hp) (k : Nat) : bF names need (hp.take k) := by
 intro i z hz
 rw [List.getElem?_take] at hz
 split at hz
 ·rename_i hik
  have := V i z hz
  rw [List.take_take, Nat.min_eq_left (Bh hik)]
  exact this
 ·cases hz
theorem ft {need : Str -> List Str} {names : Str} (N : aV (ab names) need) : ∀ (k : Nat) (o : Str), bF (ab names) need (ab o) -> (ab o).length = k -> o ∈ aS need names k
 | 0, o, _, h => by
  have : ab o = ab ⟨#[]⟩ := Gu h
  rw [ba this]; exact Ac.mpr rfl
 | k + 1, o, V, h => by
  have hne : ab o ≠ [] := by intro e; rw [e] at h; cases h
  have e := (List.dropLast_concat_getLast hne).symm
  have lk : (ab o).dropLast.length = k := by rw [List.length_dropLast, h]; rfl
  have lt : (ab o).take k = (ab o).dropLast := by rw [List.dropLast_eq_take, h]; rfl
  have Vl : bF (ab names) need (ab o).dropLast := lt ▸ eP V k
  have hy1 : One ((ab o).getLast hne) := bb (List.getLast_mem hne)
  generalize (ab o).getLast hne = y at *
  generalize (ab o).dropLast = l at *
  have hl : ∀ z ∈ l, One z := fun z hz => bb (x := o) (by rw [e]; exact By _ hz)
  have ho : o = cA l ++ y := ba (by rw [aN, aE hl, hy1.chars, e])
  have := ft N k (cA l) (by rw [aE hl]; exact Vl) (by rw [aE hl]; exact lk)
  refine Dw.mpr ⟨cA l, this, A0.mpr ⟨y, ?_, ho.symm⟩⟩
  rw [aE hl, ((bB N Vl).2 y)]
  have hk : (ab o)[k]? = some y := by rw [e, List.getElem?_append_right ((sW lk)), lk, Nat.sub_self]; rfl
  have := V k y hk
  rwa [lt] at this
theorem dk {need : Str -> List Str} {names : Str} (N : aV (ab names) need) : ∀ k, (aS need names k).Nodup
 | 0 => by simp [aS]
 | k + 1 => by
  show (cj need names (aS need names k)).Nodup
  unfold cj
  rw [List.Nodup, List.pairwise_flatMap]
  have one : ∀ h ∈ aS need names k, ∀ y ∈ bv need (ab names) (ab h), One y := fun h hh y hy => bb (((bB N (az N k h hh).1).2 y).mp hy).1
  refine ⟨fun h hh => ?_, ?_⟩
  ·rw [List.pairwise_map]
   refine (bB N (az N k h hh).1).1.imp_of_mem ?_
   intro a b ha hb hab e
   have := congrArg ab e
   rw [aN, aN, (one h hh a ha).chars, (one h hh b hb).chars] at this
   exact hab (by simpa using this)
  ·refine (dk N k).imp_of_mem ?_
   intro a b ha hb hab x hx y hy e
   refine ag (A0.mp hx) ?_
   rintro u hu rfl
   refine ag (A0.mp hy) ?_
   rintro v hv rfl
   have := congrArg ab e
   rw [aN, aN, (one a ha u hu).chars, (one b hb v hv).chars] at this
   exact hab (ba (List.append_inj_left' this rfl))
section
open Classical
def fl (l : List Str) (i : Nat) : Prop := 1 ≤ i ∧ ∃ a b, l[i - 1]? = some a ∧ l[i]? = some b ∧ co b < co a
def fin (ls : List Nat) (l : List Str) : Prop := ∀ i, fl l i -> i ∈ ls
theorem nF {l : List Str} {k i : Nat} : fl (l.take k) i ↔ i < k ∧ fl l i := by
 unfold fl
 constructor
 ·intro X1
  refine ao X1 fun h1 Z23 => ?_
  clear X1
  refine db Z23 fun a b ha hb h => ?_
  clear Z23
  rw [List.getElem?_take] at ha hb
  split at hb
  ·split at ha
   ·rename_i q _
    exact ⟨q, h1, a, b, ha, hb, h⟩
   ·cases ha
  ·cases hb
 ·intro X2
  refine cG X2 fun q h1 Z24 => ?_
  clear X2
  refine db Z24 fun a b ha hb h => ?_
  clear Z24
  refine ⟨h1, a, b, ?_, ?_, h⟩
  ·rw [List.getElem?_take, if_pos ((te q))]; exact ha
  ·rw [List.getElem?_take, if_pos q]; exact hb
theorem ms : ∀ {l : List Str}, l.Nodup -> (∀ y ∈ l, One y) -> (∀ i, ¬ fl l i) -> Asc l
 | [], _, _, _ => List.Pairwise.nil
 | [a], _, _, _ => List.pairwise_singleton _ _
 | a :: b :: l, n, o, h => by
  have ih : Asc (b :: l) := ms (Br.mp n).2 (fun y hy => o y (A1 _ hy)) fun i q => h (i + 1) (by
   refine ao q fun h1 Z25 => ?_
   clear q
   refine db Z25 fun x y hx hy q => ?_
   clear Z25
   refine ⟨u1, x, y, ?_, ?_, q⟩
   ·rw [show i + 1 - 1 = (i - 1) + 1 by omega, List.getElem?_cons_succ]; exact hx
   ·rw [List.getElem?_cons_succ]; exact hy)
  have hab : co a < co b := by
   have h1 : ¬ co b < co a := fun q => h 1 ⟨Aw _, a, b, rfl, rfl, q⟩
   have h2 : co a ≠ co b := fun e => (Br.mp n).1 (by
    rw [mf (o a Ar) (o b (A1 _ Ar)) e]; exact Ar)
   exact qs h1 h2
  refine List.pairwise_cons.mpr ⟨fun y hy => ?_, ih⟩
  rcases Ap.mp hy with rfl | hy
  ·exact hab
  ·exact Gj hab ((List.pairwise_cons.mp ih).1 y hy)
theorem gY {l : List Str} (h : Asc l) {i j : Nat} {a b : Str} (ha : l[i]? = some a) (hb : l[j]? = some b) (hij : i < j) : co a < co b := by
 refine ah (List.getElem?_eq_some_iff.mp ha) ?_
 rintro h1 rfl
 refine ah (List.getElem?_eq_some_iff.mp hb) ?_
 rintro h2 rfl
 exact List.pairwise_iff_getElem.mp h i j h1 h2 hij
theorem nS {l : List Str} (h : Asc l) {i : Nat} {a b : Str} (ha : l[i]? = some a) (hb : b ∈ l) (hlt : co b < co a) : b ∈ l.take i := by
 refine ah (List.getElem?_of_mem hb) fun j hj => ?_
 have : j < i := by
  apply Gg
  intro q
  by_cases e : i = j
  ·subst e; rw [ha] at hj; cases hj; exact A9 _ hlt
  ·have := gY h ha hj ((sy q e)); exact qA hlt this
 exact List.mem_iff_getElem?.mpr ⟨j, by rw [List.getElem?_take, if_pos this]; exact hj⟩
theorem cP {x : Str} {need : Str -> List Str} {hp : List Str} (V : bF (ab x) need hp) : hp.Nodup ∧ (∀ y ∈ hp, y ∈ ab x) := by
 have mem : ∀ y ∈ hp, y ∈ ab x := fun y hy => by
  refine ah (List.getElem?_of_mem hy) fun i hi => ?_
  exact (V i y hi).1
 refine ⟨?_, mem⟩
 rw [List.Nodup, List.pairwise_iff_getElem]
 intro i j h1 h2 hij e
 refine (V j _ (List.getElem?_eq_getElem h2)).2.1 ?_
 rw [<- e]
 exact List.mem_iff_getElem?.mpr ⟨i, by rw [List.getElem?_take, if_pos hij]; exact List.getElem?_eq_getElem h1⟩
theorem dC {l m : List Str} (h : l.Nodup) (h' : m.Nodup) (s : ∀ x, x ∈ l ↔ x ∈ m) : l.length = m.length :=
 Nat.le_antisymm (bm h fun x hx => (s x).mp hx) (bm h' fun x hx => (s x).mpr hx)
def bd (x o : Str) : List Str := (ab x).filter fun y => decide (y ∉ ab o)
theorem bn {x o y : Str} : y ∈ bd x o ↔ y ∈ ab x ∧ y ∉ ab o := by rw [bd, Bd, Bx]
theorem fP {need : Str -> List Str} {names x : Str} (N : aV (ab names) need) (hx : x ∈ al need names) : (ab x).Sublist (ab names) ∧ ∀ y ∈ ab x, ∀ z ∈ need y, z ∈ ab x :=
 let ⟨h1, h2⟩ := (bP N.hin x).mp hx
 ⟨cV.mp h1, h2⟩
theorem mQ {need : Str -> List Str} {names : Str} {ls : List Nat} {k z : Nat} {x o : Str} (N : aV (ab names) need) (hA : Asc (ab names)) (hirr : ∀ y ∈ ab names, y ∉ need y)
  (hk : ∀ i, 1 ≤ i -> i = k -> i ∈ ls) (hx : x ∈ al need names) (hxz : (ab x).length = z)
  (ho : o ∈ aS need names k) (hs : bi need (part names o) x = true) (hf : fin ls (ab o)) :
  cA (ab o ++ bd x o) ∈ aS need names z ∧ part names (cA (ab o ++ bd x o)) = x ∧ fin (ls ++ [z]) (ab o ++ bd x o) := by
 refine ao (fP N hx) fun xs xc => ?_
 refine ao (az N k o ho) fun V vl => ?_
 refine ao (cP V) fun on oi => ?_
 have Ax : Asc (ab x) := hA.sublist xs
 have Af : Asc (bd x o) := Ax.sublist D9
 rw [eA (fun a ha b hb => bb (N.hin a (xs.subset ha) b hb))] at hs
 refine ao hs fun s1 s2 => ?_
 clear hs
 have pm : ∀ y, y ∈ ab (part names o) ↔ y ∈ ab o := fun y => by
  rw [bD]; exact ⟨fun h => h.2, fun h => ⟨oi y h, h⟩⟩
 have ox : ∀ y ∈ ab o, y ∈ ab x := fun y hy => s1 y ((pm y).mpr hy)
 have one : ∀ y ∈ ab o ++ bd x o, One y := fun y hy => by
  rcases Au.mp hy with q | q
  ·exact bb q
  ·exact bb (bn.mp q).1
 have cg := aE one
 have am : ∀ y, y ∈ ab o ++ bd x o ↔ y ∈ ab x := fun y => by
  rw [Au, bn]
  constructor
  ·rintro (q | q)
   ·exact ox y q
   ·exact q.1
  ·intro q
   by_cases e : y ∈ ab o
   ·exact .inl e
   ·exact .inr ⟨q, e⟩
 have nd : (ab o ++ bd x o).Nodup := by
  rw [B5]
  exact ⟨on, Af.nodup, fun a ha b hb e => (bn.mp hb).2 (e ▸ ha)⟩
 have len : (ab o ++ bd x o).length = z := hxz ▸ dC nd Ax.nodup am
 have V' : bF (ab names) need (ab o ++ bd x o) := by
  intro i y hy
  by_cases hi : i < (ab o).length
  ·rw [List.getElem?_append_left hi] at hy
   rw [List.take_append_of_le_length (Bh hi)]
   exact V i y hy
  ·have hi : (ab o).length ≤ i := Bp.mp hi
   rw [List.getElem?_append_right hi] at hy
   have hm := List.mem_of_getElem? hy
   refine ao (bn.mp hm) fun yx yo => ?_
   have tk : (ab o ++ bd x o).take i = ab o ++ (bd x o).take (i - (ab o).length) := by
    rw [List.take_append, List.take_of_length_le hi]
   rw [tk]
   refine ⟨xs.subset yx, ?_, ?_⟩
   ·rw [Au]
    rintro (q | q)
    ·exact yo q
    ·refine ah (List.getElem?_of_mem q) fun j hj => ?_
     rw [List.getElem?_take] at hj
     split at hj
     ·rename_i hlt
      exact A9 _ (gY Af hj hy hlt)
     ·cases hj
   ·intro u hu
    have ux := xc y yx u hu
    rw [Au]
    by_cases uo : u ∈ ab o
    ·exact .inl uo
    ·right
     have h1 : ¬ co y < co u := s2 y yx (fun q => yo ((pm y).mp q)) u hu ux (fun q => uo ((pm u).mp q))
     have h2 : co u ≠ co y := fun e => hirr y (xs.subset yx) (by
      have := mf (bb ux) (bb yx) e
      rw [this] at hu; exact hu)
     exact nS Af hy (bn.mpr ⟨ux, uo⟩) ((qs h1 h2))
 refine ⟨ft N z _ (by rw [cg]; exact V') (by rw [cg]; exact len), ?_, ?_⟩
 ·rw [fn hA xs (fun y hy => by rw [cg] at hy; exact xs.subset ((am y).mp hy))]
  intro y; rw [cg]; exact am y
 ·intro i hfl
  refine ao hfl fun h1 Z26 => ?_
  clear hfl
  refine db Z26 fun a b ha hb hlt => ?_
  clear Z26
  rw [Au]; left
  by_cases c1 : i < k
  ·refine hf i ⟨h1, a, b, ?_, ?_, hlt⟩
   ·rw [List.getElem?_append_left ((qo vl c1))] at ha; exact ha
   ·rw [List.getElem?_append_left ((om7 vl c1))] at hb; exact hb
  ·by_cases c2 : i = k
   ·exact hk i h1 c2
   ·rw [List.getElem?_append_right (by omega)] at ha hb
    have := gY Af ha hb ((rV vl c1 c2))
    omega
theorem kf {need : Str -> List Str} {names : Str} {ls : List Nat} {k z : Nat} {x o : Str} (N : aV (ab names) need) (hA : Asc (ab names))
  (hle : ∀ i ∈ ls, i ≤ k) (hkz : k < z) (hx : x ∈ al need names)
  (ho : o ∈ aS need names z) (hp : part names o = x) (hf : fin (ls ++ [z]) (ab o)) :
  cA ((ab o).take k) ∈ aS need names k ∧ bi need (part names (cA ((ab o).take k))) x = true ∧ fin ls ((ab o).take k) ∧ (ab o).take k ++ bd x (cA ((ab o).take k)) = ab o := by
 refine ao (fP N hx) fun xs xc => ?_
 refine ao (az N z o ho) fun V vl => ?_
 refine ao (cP V) fun on oi => ?_
 have Ax : Asc (ab x) := hA.sublist xs
 rw [fn hA xs oi] at hp
 have cg : ab (cA ((ab o).take k)) = (ab o).take k := aE fun y hy => bb (Df hy)
 have nfl : ∀ i, k < i -> ¬ fl (ab o) i := fun i hi q => by
  have hiz : i < z := by
   refine ao q fun _ Z27 => ?_
   clear q
   refine db Z27 fun _ b _ hb _ => ?_
   clear Z27
   have := (List.getElem?_eq_some_iff.mp hb).1
   exact om0 vl this
  rcases Au.mp (hf i q) with r | r
  ·have := hle i r; exact tg hi this
  ·have := Ac.mp r; exact th hiz this
 have split : ab o = (ab o).take k ++ (ab o).drop k := (List.take_append_drop k _).symm
 have nd2 : ((ab o).take k ++ (ab o).drop k).Nodup := split ▸ on
 rw [B5] at nd2
 have Ad : Asc ((ab o).drop k) := by
  refine ms nd2.2.1 (fun y hy => bb (List.mem_of_mem_drop hy)) fun i q => ?_
  refine ao q fun h1 Z28 => ?_
  clear q
  refine db Z28 fun a b ha hb hlt => ?_
  clear Z28
  rw [List.getElem?_drop] at ha hb
  exact nfl (k + i) (Nat.lt_add_of_pos_right h1) ⟨Ag h1 (Nat.le_add_left i k), a, b, by rw [Nat.add_sub_assoc h1 k]; exact ha, hb, hlt⟩
 have dm : ∀ y, y ∈ (ab o).drop k ↔ y ∈ ab x ∧ y ∉ (ab o).take k := fun y => by
  rw [<- hp]
  constructor
  ·intro h
   exact ⟨List.mem_of_mem_drop h, fun q => nd2.2.2 y q y h rfl⟩
  ·intro X3
   refine ao X3 fun h1 h2 => ?_
   clear X3
   rw [split] at h1
   exact (Au.mp h1).resolve_left h2
 have df : bd x (cA ((ab o).take k)) = (ab o).drop k := j0 (Ax.sublist D9) Ad fun y => by rw [bn, cg, dm]
 refine ⟨ft N k _ (by rw [cg]; exact eP V k) (by rw [cg, Dc, vl]; exact Nat.min_eq_left (Bh hkz)), ?_, ?_, ?_⟩
 ·rw [eA (fun a ha b hb => bb (N.hin a (xs.subset ha) b hb))]
  refine ⟨fun y hy => ?_, fun a ax af b hb bx bf hlt => ?_⟩
  ·rw [bD, cg] at hy
   exact (hp y).mp (Df hy.2)
  ·have af' : a ∈ (ab o).drop k := (dm a).mpr ⟨ax, fun q => af (bD.mpr ⟨xs.subset ax, by rw [cg]; exact q⟩)⟩
   have bf' : b ∈ (ab o).drop k := (dm b).mpr ⟨bx, fun q => bf (bD.mpr ⟨xs.subset bx, by rw [cg]; exact q⟩)⟩
   refine ah (List.getElem?_of_mem af') fun i hi => ?_
   have hb2 : b ∈ ((ab o).drop k).take i := by
    have := (V (k + i) a (by rw [<- List.getElem?_drop]; exact hi)).2.2 b hb
    rw [List.take_add, Au] at this
    exact this.resolve_left fun q => nd2.2.2 b q b bf' rfl
   refine ah (List.getElem?_of_mem hb2) fun j hj => ?_
   rw [List.getElem?_take] at hj
   split at hj
   ·rename_i hji
    have := gY Ad hj hi hji
    exact qA hlt this
   ·cases hj
 ·intro i q
  refine ao (nF.mp q) fun q1 q2 => ?_
  rcases Au.mp (hf i q2) with r | r
  ·exact r
  ·exact absurd (Ac.mp r ▸ q1) (Nat.lt_asymm hkz)
 ·rw [df, <- split]
noncomputable def cnt (names : Str) (need : Str -> List Str) (ls : List Nat) (k : Nat) (x : Str) : Nat := (aS need names k).countP fun o => decide (part names o = x ∧ fin ls (ab o))
theorem i4 {need : Str -> List Str} {names : Str} {ls : List Nat} {k z : Nat} {x : Str} (N : aV (ab names) need) (hA : Asc (ab names)) (hirr : ∀ y ∈ ab names, y ∉ need y)
  (hk : ∀ i, 1 ≤ i -> i = k -> i ∈ ls) (hle : ∀ i ∈ ls, i ≤ k) (hkz : k < z) (hx : x ∈ al need names) (hxz : (ab x).length = z) :
  (aS need names k).countP (fun o => decide (bi need (part names o) x = true ∧ fin ls (ab o))) = cnt names need (ls ++ [z]) z x := by
 unfold cnt
 rw [List.countP_eq_length_filter, List.countP_eq_length_filter, <- Ai (f := fun o => cA (ab o ++ bd x o))]
 have cg : ∀ o, ab (cA (ab o ++ bd x o)) = ab o ++ bd x o := fun o => aE fun y hy => by
  rcases Au.mp hy with q | q
  ·exact bb q
  ·exact bb (bn.mp q).1
 refine dC ?_ ((dk N z).sublist D9) fun o => ?_
 ·rw [List.Nodup, List.pairwise_map]
  refine ((dk N k).sublist D9).imp_of_mem ?_
  intro a b ha hb hab e
  have e' := congrArg ab e
  rw [cg, cg] at e'
  have la := (az N k a (Bd.mp ha).1).2
  have lb := (az N k b (Bd.mp hb).1).2
  exact hab (ba (List.append_inj_left e' (by rw [la, lb])))
 ·rw [A0, Bd, Bx]
  constructor
  ·intro X4
   refine ag X4 ?_
   clear X4
   rintro p hp rfl
   rw [Bd, Bx] at hp
   refine cG (mQ N hA hirr hk hx hxz hp.1 hp.2.1 hp.2.2) fun h1 h2 h3 => ?_
   exact ⟨h1, h2, by rw [cg]; exact h3⟩
  ·intro X5
   refine cG X5 fun h1 h2 h3 => ?_
   clear X5
   refine dh (kf N hA hle hkz hx h1 h2 h3) fun g1 g2 g3 g4 => ?_
   have ct : ab (cA ((ab o).take k)) = (ab o).take k := aE fun y hy => bb (Df hy)
   refine ⟨cA ((ab o).take k), ?_, ?_⟩
   ·rw [Bd, Bx]
    exact ⟨g1, g2, by rw [ct]; exact g3⟩
   ·refine ba ?_
    rw [cg, ct, g4]
theorem gH {α : Type} (f g : α -> Int) : ∀ l : List α, (l.map fun x => f x + g x).sum = (l.map f).sum + (l.map g).sum
 | [] => rfl
 | a :: l => by
  have := gH f g l
  simp only [A2, Gp]
  exact rc this
theorem eV {α : Type} : ∀ l : List α, (l.map fun _ => (0 : Int)).sum = 0
 | [] => rfl
 | a :: l => by rw [A2, Gp, eV l]; rfl
theorem jN (s : Str) (p : Prop) : ∀ {K : List Str}, K.Nodup -> (K.map fun f => if s = f ∧ p then (1 : Int) else 0).sum = if s ∈ K ∧ p then 1 else 0
 | [], _ => by simp
 | f :: K, h => by
  refine ao (Br.mp h) fun h1 h2 => ?_
  rw [A2, Gp, jN s p h2]
  by_cases hp : p
  ·by_cases e : s = f
   ·subst e; simp [hp, h1]
   ·simp [hp, e]
  ·simp [hp]
theorem du {β : Type} (p : β -> Prop) [DecidablePred p] (o : β) (O : List β) : (((o :: O).countP fun o => decide (p o) : Nat) : Int) = ((O.countP fun o => decide (p o) : Nat) : Int) + if p o then 1 else 0 := by
 rw [List.countP_cons]
 by_cases h : p o <;> simp [h]
theorem hX {β : Type} {K : List Str} (hK : K.Nodup) (P : Str -> Bool) (σ : β -> Str) (G : β -> Prop) : ∀ (O : List β), (∀ o ∈ O, σ o ∈ K) ->
  ((K.filter P).map fun f => ((O.countP fun o => decide (σ o = f ∧ G o) : Nat) : Int)).sum = ((O.countP fun o => decide (P (σ o) = true ∧ G o) : Nat) : Int)
 | [], _ => by simp only [List.countP_nil]; exact eV _
 | o :: O, h => by
  rw [du (fun o => P (σ o) = true ∧ G o), <- hX hK P σ G O fun x hx => h x (A1 _ hx)]
  have e : ((K.filter P).map fun f => (((o :: O).countP fun o => decide (σ o = f ∧ G o) : Nat) : Int)) = (K.filter P).map fun f => ((O.countP fun o => decide (σ o = f ∧ G o) : Nat) : Int) + if σ o = f ∧ G o then 1 else 0 := by
   congr 1; funext f; exact du (fun o => σ o = f ∧ G o) o O
  rw [e, gH, jN (σ o) (G o) (hK.sublist D9)]
  congr 1
  have ho := h o Ar
  simp only [Bd, ho, true_and]
end
end Mine
end
section
open PySem PySem.W PyProof.Rows PySem.Calls
namespace Mine
section
open Classical
theorem eg {β : Type} {kvs : List (Str × β)} {x : Str} {b : β} (h : (kvs.map (·.1)).Nodup) : ((put kvs x b).map (·.1)).Nodup := by
 unfold put
 split
 ·rw [List.map_map]
  have : ((·.1) ∘ fun p : Str × β => if p.1 = x then (p.1, b) else p) = (·.1) := by
   funext p
   show (if p.1 = x then (p.1, b) else p).1 = p.1
   split <;> rfl
  rw [this]; exact h
 ·rename_i hn
  rw [Ba, B5]
  refine ⟨h, by simp, fun a ha c hc e => ?_⟩
  rw [List.map_singleton, Ac] at hc
  refine ag (A0.mp ha) ?_
  rintro p hp rfl
  exact hn (Gc.mpr ⟨p, hp, by simp [e, hc]⟩)
theorem eF {need : Str -> List Str} {W : List (Str × Int)} {z : Int} : ∀ (l : List Str) {acc : List (Str × Int)}, (acc.map (·.1)).Nodup -> ((l.foldl (aC need W z) acc).map (·.1)).Nodup
 | [], _, h => h
 | d :: l, acc, h => by
  rw [A6]
  refine eF l ?_
  unfold aC
  split
  ·exact eg h
  ·exact h
theorem dF {β : Type} {kvs : List (Str × β)} {x : Str} : x ∈ kvs.map (·.1) ↔ got kvs x ≠ none := by
 unfold got
 rw [ne_eq, Option.map_eq_none_iff, List.find?_eq_none, A0]
 constructor
 ·intro X1 h
  refine ag X1 ?_
  clear X1
  rintro p hp rfl
  exact h p hp (by simp)
 ·intro h
  apply Gg
  intro q
  exact h fun p hp e => q ⟨p, hp, Dz e⟩
theorem iB {need : Str -> List Str} {names : Str} (N : aV (ab names) need) (hA : Asc (ab names)) {k : Nat} {o : Str} (ho : o ∈ aS need names k) : part names o ∈ al need names ∧ (ab (part names o)).length = k := by
 refine ao (az N k o ho) fun V vl => ?_
 refine ao (cP V) fun on oi => ?_
 have sub : (ab (part names o)).Sublist (ab names) := by rw [ci]; exact D9
 refine ⟨(bP N.hin _).mpr ⟨cV.mpr sub, fun y hy z hz => ?_⟩, ?_⟩
 ·rw [bD] at hy ⊢
  have := eQ V (ab o).length
  rw [A7] at this
  exact ⟨N.hin y hy.1 z hz, (this y hy.2).2 z hz⟩
 ·rw [<- vl]
  exact dC (Asc.nodup (List.Pairwise.sublist sub hA)) on fun y => by rw [bD]; exact ⟨fun h => h.2, fun h => ⟨oi y h, h⟩⟩
structure Ch (need : Str -> List Str) (names : Str) (ls : List Nat) (k : Nat) (W : List (Str × Int)) : Prop where
 nd : (W.map (·.1)).Nodup
 g : ∀ x, got W x = if x ∈ al need names ∧ (ab x).length = k then some (cnt names need ls k x : Int) else none
theorem Ch.step {need : Str -> List Str} {names : Str} {ls : List Nat} {k z : Nat} {W : List (Str × Int)} (N : aV (ab names) need) (hA : Asc (ab names)) (hirr : ∀ y ∈ ab names, y ∉ need y)
  (c : Ch need names ls k W) (hk : ∀ i, 1 ≤ i -> i = k -> i ∈ ls) (hle : ∀ i ∈ ls, i ≤ k) (hkz : k < z) : Ch need names (ls ++ [z]) z (aP need (al need names) W (z : Int)) := by
 refine ⟨eF _ List.nodup_nil, fun x => ?_⟩
 unfold aP
 rw [er]
 by_cases h : x ∈ al need names ∧ (ab x).length = z
 ·rw [if_pos ⟨h.1, by rw [<- au, h.2]⟩, if_pos h]
  congr 1
  unfold dT
  have e : ((W.map (·.1)).filter fun few => bi need few x).map (fun f => (got W f).getD 0) = ((W.map (·.1)).filter fun few => bi need few x).map fun f => ((aS need names k).countP (fun o => decide (part names o = f ∧ fin ls (ab o))) : Int) := by
   refine List.map_congr_left fun f hf => ?_
   have := dF.mp (Bd.mp hf).1
   rw [c.g] at this ⊢
   by_cases q : f ∈ al need names ∧ (ab f).length = k
   ·rw [if_pos q]; rfl
   ·rw [if_neg q] at this; exact absurd rfl this
  rw [e, hX c.nd (fun few => bi need few x) (part names) (fun o => fin ls (ab o)) (aS need names k) fun o ho => ?_]
  ·rw [<- i4 N hA hirr hk hle hkz h.1 h.2]
  ·rw [dF, c.g, if_pos (iB N hA ho)]; simp
 ·rw [if_neg (fun q => h ⟨q.1, by have := q.2; rw [<- au] at this; exact tM this⟩), if_neg h]
  rfl
theorem Ch.all {need : Str -> List Str} {names : Str} (N : aV (ab names) need) (hA : Asc (ab names)) (hirr : ∀ y ∈ ab names, y ∉ need y) : ∀ (l2 l1 : List Nat) (k : Nat) (W : List (Str × Int)),
  Ch need names l1 k W -> (∀ i, 1 ≤ i -> i = k -> i ∈ l1) -> (∀ i ∈ l1, i ≤ k) -> (k :: l2).Pairwise (· < ·) -> Ch need names (l1 ++ l2) (l2.getLastD k) ((l2.map fun z : Nat => (z : Int)).foldl (aP need (al need names)) W)
 | [], l1, k, W, c, _, _, _ => by rw [Gi]; exact c
 | z :: l2, l1, k, W, c, hk, hle, hp => by
  refine ao (List.pairwise_cons.mp hp) fun h1 h2 => ?_
  have hz := h1 z Ar
  have := Ch.all N hA hirr l2 (l1 ++ [z]) z _ (c.step N hA hirr hk hle hz) (fun i _ e => by rw [e]; simp) (fun i hi => by
   rcases Au.mp hi with q | q
   ·have := hle i q; exact rY hz this
   ·rw [Ac.mp q]; exact Aw _) h2
  rw [List.append_assoc] at this
  rw [List.getLastD_cons]
  exact this
theorem Ch.nil {need : Str -> List Str} {names : Str} (N : aV (ab names) need) : Ch need names [] 0 [(⟨#[]⟩, 1)] := by
 refine ⟨by simp, fun x => ?_⟩
 have e : got [((⟨#[]⟩ : Str), (1 : Int))] x = if x = ⟨#[]⟩ then some 1 else none := by
  unfold got
  by_cases q : x = ⟨#[]⟩
  ·subst q; rfl
  ·have : ¬ ((⟨#[]⟩ : Str) = x) := fun e => q e.symm
   simp [q, this]
 rw [e]
 have hc : (⟨#[]⟩ : Str) ∈ al need names := (bP N.hin _).mpr ⟨cV.mpr (List.nil_sublist _), fun y hy => by cases hy⟩
 by_cases q : x = ⟨#[]⟩
 ·subst q
  rw [if_pos rfl, if_pos ⟨hc, rfl⟩]
  congr 1
  have hp : part names ⟨#[]⟩ = ⟨#[]⟩ := ba (by
   rw [ci]
   exact Ds.mpr fun y _ => by simp [show ab ⟨#[]⟩ = [] from rfl])
  have hf : fin [] (ab ⟨#[]⟩) := fun i h => by
   refine ao h fun _ Z40 => ?_
   clear h
   refine aG Z40 fun a _ ha _ => ?_
   clear Z40
   cases ha
  unfold cnt aS
  rw [List.countP_cons_of_pos (by rw [Bx]; exact ⟨hp, hf⟩)]
  rfl
 ·rw [if_neg q, if_neg]
  intro X2
  refine ao X2 fun _ h => ?_
  clear X2
  exact q (ba (Gu h))
def pl (few : Str) : List Nat := (iy few).map Int.toNat
theorem qf {n : Nat} (hn3 : n = 3 ∨ n = 4 ∨ n = 5) : ∀ p ∈ chs n, iy p = (pl p).map (fun z : Nat => (z : Int)) ∧ (0 :: (pl p ++ [n])).Pairwise (· < ·) := by rcases hn3 with rfl | rfl | rfl <;> decide
theorem jf {n : Nat} (hn3 : n = 3 ∨ n = 4 ∨ n = 5) : Asc (ab (nm n)) := by
 unfold Asc
 rcases hn3 with rfl | rfl | rfl <;> decide
theorem jO {n : Nat} (hn3 : n = 3 ∨ n = 4 ∨ n = 5) : nm n ∈ aW (ab (nm n)) := by rcases hn3 with rfl | rfl | rfl <;> decide
theorem lH {need : Str -> List Str} {n : Nat} (hn3 : n = 3 ∨ n = 4 ∨ n = 5) (N : aV (ab (nm n)) need) (hirr : ∀ y ∈ ab (nm n), y ∉ need y) {few : Str} (hf : few ∈ chs n) : kA need n few = (cnt (nm n) need (pl few ++ [n]) n (nm n) : Int) := by
 refine ao (qf hn3 few hf) fun p1 p2 => ?_
 have c := Ch.all N (jf hn3) hirr (pl few ++ [n]) [] 0 _ (Ch.nil N) (fun i h e => absurd e ((vn h))) (fun i h => by cases h) p2
 rw [List.nil_append, List.getLastD_concat, Ba, <- p1] at c
 have g := c.g (nm n)
 have s := gd N.hin (jO hn3) (iy few)
 have nl : (nm n).length = n := by rw [<- au]; exact cm hn3
 rw [nl] at s
 rw [if_pos ⟨(bP N.hin _).mpr ⟨jO hn3, N.hin⟩, cm hn3⟩] at g
 exact Bk (s.symm.trans g)
end
section
open Classical
theorem jx : ∀ ts : List Str, ab (Txt.join ⟨#[]⟩ ts) = ts.flatMap ab := by
 have key : ∀ ts : List Str, ab (Str.join ⟨#[]⟩ ts) = ts.flatMap ab := by
  intro ts
  induction ts with
  | nil => rfl
  | cons x r ih =>
   cases r with
   | nil => simp [Str.join]
   | cons y r =>
    show ab (x ++ ⟨#[]⟩ ++ Str.join ⟨#[]⟩ (y :: r)) = _
    rw [aN, aN, ih]
    simp [show ab ⟨#[]⟩ = [] from rfl]
 intro ts
 show ab (Builtin.Str.glued ⟨#[]⟩ ts) = _
 rw [StrLaws.glued_eq_join]
 exact key ts
theorem ma {n : Nat} (hn3 : n = 3 ∨ n = 4 ∨ n = 5) : ∀ z ∈ bG n, ab (dg z) = [dg z] := by rcases hn3 with rfl | rfl | rfl <;> decide
theorem pq {n : Nat} (hn3 : n = 3 ∨ n = 4 ∨ n = 5) : ab (Txt.slice (q "1234") none (some ((n : Int) - 1))) = (bG n).map dg := by rcases hn3 with rfl | rfl | rfl <;> decide
theorem lP {l : List Str} (h : ∀ y ∈ l, ab y = [y]) : l.flatMap ab = l := by
 induction l with
 | nil => rfl
 | cons y l ih => rw [D7, h y Ar, ih fun z hz => h z (A1 _ hz)]; rfl
theorem eG {n : Nat} (hn3 : n = 3 ∨ n = 4 ∨ n = 5) (o : Str) : ab (aR n o) = jT n o := by
 unfold aR
 rw [jx]
 refine lP fun y hy => ?_
 refine ag (A0.mp hy) ?_
 rintro z hz rfl
 exact ma hn3 z (Bd.mp hz).1
theorem gx {n : Nat} (hn3 : n = 3 ∨ n = 4 ∨ n = 5) (o : Str) : aR n o ∈ chs n := by
 unfold chs
 rw [cV, pq hn3, eG hn3]
 exact List.filter_sublist.map dg
theorem gP {o : Str} {i : Nat} (h : i < (ab o).length) : (ab o)[i]? = some (Txt.item o (i : Int)) := by
 rw [au] at h
 have hs : o.cps[i]? = some (o.cps[i]'h) := Array.getElem?_eq_getElem h
 unfold Txt.item Txt.charAt
 rw [eC (om4) (by omega), Option.bind_some, Bo, hs, Option.getD_some, ab, List.getElem?_map, Array.getElem?_toList, hs]
 rfl
theorem lQ {o : Str} {n i : Nat} (h : (ab o).length = n) : fl (ab o) i ↔ 1 ≤ i ∧ i < n ∧ ds o (i : Int) = true := by
 have one : ∀ j : Nat, One (Txt.item o (j : Int)) := fun j => ⟨_, rfl⟩
 have e : 1 ≤ i -> ds o (i : Int) = decide (co (Txt.item o (i : Int)) < co (Txt.item o ((i - 1 : Nat) : Int))) := fun h1 => by
  unfold ds
  rw [show (i : Int) - 1 = ((i - 1 : Nat) : Int) by omega, ji (one _) (one _)]
 constructor
 ·intro X1
  refine ao X1 fun h1 Z41 => ?_
  clear X1
  refine db Z41 fun a b ha hb hlt => ?_
  clear Z41
  have hi := (List.getElem?_eq_some_iff.mp hb).1
  rw [gP (by omega)] at ha hb
  cases ha; cases hb
  exact ⟨h1, h ▸ hi, by rw [e h1]; exact decide_eq_true hlt⟩
 ·intro X2
  refine cG X2 fun h1 h2 h3 => ?_
  clear X2
  rw [e h1, Bx] at h3
  exact ⟨h1, _, _, gP ((qo h h2)), gP ((om7 h h2)), h3⟩
theorem ia {a b : Str} : bq a b = true ↔ ∀ y ∈ ab a, y ∈ ab b := by
 unfold bq
 rw [List.isEmpty_iff, Ds]
 refine ⟨fun h y hy => ?_, fun h y hy => ?_⟩
 ·have := h y hy
  rw [aU hy] at this
  simpa using this
 ·rw [aU hy]
  simpa using h y hy
theorem ot {n : Nat} (hn3 : n = 3 ∨ n = 4 ∨ n = 5) : ∀ p ∈ chs n, ∀ z ∈ bG n, (dg z ∈ ab p ↔ z.toNat ∈ pl p) := by rcases hn3 with rfl | rfl | rfl <;> decide
theorem jS {n : Nat} (hn3 : n = 3 ∨ n = 4 ∨ n = 5) {few o : Str} (hf : few ∈ chs n) (h : (ab o).length = n) : fin (pl few ++ [n]) (ab o) ↔ bq (aR n o) few = true := by
 rw [ia, eG hn3]
 constructor
 ·intro hh y hy
  refine ag (A0.mp hy) ?_
  rintro z hz rfl
  refine ao (Bd.mp hz) fun h1 h2 => ?_
  refine ao (cf h1) fun z1 z2 => ?_
  have e : ((z.toNat : Nat) : Int) = z := (vA z1)
  have := hh z.toNat ((lQ h).mpr ⟨(vz z1), by omega, by rw [e]; exact h2⟩)
  rcases Au.mp this with q | q
  ·exact (ot hn3 few hf z h1).mpr q
  ·have := Ac.mp q; omega
 ·intro hh i hi
  refine cG ((lQ h).mp hi) fun h1 h2 h3 => ?_
  have hp : (i : Int) ∈ bG n := A0.mpr ⟨i - 1, List.mem_range.mpr (by omega), by omega⟩
  have := hh (dg i) (A0.mpr ⟨(i : Int), Bd.mpr ⟨hp, h3⟩, rfl⟩)
  rw [ot hn3 few hf _ hp] at this
  exact By _ (by simpa using this)
theorem nj {need : Str -> List Str} {n : Nat} (hn3 : n = 3 ∨ n = 4 ∨ n = 5) (N : aV (ab (nm n)) need) (hirr : ∀ y ∈ ab (nm n), y ∉ need y) {few : Str} (hf : few ∈ chs n) :
  kA need n few = ((aS need (nm n) n).countP (fun o => bq (aR n o) few) : Int) := by
 rw [lH hn3 N hirr hf]
 congr 1
 unfold cnt
 refine List.countP_congr fun o ho => ?_
 refine ao (az N n o ho) fun V vl => ?_
 refine ao (cP V) fun on oi => ?_
 have hp : part (nm n) o = nm n := by
  rw [fn (jf hn3) (List.Sublist.refl _) oi]
  intro y
  refine ⟨oi y, fun hy => ?_⟩
  apply Gg
  intro q
  have := bm (l := y :: ab o) (m := ab (nm n)) (Br.mpr ⟨q, on⟩) fun z hz => by
   rcases Ap.mp hz with rfl | hz
   ·exact hy
   ·exact oi z hz
  rw [Bj, vl, cm hn3] at this
  exact vm this
 rw [Bx]
 constructor
 ·exact fun h => (jS hn3 hf vl).mp h.2
 ·exact fun h => ⟨hp, (jS hn3 hf vl).mpr h⟩
def vl_ (kvs : List (Str × Int)) (x : Str) : Int := (got kvs x).getD 0
theorem dG (kvs : List (Str × Int)) (y x : Str) (z : Int) : got (cK kvs y z) x = if x = y then some (vl_ kvs y + z) else got kvs x := by
 unfold cK
 rw [eO]; rfl
theorem eX {need : Str -> List Str} {n : Nat} (few : Str) : ∀ (l : List Str) (kvs : List (Str × Int)) (x : Str), l.Nodup ->
  got (l.foldl (bC need n few) kvs) x = if x ∈ l ∧ bq few x = true then some (vl_ kvs x + sgn few x (kA need n few)) else got kvs x
 | [], kvs, x, _ => by simp
 | d :: l, kvs, x, h => by
  refine ao (Br.mp h) fun h1 h2 => ?_
  rw [A6, eX few l _ x h2]
  by_cases e : x = d
  ·subst e
   rw [if_neg (fun q => h1 q.1)]
   unfold bC
   by_cases c : bq few x = true
   ·rw [if_pos c, dG, if_pos rfl, if_pos ⟨Ar, c⟩]
   ·rw [if_neg c, if_neg (fun q => c q.2)]
  ·have g : got (bC need n few kvs d) x = got kvs x := by
    unfold bC
    split
    ·rw [dG, if_neg e]
    ·rfl
   have v : vl_ (bC need n few kvs d) x = vl_ kvs x := by unfold vl_; rw [g]
   rw [g, v]
   simp only [Ap, e, false_or]
theorem gC {n : Nat} (hn3 : n = 3 ∨ n = 4 ∨ n = 5) : (chs n).Nodup := by rcases hn3 with rfl | rfl | rfl <;> decide
def term (need : Str -> List Str) (n : Nat) (x few : Str) : Int := if bq few x = true then sgn few x (kA need n few) else 0
theorem jK {need : Str -> List Str} {n : Nat} (hn3 : n = 3 ∨ n = 4 ∨ n = 5) {x : Str} (hx : x ∈ chs n) : ∀ (l : List Str) (kvs : List (Str × Int)),
  vl_ (l.foldl (d0 need n) kvs) x = vl_ kvs x + (l.map (term need n x)).sum
 | [], kvs => by simp
 | d :: l, kvs => by
  rw [A6, jK hn3 hx l, A2, Gp]
  have : vl_ (d0 need n kvs d) x = vl_ kvs x + term need n x d := by
   conv => lhs; unfold vl_ d0
   rw [eX d (chs n) kvs x (gC hn3)]
   unfold term
   by_cases c : bq d x = true
   ·rw [if_pos ⟨hx, c⟩, if_pos c]; rfl
   ·rw [if_neg (fun q => c q.2), if_neg c]; show vl_ kvs x = _; exact vq
  rw [this]; exact sn
theorem iq {need : Str -> List Str} {n : Nat} (hn3 : n = 3 ∨ n = 4 ∨ n = 5) {x : Str} (hx : x ∈ chs n) : ∀ (l : List Str) (kvs : List (Str × Int)), (x ∈ l ∨ got kvs x ≠ none) -> got (l.foldl (d0 need n) kvs) x ≠ none
 | [], kvs, h => h.elim (fun q => by cases q) id
 | d :: l, kvs, h => by
  rw [A6]
  refine iq hn3 hx l _ ?_
  by_cases q : x ∈ l
  ·exact .inl q
  ·right
   unfold d0
   rw [eX d (chs n) kvs x (gC hn3)]
   split
   ·simp
   ·rename_i c
    rcases h with h | h
    ·rcases Ap.mp h with e | e
     ·subst e
      exact absurd ⟨hx, ia.mpr fun y hy => hy⟩ c
     ·exact absurd e q
    ·exact h
theorem tbl {n : Nat} (hn3 : n = 3 ∨ n = 4 ∨ n = 5) : ∀ t ∈ chs n, ∀ x ∈ chs n, ((chs n).map fun few => if bq few x = true then sgn few x (if bq t few = true then 1 else 0) else 0).sum = if t = x then 1 else 0 := by
 rcases hn3 with rfl | rfl | rfl <;> decide +kernel
end
section
open Classical
def bM (n : Nat) (os : List Str) (x : Str) : Nat := os.countP fun o => decide (aR n o = x)
theorem eS (n : Nat) (o : Str) (os : List Str) (x : Str) : (bM n (o :: os) x : Int) = (bM n os x : Int) + if aR n o = x then 1 else 0 := du (fun o => aR n o = x) o os
theorem mV (f x : Str) (a b : Int) : sgn f x (a + b) = sgn f x a + sgn f x b := by
 unfold sgn
 split <;> omega
theorem lp (f x : Str) : sgn f x 0 = 0 := by
 unfold sgn
 split <;> rfl
theorem fu {n : Nat} (hn3 : n = 3 ∨ n = 4 ∨ n = 5) {x : Str} (hx : x ∈ chs n) : ∀ os : List Str,
  ((chs n).map fun few => if bq few x = true then sgn few x ((os.countP fun o => bq (aR n o) few : Nat) : Int) else 0).sum = (bM n os x : Int)
 | [] => by
  have : (fun few : Str => if bq few x = true then sgn few x ((([] : List Str).countP fun o => bq (aR n o) few : Nat) : Int) else 0) = fun _ => 0 := by
   funext few
   rw [List.countP_nil]
   split
   ·exact lp few x
   ·rfl
  rw [this, eV]; rfl
 | o :: os => by
  have e : (fun few : Str => if bq few x = true then sgn few x (((o :: os).countP fun o => bq (aR n o) few : Nat) : Int) else 0) =
    fun few => (if bq few x = true then sgn few x ((os.countP fun o => bq (aR n o) few : Nat) : Int) else 0) + if bq few x = true then sgn few x (if bq (aR n o) few = true then 1 else 0) else 0 := by
   funext few
   have c : (((o :: os).countP fun o => bq (aR n o) few : Nat) : Int) = ((os.countP fun o => bq (aR n o) few : Nat) : Int) + if bq (aR n o) few = true then 1 else 0 := by
    rw [List.countP_cons]
    by_cases h : bq (aR n o) few = true <;> simp [h]
   rw [c, mV]
   split
   ·rfl
   ·rfl
  rw [e, gH, fu hn3 hx os, tbl hn3 _ (gx hn3 o) x hx, eS]
theorem lV {need : Str -> List Str} {n : Nat} (hn3 : n = 3 ∨ n = 4 ∨ n = 5) (N : aV (ab (nm n)) need) (hirr : ∀ y ∈ ab (nm n), y ∉ need y) {x : Str} (hx : x ∈ chs n) :
  vl_ (aX need n) x = (bM n (aS need (nm n) n) x : Int) := by
 unfold aX
 rw [jK hn3 hx, <- fu hn3 hx]
 have : vl_ [] x = 0 := rfl
 rw [this, Int.zero_add]
 congr 1
 refine List.map_congr_left fun few hf => ?_
 unfold term
 rw [nj hn3 N hirr hf]
theorem jY (n : Nat) (x : Str) : ∀ (os : List Str) (kvs : List (Str × Int)), got (os.foldl (fun kvs o => cK kvs (aR n o) 1) kvs) x = if bM n os x = 0 then got kvs x else some (vl_ kvs x + (bM n os x : Int))
 | [], kvs => by
  rw [if_pos (show bM n [] x = 0 from rfl)]; rfl
 | o :: os, kvs => by
  have tc := eS n o os x
  rw [A6, jY n x os, dG]
  have v : vl_ (cK kvs (aR n o) 1) x = if x = aR n o then vl_ kvs x + 1 else vl_ kvs x := by
   conv => lhs; unfold vl_
   rw [dG]
   split
   ·rename_i e; rw [<- e]; rfl
   ·rfl
  by_cases e : x = aR n o
  ·rw [if_pos e.symm] at tc
   rw [v, if_pos e, if_pos e, if_neg (show ¬ bM n (o :: os) x = 0 by omega)]
   by_cases z : bM n os x = 0
   ·rw [if_pos z, <- e]; congr 1; exact sr tc z
   ·rw [if_neg z]; congr 1; exact sq tc
  ·rw [if_neg (fun q => e q.symm)] at tc
   rw [v, if_neg e, if_neg e]
   by_cases z : bM n os x = 0
   ·rw [if_pos z, if_pos ((tO tc z))]
   ·rw [if_neg z, if_neg ((tN tc z))]; congr 1; exact sv tc
theorem gA (n : Nat) : ∀ (os : List Str) {kvs : List (Str × Int)}, (kvs.map (·.1)).Nodup -> ((os.foldl (fun kvs o => cK kvs (aR n o) 1) kvs).map (·.1)).Nodup
 | [], _, h => h
 | o :: os, kvs, h => by
  rw [A6]
  exact gA n os (eg h)
theorem fh (f : Str -> Int) : ∀ (l : List Str) {kvs : List (Str × Int)}, (kvs.map (·.1)).Nodup -> ((l.foldl (fun kvs x => put kvs x (f x)) kvs).map (·.1)).Nodup
 | [], _, h => h
 | x :: l, kvs, h => by
  rw [A6]
  exact fh f l (eg h)
theorem iw (f : Str -> Int) (x : Str) : ∀ (l : List Str) (kvs : List (Str × Int)), got (l.foldl (fun kvs x => put kvs x (f x)) kvs) x = if x ∈ l then some (f x) else got kvs x
 | [], kvs => by simp
 | d :: l, kvs => by
  rw [A6, iw f x l, eO]
  by_cases h : x ∈ l
  ·simp [h]
  ·by_cases e : x = d
   ·subst e; simp
   ·simp [h, e]
theorem oY {kvs : List (Str × Int)} (h : (kvs.map (·.1)).Nodup) : ∀ {p : Str × Int}, p ∈ kvs -> got kvs p.1 = some p.2 := by
 induction kvs with
 | nil => intro p hp; cases hp
 | cons a kvs ih =>
  intro p hp
  refine ao (Br.mp (show (a.1 :: kvs.map (·.1)).Nodup from h)) fun h1 h2 => ?_
  unfold got
  rcases Ap.mp hp with rfl | hp
  ·rw [List.find?_cons_of_pos (by simp)]; rfl
  ·have : ¬ a.1 = p.1 := fun e => h1 (e ▸ A0.mpr ⟨p, hp, rfl⟩)
   rw [List.find?_cons_of_neg (by simpa using this)]
   exact ih h2 hp
theorem qe {need : Str -> List Str} {n : Nat} (hn3 : n = 3 ∨ n = 4 ∨ n = 5) (N : aV (ab (nm n)) need) (hirr : ∀ y ∈ ab (nm n), y ∉ need y) :
  (dK n (aS need (nm n) n)).length = (fa need n).length ∧ (∀ p ∈ dK n (aS need (nm n) n), got (fa need n) p.1 = some p.2) ∧
   (∀ x ∈ chs n, got (aX need n) x ≠ none) ∧ (dK n (aS need (nm n) n)).length ≤ 100 := by
 have cg := fun x => jY n x (aS need (nm n) n) []
 have cn : ((dK n (aS need (nm n) n)).map (·.1)).Nodup := gA n _ List.nodup_nil
 have ex := fun {x} (hx : x ∈ chs n) => lV hn3 N hirr hx
 have rn : ((fa need n).map (·.1)).Nodup := fh _ _ List.nodup_nil
 have rg := fun x => iw (fun x => (got (aX need n) x).getD 0) x ((chs n).filter fun x => (got (aX need n) x).getD 0 != 0) []
 change ∀ x, got (dK n _) x = _ at cg
 change ∀ x, got (fa need n) x = _ at rg
 have inn : ∀ {x}, bM n (aS need (nm n) n) x ≠ 0 -> x ∈ chs n := fun {x} h => by
  have : 0 < (aS need (nm n) n).countP fun o => decide (aR n o = x) := Nat.pos_of_ne_zero h
  refine ag (List.countP_pos_iff.mp this) fun o _ ho => ?_
  rw [<- Dz ho]
  exact gx hn3 o
 have fm : ∀ {x}, x ∈ (chs n).filter (fun x => (got (aX need n) x).getD 0 != 0) ↔ bM n (aS need (nm n) n) x ≠ 0 := fun {x} => by
  rw [Bd]
  constructor
  ·intro X1
   refine ao X1 fun h1 h2 => ?_
   clear X1
   have e := ex h1
   unfold vl_ at e
   rw [e] at h2
   intro z
   rw [z] at h2
   simp at h2
  ·intro h
   refine ⟨inn h, ?_⟩
   have e := ex (inn h)
   unfold vl_ at e
   rw [e]
   simpa using h
 refine ⟨?_, fun p hp => ?_, fun x hx => iq hn3 hx (chs n) [] (.inl hx), ?_⟩
 ·have := dC cn rn fun x => by
   rw [dF, dF, cg, rg]
   by_cases h : bM n (aS need (nm n) n) x = 0
   ·rw [if_pos h, if_neg (fun q => fm.mp q h)]
   ·rw [if_neg h, if_pos (fm.mpr h)]; simp
  rwa [Ai, Ai] at this
 ·have g := oY cn hp
  have z : bM n (aS need (nm n) n) p.1 ≠ 0 := fun z => by
   rw [cg, if_pos z] at g; cases g
  rw [rg, if_pos (fm.mpr z)]
  rw [cg, if_neg z] at g
  have e := ex (inn z)
  unfold vl_ at e g
  rw [e]
  rw [<- g]
  congr 1
  show _ = 0 + _
  exact qL
 ·have := bm cn (m := chs n) fun x hx => by
   rw [dF, cg] at hx
   by_cases h : bM n (aS need (nm n) n) x = 0
   ·rw [if_pos h] at hx; exact absurd rfl hx
   ·exact inn h
  rw [Ai] at this
  have := dN hn3
  omega
end
section
theorem fg {R : WRecords} {cl : Str -> Option Addr} {h : Heap} : ∀ {xs : List WData} {vs : List Value} {as : List Addr}, WShape.hasItems R xs .int = true -> ReadsAllW R cl h vs xs as -> ∃ ns : List Int, vs.map iOf = ns.map some ∧ ns.length = xs.length
 | [], vs, as, _, hr => by
  cases hr
  exact ⟨[], rfl, rfl⟩
 | d :: xs, vs, as, hi, hr => by
  simp only [WShape.hasItems, Bool.and_eq_true] at hi
  refine ah (hasW_int hi.1) ?_
  rintro i rfl
  cases hr with
  | cons h1 h2 =>
   refine ag (fg hi.2 h2) fun ns e1 e2 => ?_
   cases h1
   exact ⟨i :: ns, by rw [A2, e1]; rfl, by rw [Bj, e2]; rfl⟩
theorem nk {args : List WData} (h : rw_.row.toRowW.claim.pre args = true) : ∃ xs, args = [.list xs] ∧ WShape.hasItems rw_.row.toRowW.records xs .int = true ∧ xs.length ≤ 63 := by
 refine ao (pre_splitW h) fun h1 h2 => ?_
 refine db (hasAllW_cons (e := .list .int) (es := []) h1) ?_
 rintro d r rfl h3 h4
 obtain rfl := hasAllW_nil h4
 refine ag (hasW_list h3) ?_
 rintro xs rfl h5
 refine ⟨xs, rfl, h5, ?_⟩
 have e : rw_.row.toRowW.pre = .and (.not (.lt (.lit (.int 63)) (.len (.arg 0)))) (.lit (.bool true)) := rfl
 rw [e] at h2
 apply Gg
 intro q
 have l : less? (.int 63) (.int (xs.length : Int)) = some true := by
  have : (63 : Int) < (xs.length : Int) := by omega
  show some (decide ((63 : Int) < (xs.length : Int))) = some true
  rw [decide_eq_true this]
 simp [WTm.holds, WTm.value, l] at h2
section
variable {w : World} {A : Around} {E : Value -> Shared -> Prop} {s : Shared}
theorem NS.hide {h h' : Heap} {L nd : Addr} {rw_ : List Str} {es : List ev} (N : NS w h L nd rw_ es) (ond : L + 7 < nd) (k : Kp L h h') : NS w (hideAll h' (frm L)) L nd rw_ es :=
 N.at fun b hb o e => by
  have ob : Out L b := by
   rcases hb with rfl | hb
   ·exact .inr ond
   ·refine ag (A0.mp hb) ?_
    rintro x hx rfl
    exact .inr (N.ls x hx).2
  exact hideAll_get _ (k b o ob e) (gM ob)
theorem vN {sl : Addr} {xs : List Int} {k : Nat} {Q : Value -> Shared -> Prop} (R : ak A (k + 11)) (hfr : A.frames = some []) (G : Gr w s.heap) (hx : IsN iOf s.heap sl xs) (hn : xs.length ≤ 63)
  (hQ : ∀ h' tk, Ext s.heap h' -> Q (.bool true) { s with heap := h', toks := tk }) : wpAny (MK w) A (call (.ref 1244) [.ref sl]) Q E s := by
 refine jZ (binds := [(q "script", .ref sl)]) R G rfl rfl rfl rfl rfl rfl rfl ?_
 intro s_1 x
 have hR : ak (A.deeper (aK s.heap.objs.size)) (k + 10) := R.deeper _
 have hf : (A.deeper (aK s.heap.objs.size)).frames = some [aK s.heap.objs.size] := by
  show A.frames.map _ = _
  rw [hfr]; rfl
 refine aB x.toInCall.same ?_
 rintro h1 tk1 rfl
 have S1 : LS w s.heap h1 s.heap.objs.size _ _ := ⟨rfl, x.toInCall.keep, x.toInCall.ns, fun y a hy => x.cell y a hy⟩
 generalize A.deeper (aK s.heap.objs.size) = B at hR hf
 have r1 := hR.le (show k + 1 ≤ k + 10 by omega)
 have r9 := hR.le (show k + 9 ≤ k + 10 by omega)
 refine s1_ r1 G S1 rfl hx hn ?_
 intro n h2 tk2 cl zs m2 t t' hn3 S2 hmz hmc hms lz hzl ho
 dsimp only
 refine s2_ r1 G hn3 S2 hms hx hn rfl hmz hmc lz.n hzl ho ?_
 intro h3 tk3 zs3 m3 S3 hmz hmc lz3 hzl3
 dsimp only
 refine s3_ r1 G hn3 S3 rfl hmz hmc lz3 hzl3 ho ?_
 intro h4 tk4 r rw_ m4 S4 hmz hmc lz4 lr hperm hor hne
 dsimp only
 refine s4_ r1 G hn3 S4 rfl rfl hmz hmc lz4 hzl3 ho lr hperm hor ?_
 intro h5 tk5 nd es m5 c5 S5 hcn hcd hmz N hel ond
 dsimp only
 have nd_ : (ab (nm n)).Nodup := (jf hn3).nodup
 have hl : es.length = rw_.length := by rw [hel, hperm.length_eq, cm hn3]
 refine cG (N.facts hl hperm nd_) fun Nn h8 hrank => ?_
 refine s5_ (rank := fun y => rw_.idxOf y) r9 hf G hn3 S5 hcn hcd hmz ((N.hide ond (Kp.refl _ _)).needsAt hl hperm) Nn h8 hrank ?_
 intro h6 tk6 ol m6 c6 S6 hcn hcd hmz hmo lo oo kp6
 dsimp only
 have hlen : (aS (b0 es) (nm n) n).length ≤ 120 := by
  refine Ag (gq (n := n) Nn (by rw [cm hn3]; exact Aw _) n) ?_
  rcases hn3 with rfl | rfl | rfl <;> decide
 have hos : ∀ o ∈ aS (b0 es) (nm n) n, o.length = n := fun o h => by
  rw [<- au]; exact (az Nn n o h).2
 refine s6_ (t := 0) hR G hn3 S6 hmz hmo lo oo hlen hos ?_
 intro h7 tk7 fc dx m7 c7 S7 hc7 hmz hmf xf ofc odx gf sf kp7
 dsimp only
 refine s7_ hR G hn3 S7 hmz ?_
 intro h8' tk8 ec dxe chl S8 xe oe od ge se lc oc nce kp8
 dsimp only
 dsimp only at kp6 kp7 kp8 se sf
 have hirr : ∀ y ∈ ab (nm n), y ∉ b0 es y := fun y hy q => A9 _ (hrank y hy y q)
 refine s8_ (h₀ := h7) hR G hn3 S8 ((hc7 _ (by decide)).trans hcn) ((hc7 _ (by decide)).trans hcd) hmz rfl rfl ((N.hide ond (kp6.trans kp7)).needsAt hl hperm) Nn.hin h8 kp8 se xe oe od ge lc oc nce ?_
 intro h9 tk9 m9 c9 S9 hce hmh hmf9 xe9 lc9 kp9
 dsimp only
 refine dh (qe hn3 Nn hirr) fun p1 p2 p3 p4 => ?_
 refine s9_ hR G hn3 S9 (hmf9.trans hmf) hce hmh (xf.kp kp9 ofc odx) xe9 lc9 p1 p2 p3 p4 ?_
 exact fun h' tk e => hQ h' tk (Ext.trans S9.e e)
end
theorem lJ (xs : List WData) : rw_.row.toRowW.claim.post [.list xs] (.bool true) [.list xs] = true := by
 refine Bool.and_eq_true_iff.mpr ⟨rfl, ?_⟩
 have e : rw_.row.toRowW.post = .eq .res (.lit (.bool true)) := rfl
 show WTm.holds _ rw_.row.toRowW.post _ = true
 rw [e]
 simp [WTm.holds, WTm.value, same]
theorem lI : WalkO qv ek (XL qv []) H.says rw_.row.toRowW iL [] (fun f vs => PySem.call f vs) := by
 intro w sA_ s_1 mg mb G Y a o pm cd doc dV kV ha hdata hcd hD hmg hgens args vals as hpre hlay hreads hwell hlow
 refine aZ (nk hpre) ?_
 rintro xs rfl hi hlen
 have X : (K w.params).In s_1.heap := kIn_of Y
 have G' : Gr w s_1.heap := ⟨X, _, _, mg, mb, topRead_of G.T⟩
 have ea : a = 1244 := by
  have := mg_of (n := q "law") (v := .ref 1244) X G.T.g rfl
  have h := (show mg (q "law") = some (.ref a) from hmg).symm.trans this
  cases h; rfl
 subst ea
 cases hreads with
 | cons h1 h2 =>
  cases h2
  cases h1 with
  | list hg hc hd hr =>
   refine ag (fg hi hr) fun ns e1 e2 => ?_
   refine vN (k := 0) ⟨rfl, by decide, by decide⟩ rfl G' ⟨_, ⟨_, hg, hc, _, hd⟩, e1⟩ (by omega) ?_
   intro h' tk e
   exact ⟨.inl ⟨_, .bool true, [], rfl, fun _ => rfl, .bool true, lJ xs, fun _ => ⟨List.nodup_nil, fun a h => by cases h⟩⟩, OldK.of_keep e, rfl, AllBare.of_eq hgens⟩
theorem ws : PySem.Challenge.rw_dn0070_12.Holds := hd lI
end
end Mine
end
theorem PySem.Challenge.cw_dn0070_12_holds : PySem.Challenge.rw_dn0070_12.Holds :=
  Mine.ws
