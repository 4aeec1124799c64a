import PyProof.Rows.All
import KE.KxDecode
import Wide.FinOn
import OpenK.AllK
import Wide.All
import PySem.Challenge.RW_il0190_01
set_option bootstrap.genMatcherCode false
set_option genInjectivity false
set_option genSizeOf false
set_option Elab.async false
set_option maxRecDepth 100000
set_option linter.unusedVariables false
local macro_rules | `(tactic| rfl') => `(tactic| first | kernel_rfl | (intro; kernel_rfl) | decide +kernel)
namespace Mine
section
open PySem PySem.W PyProof.Rows
set_option maxHeartbeats 0
noncomputable section
noncomputable abbrev pw : Program := PySem.Challenge.pw_il0190_01
noncomputable abbrev B3 := PySem.W.Fast.tw14364793385576792824
noncomputable abbrev H8 := PySem.W.Fast.tw10110043849684766642
noncomputable abbrev fGo := PySem.W.Fast.tw10295753902157049106
noncomputable abbrev q2S := PySem.W.Fast.tw15667345088766844465
noncomputable abbrev q6c := PySem.W.Fast.tw14082659384304107361
noncomputable abbrev fImp := PySem.W.Fast.tw10274390034422433532
noncomputable abbrev q2T := PySem.W.Fast.tw14289696077712309145
noncomputable abbrev F2 := PySem.W.Fast.tw11892475500146522536
noncomputable abbrev Z3 := PySem.W.Fast.tw1435165496053646825
theorem R9 : treeTable = B3 := PySem.W.Fast.te14364793385576792824
theorem q1C : @segRunT = H8 := PySem.W.Fast.te10110043849684766642
theorem q2U : @segGoT = fGo := PySem.W.Fast.te10295753902157049106
theorem q2V : @topGo = q2S := PySem.W.Fast.te15667345088766844465
theorem q9U : @topRun = q6c := PySem.W.Fast.te14082659384304107361
theorem q6d : @importEnds = fImp := PySem.W.Fast.te10274390034422433532
theorem q2W : @fenceModules? = q2T := PySem.W.Fast.te14289696077712309145
theorem q6e : @denote = F2 := PySem.W.Fast.te11892475500146522536
theorem v9 : @start = Z3 := PySem.W.Fast.te1435165496053646825
noncomputable def A6 : List Expr → Nat → Expr
 | [], _ => .Name (Str.ofString "") ⟨0, 0, 0, 0⟩
 | e :: _, 0 => e
 | _ :: r, n + 1 => A6 r n
noncomputable def eK (e : Expr) : List Expr := @Expr.casesOn (fun _ => List Expr) e (fun _ a _ => a) (fun _ _ _ => []) (fun a _ b _ => [a, b]) (fun _ _ _ => []) (fun _ _ _ _ => []) (fun _ _ _ _ => []) (fun _ _ _ => []) (fun _ _ _ => []) (fun a _ _ _ => [a]) (fun _ _ _ _ => []) (fun _ _ _ _ _ => []) (fun a _ _ _ => [a]) (fun _ _ => []) (fun _ _ => []) (fun _ _ => []) (fun a _ b _ => a :: b) (fun a b _ _ => a :: b) (fun _ _ _ _ => []) (fun a _ => a) (fun _ _ _ => []) (fun a _ _ => [a]) (fun a b _ => [a, b]) (fun _ _ => []) (fun _ _ => []) (fun _ _ => []) (fun _ _ _ => []) fun a _ _ _ => a.toList
noncomputable def sK (s : Stmt) : List Expr := @Stmt.casesOn (fun _ => List Expr) s (fun _ _ _ _ _ _ _ _ _ _ => []) (fun _ _ _ _ _ _ _ _ _ _ => []) (fun _ _ _ _ _ _ _ _ _ _ _ => []) (fun a _ => a.toList) (fun _ _ => []) (fun a b _ => b :: a) (fun _ _ _ _ _ _ _ => []) (fun a _ b _ => [b, a]) (fun _ _ _ _ _ => []) (fun a b _ _ _ => [a, b]) (fun _ _ _ _ _ => []) (fun a _ _ _ => [a]) (fun a _ _ _ => [a]) (fun _ _ _ => []) (fun _ _ _ => []) (fun _ _ _ => []) (fun a _ _ => a.toList) (fun _ _ _ _ _ => []) (fun _ _ _ _ _ => []) (fun _ _ _ => []) (fun _ _ => []) (fun _ _ _ _ => []) (fun _ _ => []) (fun _ _ => []) (fun a _ => [a]) (fun _ => []) (fun _ => []) fun _ => []
noncomputable def sB (s : Stmt) : List Stmt × List Stmt := @Stmt.casesOn (fun _ => List Stmt × List Stmt) s (fun _ _ a _ _ _ _ _ _ _ => (a, [])) (fun _ _ _ _ _ _ _ _ _ _ => ([], [])) (fun _ _ _ a _ _ _ _ _ _ _ => (a, [])) (fun _ _ => ([], [])) (fun _ _ => ([], [])) (fun _ _ _ => ([], [])) (fun _ _ _ _ _ _ _ => ([], [])) (fun _ _ _ _ => ([], [])) (fun _ _ _ _ _ => ([], [])) (fun _ _ a b _ => (a, b)) (fun _ _ _ _ _ => ([], [])) (fun _ a b _ => (a, b)) (fun _ a b _ => (a, b)) (fun _ _ _ => ([], [])) (fun _ _ _ => ([], [])) (fun _ _ _ => ([], [])) (fun _ _ _ => ([], [])) (fun a _ _ b _ => (a, b)) (fun _ _ _ _ _ => ([], [])) (fun _ _ _ => ([], [])) (fun _ _ => ([], [])) (fun _ _ _ _ => ([], [])) (fun _ _ => ([], [])) (fun _ _ => ([], [])) (fun _ _ => ([], [])) (fun _ => ([], [])) (fun _ => ([], [])) fun _ => ([], [])
noncomputable def eY (e : Expr) : PySem.Str := dite _ (fun h => @Expr.Name.elim (fun _ => PySem.Str) e h fun y _ => y) fun _ => Str.ofString ""
noncomputable def eC (e : Expr) : Nat := dite _ (fun h => @Expr.Constant.elim (fun _ => Nat) e h fun _ k _ => k) fun _ => 0
noncomputable def eSc (e : Expr) : Scope := dite _ (fun h => @Expr.ListComp.elim (fun _ => Scope) e h fun _ _ s _ => s) fun _ => default
noncomputable def beh : List Stmt := behindTheImports pw
noncomputable def nth : List Stmt → Nat → Stmt
 | [], _ => .Pass ⟨0, 0, 0, 0⟩
 | s :: _, 0 => s
 | _ :: r, n + 1 => nth r n
noncomputable def A0 (i : Nat) : Stmt := nth beh i
noncomputable def fdA (s : Stmt) : Arguments := dite _ (fun h => @Stmt.FunctionDef.elim (fun _ => Arguments) s h fun _ a _ _ _ _ _ _ _ _ => a) fun _ => ⟨[], [], none, [], [], none, []⟩
noncomputable def fdB (s : Stmt) : List Stmt := (sB s).1
noncomputable def fdS (s : Stmt) : Scope := dite _ (fun h => @Stmt.FunctionDef.elim (fun _ => Scope) s h fun _ _ _ _ _ _ s _ _ _ => s) fun _ => default
noncomputable def cAt (s : Stmt) (i : Nat) : Stmt := nth (sB s).1 i
noncomputable abbrev S (s : String) : PySem.Str := Str.ofString s
noncomputable def de (P : Params) (k : String) (t : Nat) (v : Value) : DictEntry := ⟨PyData.keyHash P (S k), .str (S k) t, v⟩
noncomputable def hx (d : Nat) : Nat := match Nat.blt d 10 with | true => 48 + d | false => 55 + d
noncomputable def hx3 (c : Nat) : Value := .str ⟨#[61, hx (c / 16), hx (c % 16)]⟩ (372 + 4 * c)
noncomputable def ovAt (c : Nat) : List (Nat × Nat × Nat) → Value
 | [] => hx3 c
 | (i, s, t) :: r => match Nat.beq i c with | true => .str ⟨#[s]⟩ t | false => ovAt c r
noncomputable def Z4 (ov : List (Nat × Nat × Nat)) : List Value := (List.range 256).map fun c => ovAt c ov
noncomputable def mkT (os : List Obj) : (fuel a b : Nat) → BT
 | 0, _, _ => .nil
 | n + 1, a, b => match os[b]? with
  | some o => .node o (mkT os n (2 * a) (a + b)) (mkT os n (2 * a) (2 * a + b))
  | none => .nil
noncomputable def stT (l : List Obj) (n toks : Nat) (os : OsState) : SharedT := ⟨mkT l 10 1 0, n, {}, #[], {}, toks, os⟩
noncomputable abbrev db (P : Params) (k : String) (t : Nat) : DictEntry := de P k t (.builtin k)
noncomputable abbrev ds (P : Params) (k : String) (t : Nat) (s : String) (u : Nat) : DictEntry := de P k t (.str (S s) u)
noncomputable abbrev sv (s : String) (t : Nat) : Value := .str (S s) t
noncomputable abbrev fO (n q : String) (s : Stmt) (md : String) (mt c : Nat) : Obj := ⟨.type "function", none, .func { name := S n, qualname := S q, params := fdA s, body := .stmts (fdB s), scope := fdS s, globals := 3, closure := [], defaults := .none, kwdefaults := .none, doc := .none, pyModule := sv md mt, annotations := none, code := .ref c, closureTuple := .none, builtins := 0 : FuncData }, #[]⟩
noncomputable abbrev cO (n q : String) (a l i j k m r1 r2 : Nat) (v1 v2 v3 v4 : Value) (z y : Nat) : Obj := ⟨.type "code", none, .fields #[sv n a, sv q (a + 1), sv "/claim/cut.py" (a + 2), .int l 0, .int i 0, .int j 0, .int k 0, .int m 0, .ref r1, .bool true, .int 318 0, .ref r2, v1, v2, v3, v4, .int z 0, .int l 0, sv "/claim/cut.py" y], #[]⟩
noncomputable abbrev dO (e : Nat) (l : List DictEntry) : Obj := ⟨.type "dict", none, .dict l.toArray e, #[]⟩
noncomputable abbrev tO (l : List Value) : Obj := ⟨.type "tuple", none, .seq l.toArray 0, #[]⟩
noncomputable abbrev nO (l : List Value) : Obj := ⟨.none, none, .fields l.toArray, #[]⟩
noncomputable def O6 (P : Params) : Obj := dO 159 [ds P "__name__" 1 "builtins" 160, de P "__doc__" 2 (.builtin "builtins.__doc__:str#opaque"), de P "__package__" 3 (.builtin "builtins.__package__:str#opaque"), de P "__loader__" 4 (.builtin "builtins.__loader__:shared#opaque"), de P "__spec__" 5 (.builtin "builtins.__spec__#opaque"), db P "__build_class__" 6, db P "__import__" 7, db P "abs" 8, db P "all" 9, db P "any" 10, db P "ascii" 11, db P "bin" 12, db P "breakpoint" 13, db P "callable" 14, db P "chr" 15, db P "compile" 16, db P "delattr" 17, db P "dir" 18, db P "divmod" 19, db P "eval" 20, db P "exec" 21, db P "format" 22, db P "getattr" 23, db P "globals" 24, db P "hasattr" 25, db P "hash" 26, db P "hex" 27, db P "id" 28, db P "input" 29, db P "isinstance" 30, db P "issubclass" 31, db P "iter" 32, db P "aiter" 33, db P "len" 34, db P "locals" 35, db P "max" 36, db P "min" 37, db P "next" 38, db P "anext" 39, db P "oct" 40, db P "ord" 41, db P "pow" 42, db P "print" 43, db P "repr" 44, db P "round" 45, db P "setattr" 46, db P "sorted" 47, db P "sum" 48, db P "vars" 49, de P "None" 50 .none, de P "Ellipsis" 51 .ellipsis, de P "NotImplemented" 52 .notImplemented, de P "False" 53 (.bool false), de P "True" 54 (.bool true), de P "bool" 55 (.type "bool"), de P "memoryview" 56 (.type "memoryview"), de P "bytearray" 57 (.type "bytearray"), de P "bytes" 58 (.type "bytes"), de P "classmethod" 59 (.type "classmethod"), de P "complex" 60 (.type "complex"), de P "dict" 61 (.type "dict"), de P "enumerate" 62 (.type "enumerate"), de P "filter" 63 (.type "filter"), de P "float" 64 (.type "float"), de P "frozenset" 65 (.type "frozenset"), de P "property" 66 (.type "property"), de P "int" 67 (.type "int"), de P "list" 68 (.type "list"), de P "map" 69 (.type "map"), de P "object" 70 (.type "object"), de P "range" 71 (.type "range"), de P "reversed" 72 (.type "reversed"), de P "set" 73 (.type "set"), de P "slice" 74 (.type "slice"), de P "staticmethod" 75 (.type "staticmethod"), de P "str" 76 (.type "str"), de P "super" 77 (.type "super"), de P "tuple" 78 (.type "tuple"), de P "type" 79 (.type "type"), de P "zip" 80 (.type "zip"), de P "__debug__" 81 (.bool true), de P "BaseException" 82 (.type "BaseException"), de P "BaseExceptionGroup" 83 (.type "BaseExceptionGroup"), de P "Exception" 84 (.type "Exception"), de P "GeneratorExit" 85 (.type "GeneratorExit"), de P "KeyboardInterrupt" 86 (.type "KeyboardInterrupt"), de P "SystemExit" 87 (.type "SystemExit"), de P "ArithmeticError" 88 (.type "ArithmeticError"), de P "AssertionError" 89 (.type "AssertionError"), de P "AttributeError" 90 (.type "AttributeError"), de P "BufferError" 91 (.type "BufferError"), de P "EOFError" 92 (.type "EOFError"), de P "ImportError" 93 (.type "ImportError"), de P "LookupError" 94 (.type "LookupError"), de P "MemoryError" 95 (.type "MemoryError"), de P "NameError" 96 (.type "NameError"), de P "OSError" 97 (.type "OSError"), de P "ReferenceError" 98 (.type "ReferenceError"), de P "RuntimeError" 99 (.type "RuntimeError"), de P "StopAsyncIteration" 100 (.type "StopAsyncIteration"), de P "StopIteration" 101 (.type "StopIteration"), de P "SyntaxError" 102 (.type "SyntaxError"), de P "SystemError" 103 (.type "SystemError"), de P "TypeError" 104 (.type "TypeError"), de P "ValueError" 105 (.type "ValueError"), de P "Warning" 106 (.type "Warning"), de P "FloatingPointError" 107 (.type "FloatingPointError"), de P "OverflowError" 108 (.type "OverflowError"), de P "ZeroDivisionError" 109 (.type "ZeroDivisionError"), de P "BytesWarning" 110 (.type "BytesWarning"), de P "DeprecationWarning" 111 (.type "DeprecationWarning"), de P "EncodingWarning" 112 (.type "EncodingWarning"), de P "FutureWarning" 113 (.type "FutureWarning"), de P "ImportWarning" 114 (.type "ImportWarning"), de P "PendingDeprecationWarning" 115 (.type "PendingDeprecationWarning"), de P "ResourceWarning" 116 (.type "ResourceWarning"), de P "RuntimeWarning" 117 (.type "RuntimeWarning"), de P "SyntaxWarning" 118 (.type "SyntaxWarning"), de P "UnicodeWarning" 119 (.type "UnicodeWarning"), de P "UserWarning" 120 (.type "UserWarning"), de P "BlockingIOError" 121 (.type "BlockingIOError"), de P "ChildProcessError" 122 (.type "ChildProcessError"), de P "ConnectionError" 123 (.type "ConnectionError"), de P "FileExistsError" 124 (.type "FileExistsError"), de P "FileNotFoundError" 125 (.type "FileNotFoundError"), de P "InterruptedError" 126 (.type "InterruptedError"), de P "IsADirectoryError" 127 (.type "IsADirectoryError"), de P "NotADirectoryError" 128 (.type "NotADirectoryError"), de P "PermissionError" 129 (.type "PermissionError"), de P "ProcessLookupError" 130 (.type "ProcessLookupError"), de P "TimeoutError" 131 (.type "TimeoutError"), de P "IndentationError" 132 (.type "IndentationError"), de P "_IncompleteInputError" 133 (.type "_IncompleteInputError"), de P "IndexError" 134 (.type "IndexError"), de P "KeyError" 135 (.type "KeyError"), de P "ModuleNotFoundError" 136 (.type "ModuleNotFoundError"), de P "NotImplementedError" 137 (.type "NotImplementedError"), de P "PythonFinalizationError" 138 (.type "PythonFinalizationError"), de P "RecursionError" 139 (.type "RecursionError"), de P "UnboundLocalError" 140 (.type "UnboundLocalError"), de P "UnicodeError" 141 (.type "UnicodeError"), de P "BrokenPipeError" 142 (.type "BrokenPipeError"), de P "ConnectionAbortedError" 143 (.type "ConnectionAbortedError"), de P "ConnectionRefusedError" 144 (.type "ConnectionRefusedError"), de P "ConnectionResetError" 145 (.type "ConnectionResetError"), de P "TabError" 146 (.type "TabError"), de P "UnicodeDecodeError" 147 (.type "UnicodeDecodeError"), de P "UnicodeEncodeError" 148 (.type "UnicodeEncodeError"), de P "UnicodeTranslateError" 149 (.type "UnicodeTranslateError"), de P "ExceptionGroup" 150 (.type "ExceptionGroup"), de P "EnvironmentError" 151 (.type "OSError"), de P "IOError" 152 (.type "OSError"), db P "open" 153, de P "quit" 154 (.builtin "builtins.quit#opaque"), de P "exit" 155 (.builtin "builtins.exit#opaque"), de P "copyright" 156 (.builtin "builtins.copyright#opaque"), de P "credits" 157 (.builtin "builtins.credits#opaque"), de P "license" 158 (.builtin "builtins.license#opaque"), de P "help" 159 (.builtin "builtins.help#opaque")]
noncomputable def Q7 (P : Params) : Obj := dO 4 [de P "builtins" 162 (.ref 4), de P "__main__" 163 (.ref 5), de P "_sre" 244 (.ref 12), de P "_collections" 292 (.ref 30)]
noncomputable def Q8 (P : Params) : Obj := ⟨.none, none, .dict #[de P "\x69mport.loaded._sre" 183 (.bool true), de P "class._frozen_importlib.BuiltinImporter" 185 (.ref 14), de P "watched.\x69mport" 206 (.ref 18), de P "class._frozen_importlib.ModuleSpec" 216 (.ref 22), de P "sys.modules.booked-epoch" 245 (.int 4 0), de P "\x69mport.later-laid._sre" 270 (.bool true), de P "watched.library" 272 (.ref 27), de P "watched.library-objects" 0 (.str (⟨#[12, 30]⟩ : PySem.Str) 0), de P "watched.library-deep._sre" 273 (.str (⟨#[4, 0, 0, 11, 4, 0, 0, 11, 4, 0, 0, 3, 4, 0, 0, 11, 8, 4, 100, 105, 99, 116, 2]⟩ : PySem.Str) 0), de P "\x69mport.loaded._collections" 280 (.bool true), de P "sys.modules.landed._collections" 294 (.bool true), de P "\x69mport.later-laid._collections" 309 (.bool true), de P "watched.library-deep._collections" 311 (.str (⟨#[4, 0, 0, 29, 4, 0, 0, 29, 4, 0, 0, 3, 4, 0, 0, 29, 8, 4, 100, 105, 99, 116, 2]⟩ : PySem.Str) 0)] 13, #[]⟩
noncomputable def o3_0 (P : Params) : Obj := dO 11 [ds P "__name__" 165 "__main__" 164, de P "__doc__" 166 .none, de P "__package__" 167 .none, de P "__loader__" 168 (.builtin "__main__.__loader__#opaque"), de P "__spec__" 169 .none, de P "__annotations__" 170 (.ref 6), de P "__builtins__" 171 (.ref 4), ds P "__file__" 173 "/claim/cut.py" 172, de P "__cached__" 174 .none, de P "_sre" 275 (.ref 12), de P "deque" 317 (.type "collections.deque")]
noncomputable def Q9 (P : Params) : Obj := ⟨.type "module", some 0, .plain, #[]⟩
noncomputable def R0 (P : Params) : Obj := ⟨.type "module", some 3, .plain, #[]⟩
noncomputable def R1 (P : Params) : Obj := dO 0 []
noncomputable def R2 (P : Params) : Obj := tO []
noncomputable def R3 (P : Params) : Obj := nO []
noncomputable def R4 (P : Params) : Obj := ⟨.type "code", none, .fields #[sv "<module>" 176, sv "<module>" 177, sv "/claim/cut.py" 178, .int 1 0, .int 0 0, .int 0 0, .int 0 0, .int 0 0, .ref 7, .bool false, .int 175 0, .ref 8, .none, .none, .none, .none, .int 179 0, .int 1 0, sv "/claim/cut.py" 180], #[]⟩
noncomputable def K0 (P : Params) : Obj := ⟨.type "frame", none, .plain, #[some (.ref 9), some (.ref 3), some (.ref 3), none, some (sv "__main__" 164), none, some (.ref 0)]⟩
noncomputable def K1 (P : Params) : Obj := dO 17 [ds P "__name__" 247 "_sre" 246, de P "__doc__" 248 .none, ds P "__package__" 250 "" 249, de P "__loader__" 251 (.builtin "off-the-table:_sre.__loader__:shared#opaque"), de P "__spec__" 252 (.builtin "off-the-table:_sre.__spec__:shared#opaque"), de P "compile" 253 (.builtin "_sre.compile"), de P "template" 254 (.builtin "off-the-table:_sre.template:shared#opaque"), de P "getcodesize" 255 (.builtin "off-the-table:_sre.getcodesize:shared#opaque"), de P "ascii_iscased" 256 (.builtin "off-the-table:_sre.ascii_iscased:shared#opaque"), de P "unicode_iscased" 257 (.builtin "off-the-table:_sre.unicode_iscased:shared#opaque"), de P "ascii_tolower" 258 (.builtin "off-the-table:_sre.ascii_tolower:shared#opaque"), de P "unicode_tolower" 259 (.builtin "off-the-table:_sre.unicode_tolower:shared#opaque"), de P "MAGIC" 261 (.int 20230612 260), de P "CODESIZE" 263 (.int 4 262), de P "MAXREPEAT" 265 (.int 4294967295 264), de P "MAXGROUPS" 267 (.int 1073741823 266), ds P "copyright" 269 " SRE 2.2.2 Copyright (c) 1997-2002 by Secret Labs AB " 268]
noncomputable def K3 (P : Params) : Obj := ⟨.type "module", some 11, .plain, #[]⟩
noncomputable def K4 (P : Params) : Obj := dO 14 [ds P "__module__" 189 "_frozen_importlib" 186, de P "__firstlineno__" 190 (.int 971 187), de P "__doc__" 191 (.builtin "_frozen_importlib.BuiltinImporter.__doc__:str#opaque"), ds P "_ORIGIN" 192 "built-in" 188, de P "find_spec" 193 (.builtin "_frozen_importlib.BuiltinImporter.find_spec#opaque"), de P "create_module" 194 (.builtin "_frozen_importlib.BuiltinImporter.create_module#opaque"), de P "exec_module" 195 (.builtin "_frozen_importlib.BuiltinImporter.exec_module#opaque"), de P "get_code" 196 (.builtin "_frozen_importlib.BuiltinImporter.get_code#opaque"), de P "get_source" 197 (.builtin "_frozen_importlib.BuiltinImporter.get_source#opaque"), de P "is_package" 198 (.builtin "_frozen_importlib.BuiltinImporter.is_package#opaque"), de P "load_module" 199 (.builtin "_frozen_importlib.BuiltinImporter.load_module#opaque"), de P "__static_attributes__" 200 (.ref 15), de P "__dict__" 202 (.ref 16), de P "__weakref__" 204 (.ref 17)]
noncomputable def K5 (P : Params) : Obj := ⟨.type "type", none, .cls { name := S "BuiltinImporter", bases := [.type "object"], mro := [.ref 14, .type "object"], ns := 13, qualname := S "BuiltinImporter", hasDict := true, slotNames := [], subclasses := [], abstract := false, collection := none, hasDel := false : ClassData }, #[]⟩
noncomputable def K6 (P : Params) : Obj := tO []
noncomputable def K7 (P : Params) : Obj := ⟨.type "getset_descriptor", none, .fields #[sv "__dict__" 201, .ref 14, .builtin "function.__dict__", .builtin "function.__dict__#set"], #[]⟩
noncomputable def K8 (P : Params) : Obj := ⟨.type "getset_descriptor", none, .fields #[sv "__weakref__" 203, .ref 14, .builtin "ExceptionGroup.__weakref__", .none], #[]⟩
noncomputable def K9 (P : Params) : Obj := ⟨.none, none, .seq #[.int 13 0, (.str (⟨#[6, 189, 10, 95, 95, 109, 111, 100, 117, 108, 101, 95, 95, 6, 186, 17, 95, 102, 114, 111, 122, 101, 110, 95, 105, 109, 112, 111, 114, 116, 108, 105, 98, 6, 190, 15, 95, 95, 102, 105, 114, 115, 116, 108, 105, 110, 101, 110, 111, 95, 95, 4, 187, 0, 971, 6, 191, 7, 95, 95, 100, 111, 99, 95, 95, 9, 52, 95, 102, 114, 111, 122, 101, 110, 95, 105, 109, 112, 111, 114, 116, 108, 105, 98, 46, 66, 117, 105, 108, 116, 105, 110, 73, 109, 112, 111, 114, 116, 101, 114, 46, 95, 95, 100, 111, 99, 95, 95, 58, 115, 116, 114, 35, 111, 112, 97, 113, 117, 101, 6, 192, 7, 95, 79, 82, 73, 71, 73, 78, 6, 188, 8, 98, 117, 105, 108, 116, 45, 105, 110, 6, 193, 9, 102, 105, 110, 100, 95, 115, 112, 101, 99, 9, 50, 95, 102, 114, 111, 122, 101, 110, 95, 105, 109, 112, 111, 114, 116, 108, 105, 98, 46, 66, 117, 105, 108, 116, 105, 110, 73, 109, 112, 111, 114, 116, 101, 114, 46, 102, 105, 110, 100, 95, 115, 112, 101, 99, 35, 111, 112, 97, 113, 117, 101, 6, 194, 13, 99, 114, 101, 97, 116, 101, 95, 109, 111, 100, 117, 108, 101, 9, 54, 95, 102, 114, 111, 122, 101, 110, 95, 105, 109, 112, 111, 114, 116, 108, 105, 98, 46, 66, 117, 105, 108, 116, 105, 110, 73, 109, 112, 111, 114, 116, 101, 114, 46, 99, 114, 101, 97, 116, 101, 95, 109, 111, 100, 117, 108, 101, 35, 111, 112, 97, 113, 117, 101, 6, 195, 11, 101, 120, 101, 99, 95, 109, 111, 100, 117, 108, 101, 9, 52, 95, 102, 114, 111, 122, 101, 110, 95, 105, 109, 112, 111, 114, 116, 108, 105, 98, 46, 66, 117, 105, 108, 116, 105, 110, 73, 109, 112, 111, 114, 116, 101, 114, 46, 101, 120, 101, 99, 95, 109, 111, 100, 117, 108, 101, 35, 111, 112, 97, 113, 117, 101, 6, 196, 8, 103, 101, 116, 95, 99, 111, 100, 101, 9, 49, 95, 102, 114, 111, 122, 101, 110, 95, 105, 109, 112, 111, 114, 116, 108, 105, 98, 46, 66, 117, 105, 108, 116, 105, 110, 73, 109, 112, 111, 114, 116, 101, 114, 46, 103, 101, 116, 95, 99, 111, 100, 101, 35, 111, 112, 97, 113, 117, 101, 6, 197, 10, 103, 101, 116, 95, 115, 111, 117, 114, 99, 101, 9, 51, 95, 102, 114, 111, 122, 101, 110, 95, 105, 109, 112, 111, 114, 116, 108, 105, 98, 46, 66, 117, 105, 108, 116, 105, 110, 73, 109, 112, 111, 114, 116, 101, 114, 46, 103, 101, 116, 95, 115, 111, 117, 114, 99, 101, 35, 111, 112, 97, 113, 117, 101, 6, 198, 10, 105, 115, 95, 112, 97, 99, 107, 97, 103, 101, 9, 51, 95, 102, 114, 111, 122, 101, 110, 95, 105, 109, 112, 111, 114, 116, 108, 105, 98, 46, 66, 117, 105, 108, 116, 105, 110, 73, 109, 112, 111, 114, 116, 101, 114, 46, 105, 115, 95, 112, 97, 99, 107, 97, 103, 101, 35, 111, 112, 97, 113, 117, 101, 6, 199, 11, 108, 111, 97, 100, 95, 109, 111, 100, 117, 108, 101, 9, 52, 95, 102, 114, 111, 122, 101, 110, 95, 105, 109, 112, 111, 114, 116, 108, 105, 98, 46, 66, 117, 105, 108, 116, 105, 110, 73, 109, 112, 111, 114, 116, 101, 114, 46, 108, 111, 97, 100, 95, 109, 111, 100, 117, 108, 101, 35, 111, 112, 97, 113, 117, 101, 6, 200, 21, 95, 95, 115, 116, 97, 116, 105, 99, 95, 97, 116, 116, 114, 105, 98, 117, 116, 101, 115, 95, 95, 4, 0, 0, 15, 6, 202, 8, 95, 95, 100, 105, 99, 116, 95, 95, 4, 0, 0, 16, 6, 204, 11, 95, 95, 119, 101, 97, 107, 114, 101, 102, 95, 95, 4, 0, 0, 17]⟩ : PySem.Str) 0), .bool true, .bool true, sv "" 205, .int 21 0, (.str (⟨#[6, 227, 10, 95, 95, 109, 111, 100, 117, 108, 101, 95, 95, 6, 217, 17, 95, 102, 114, 111, 122, 101, 110, 95, 105, 109, 112, 111, 114, 116, 108, 105, 98, 6, 228, 15, 95, 95, 102, 105, 114, 115, 116, 108, 105, 110, 101, 110, 111, 95, 95, 4, 218, 0, 562, 6, 229, 7, 95, 95, 100, 111, 99, 95, 95, 9, 47, 95, 102, 114, 111, 122, 101, 110, 95, 105, 109, 112, 111, 114, 116, 108, 105, 98, 46, 77, 111, 100, 117, 108, 101, 83, 112, 101, 99, 46, 95, 95, 100, 111, 99, 95, 95, 58, 115, 116, 114, 35, 111, 112, 97, 113, 117, 101, 6, 230, 8, 95, 95, 105, 110, 105, 116, 95, 95, 9, 44, 95, 102, 114, 111, 122, 101, 110, 95, 105, 109, 112, 111, 114, 116, 108, 105, 98, 46, 77, 111, 100, 117, 108, 101, 83, 112, 101, 99, 46, 95, 95, 105, 110, 105, 116, 95, 95, 35, 111, 112, 97, 113, 117, 101, 6, 231, 8, 95, 95, 114, 101, 112, 114, 95, 95, 9, 44, 95, 102, 114, 111, 122, 101, 110, 95, 105, 109, 112, 111, 114, 116, 108, 105, 98, 46, 77, 111, 100, 117, 108, 101, 83, 112, 101, 99, 46, 95, 95, 114, 101, 112, 114, 95, 95, 35, 111, 112, 97, 113, 117, 101, 6, 232, 6, 95, 95, 101, 113, 95, 95, 9, 42, 95, 102, 114, 111, 122, 101, 110, 95, 105, 109, 112, 111, 114, 116, 108, 105, 98, 46, 77, 111, 100, 117, 108, 101, 83, 112, 101, 99, 46, 95, 95, 101, 113, 95, 95, 35, 111, 112, 97, 113, 117, 101, 6, 233, 6, 99, 97, 99, 104, 101, 100, 9, 42, 95, 102, 114, 111, 122, 101, 110, 95, 105, 109, 112, 111, 114, 116, 108, 105, 98, 46, 77, 111, 100, 117, 108, 101, 83, 112, 101, 99, 46, 99, 97, 99, 104, 101, 100, 35, 111, 112, 97, 113, 117, 101, 6, 234, 6, 112, 97, 114, 101, 110, 116, 9, 42, 95, 102, 114, 111, 122, 101, 110, 95, 105, 109, 112, 111, 114, 116, 108, 105, 98, 46, 77, 111, 100, 117, 108, 101, 83, 112, 101, 99, 46, 112, 97, 114, 101, 110, 116, 35, 111, 112, 97, 113, 117, 101, 6, 235, 12, 104, 97, 115, 95, 108, 111, 99, 97, 116, 105, 111, 110, 9, 48, 95, 102, 114, 111, 122, 101, 110, 95, 105, 109, 112, 111, 114, 116, 108, 105, 98, 46, 77, 111, 100, 117, 108, 101, 83, 112, 101, 99, 46, 104, 97, 115, 95, 108, 111, 99, 97, 116, 105, 111, 110, 35, 111, 112, 97, 113, 117, 101, 6, 236, 21, 95, 95, 115, 116, 97, 116, 105, 99, 95, 97, 116, 116, 114, 105, 98, 117, 116, 101, 115, 95, 95, 4, 0, 0, 23, 6, 238, 8, 95, 95, 100, 105, 99, 116, 95, 95, 4, 0, 0, 24, 6, 240, 11, 95, 95, 119, 101, 97, 107, 114, 101, 102, 95, 95, 4, 0, 0, 25, 6, 241, 8, 95, 95, 104, 97, 115, 104, 95, 95, 0]⟩ : PySem.Str) 0), .bool true, .bool true, sv "" 242] 1, #[]⟩
noncomputable def L1 (P : Params) : Obj := ⟨.type "list", none, .seq #[] 0, #[]⟩
noncomputable def L2 (P : Params) : Obj := dO 9 [ds P "name" 208 "_sre" 207, de P "loader" 209 (.ref 14), ds P "origin" 210 "built-in" 184, de P "loader_state" 211 .none, de P "submodule_search_locations" 212 .none, de P "_uninitialized_submodules" 213 (.ref 19), de P "_set_fileattr" 214 (.bool false), de P "_cached" 215 .none, de P "_initializing" 243 (.bool false)]
noncomputable def L3 (P : Params) : Obj := dO 13 [ds P "__module__" 227 "_frozen_importlib" 217, de P "__firstlineno__" 228 (.int 562 218), de P "__doc__" 229 (.builtin "_frozen_importlib.ModuleSpec.__doc__:str#opaque"), de P "__init__" 230 (.builtin "_frozen_importlib.ModuleSpec.__init__#opaque"), de P "__repr__" 231 (.builtin "_frozen_importlib.ModuleSpec.__repr__#opaque"), de P "__eq__" 232 (.builtin "_frozen_importlib.ModuleSpec.__eq__#opaque"), de P "cached" 233 (.builtin "_frozen_importlib.ModuleSpec.cached#opaque"), de P "parent" 234 (.builtin "_frozen_importlib.ModuleSpec.parent#opaque"), de P "has_location" 235 (.builtin "_frozen_importlib.ModuleSpec.has_location#opaque"), de P "__static_attributes__" 236 (.ref 23), de P "__dict__" 238 (.ref 24), de P "__weakref__" 240 (.ref 25), de P "__hash__" 241 .none]
noncomputable def L4 (P : Params) : Obj := ⟨.type "type", none, .cls { name := S "ModuleSpec", bases := [.type "object"], mro := [.ref 22, .type "object"], ns := 21, qualname := S "ModuleSpec", hasDict := true, slotNames := [], subclasses := [], abstract := false, collection := none, hasDel := false : ClassData }, #[]⟩
noncomputable def L5 (P : Params) : Obj := tO [sv "_cached" 219, sv "_set_fileattr" 220, sv "_uninitialized_submodules" 221, sv "loader" 222, sv "loader_state" 223, sv "name" 224, sv "origin" 225, sv "submodule_search_locations" 226]
noncomputable def L6 (P : Params) : Obj := ⟨.type "getset_descriptor", none, .fields #[sv "__dict__" 237, .ref 22, .builtin "function.__dict__", .builtin "function.__dict__#set"], #[]⟩
noncomputable def L7 (P : Params) : Obj := ⟨.type "getset_descriptor", none, .fields #[sv "__weakref__" 239, .ref 22, .builtin "ExceptionGroup.__weakref__", .none], #[]⟩
noncomputable def L8 (P : Params) : Obj := ⟨.ref 22, some 20, .plain, #[]⟩
noncomputable def L9 (P : Params) : Obj := ⟨.none, none, .seq #[.int 11 0, (.str (⟨#[6, 247, 8, 95, 95, 110, 97, 109, 101, 95, 95, 6, 246, 4, 95, 115, 114, 101, 6, 248, 7, 95, 95, 100, 111, 99, 95, 95, 0, 6, 250, 11, 95, 95, 112, 97, 99, 107, 97, 103, 101, 95, 95, 6, 249, 0, 6, 251, 10, 95, 95, 108, 111, 97, 100, 101, 114, 95, 95, 4, 0, 0, 14, 6, 252, 8, 95, 95, 115, 112, 101, 99, 95, 95, 4, 0, 0, 26, 6, 253, 7, 99, 111, 109, 112, 105, 108, 101, 9, 12, 95, 115, 114, 101, 46, 99, 111, 109, 112, 105, 108, 101, 6, 254, 8, 116, 101, 109, 112, 108, 97, 116, 101, 9, 13, 95, 115, 114, 101, 46, 116, 101, 109, 112, 108, 97, 116, 101, 6, 255, 11, 103, 101, 116, 99, 111, 100, 101, 115, 105, 122, 101, 9, 16, 95, 115, 114, 101, 46, 103, 101, 116, 99, 111, 100, 101, 115, 105, 122, 101, 6, 256, 13, 97, 115, 99, 105, 105, 95, 105, 115, 99, 97, 115, 101, 100, 9, 18, 95, 115, 114, 101, 46, 97, 115, 99, 105, 105, 95, 105, 115, 99, 97, 115, 101, 100, 6, 257, 15, 117, 110, 105, 99, 111, 100, 101, 95, 105, 115, 99, 97, 115, 101, 100, 9, 20, 95, 115, 114, 101, 46, 117, 110, 105, 99, 111, 100, 101, 95, 105, 115, 99, 97, 115, 101, 100, 6, 258, 13, 97, 115, 99, 105, 105, 95, 116, 111, 108, 111, 119, 101, 114, 9, 18, 95, 115, 114, 101, 46, 97, 115, 99, 105, 105, 95, 116, 111, 108, 111, 119, 101, 114, 6, 259, 15, 117, 110, 105, 99, 111, 100, 101, 95, 116, 111, 108, 111, 119, 101, 114, 9, 20, 95, 115, 114, 101, 46, 117, 110, 105, 99, 111, 100, 101, 95, 116, 111, 108, 111, 119, 101, 114, 6, 261, 5, 77, 65, 71, 73, 67, 4, 260, 0, 20230612, 6, 263, 8, 67, 79, 68, 69, 83, 73, 90, 69, 4, 262, 0, 4, 6, 265, 9, 77, 65, 88, 82, 69, 80, 69, 65, 84, 4, 264, 0, 4294967295, 6, 267, 9, 77, 65, 88, 71, 82, 79, 85, 80, 83, 4, 266, 0, 1073741823, 6, 269, 9, 99, 111, 112, 121, 114, 105, 103, 104, 116, 6, 268, 53, 32, 83, 82, 69, 32, 50, 46, 50, 46, 50, 32, 67, 111, 112, 121, 114, 105, 103, 104, 116, 32, 40, 99, 41, 32, 49, 57, 57, 55, 45, 50, 48, 48, 50, 32, 98, 121, 32, 83, 101, 99, 114, 101, 116, 32, 76, 97, 98, 115, 32, 65, 66, 32]⟩ : PySem.Str) 0), .bool true, .bool false, sv "_sre" 271, .int 29 0, (.str (⟨#[6, 296, 8, 95, 95, 110, 97, 109, 101, 95, 95, 6, 295, 12, 95, 99, 111, 108, 108, 101, 99, 116, 105, 111, 110, 115, 6, 297, 7, 95, 95, 100, 111, 99, 95, 95, 9, 31, 95, 99, 111, 108, 108, 101, 99, 116, 105, 111, 110, 115, 46, 95, 95, 100, 111, 99, 95, 95, 58, 115, 116, 114, 35, 111, 112, 97, 113, 117, 101, 6, 299, 11, 95, 95, 112, 97, 99, 107, 97, 103, 101, 95, 95, 6, 298, 0, 6, 300, 10, 95, 95, 108, 111, 97, 100, 101, 114, 95, 95, 4, 0, 0, 14, 6, 301, 8, 95, 95, 115, 112, 101, 99, 95, 95, 4, 0, 0, 33, 6, 302, 15, 95, 99, 111, 117, 110, 116, 95, 101, 108, 101, 109, 101, 110, 116, 115, 9, 28, 95, 99, 111, 108, 108, 101, 99, 116, 105, 111, 110, 115, 46, 95, 99, 111, 117, 110, 116, 95, 101, 108, 101, 109, 101, 110, 116, 115, 6, 303, 5, 100, 101, 113, 117, 101, 8, 17, 99, 111, 108, 108, 101, 99, 116, 105, 111, 110, 115, 46, 100, 101, 113, 117, 101, 6, 304, 11, 100, 101, 102, 97, 117, 108, 116, 100, 105, 99, 116, 8, 23, 99, 111, 108, 108, 101, 99, 116, 105, 111, 110, 115, 46, 100, 101, 102, 97, 117, 108, 116, 100, 105, 99, 116, 6, 305, 15, 95, 100, 101, 113, 117, 101, 95, 105, 116, 101, 114, 97, 116, 111, 114, 8, 27, 99, 111, 108, 108, 101, 99, 116, 105, 111, 110, 115, 46, 95, 100, 101, 113, 117, 101, 95, 105, 116, 101, 114, 97, 116, 111, 114, 6, 306, 23, 95, 100, 101, 113, 117, 101, 95, 114, 101, 118, 101, 114, 115, 101, 95, 105, 116, 101, 114, 97, 116, 111, 114, 8, 35, 99, 111, 108, 108, 101, 99, 116, 105, 111, 110, 115, 46, 95, 100, 101, 113, 117, 101, 95, 114, 101, 118, 101, 114, 115, 101, 95, 105, 116, 101, 114, 97, 116, 111, 114, 6, 307, 12, 95, 116, 117, 112, 108, 101, 103, 101, 116, 116, 101, 114, 8, 24, 99, 111, 108, 108, 101, 99, 116, 105, 111, 110, 115, 46, 95, 116, 117, 112, 108, 101, 103, 101, 116, 116, 101, 114, 6, 308, 11, 79, 114, 100, 101, 114, 101, 100, 68, 105, 99, 116, 8, 23, 99, 111, 108, 108, 101, 99, 116, 105, 111, 110, 115, 46, 79, 114, 100, 101, 114, 101, 100, 68, 105, 99, 116]⟩ : PySem.Str) 0), .bool true, .bool false, sv "_collections" 310] 1, #[]⟩
noncomputable def M0 (P : Params) : Obj := tO [sv "deque" 277]
noncomputable def M1 (P : Params) : Obj := dO 12 [ds P "__name__" 296 "_collections" 295, de P "__doc__" 297 (.builtin "off-the-table:_collections.__doc__:shared#opaque"), ds P "__package__" 299 "" 298, de P "__loader__" 300 (.builtin "off-the-table:_collections.__loader__:shared#opaque"), de P "__spec__" 301 (.builtin "off-the-table:_collections.__spec__:shared#opaque"), de P "_count_elements" 302 (.builtin "_collections._count_elements"), de P "deque" 303 (.type "collections.deque"), de P "defaultdict" 304 (.type "collections.defaultdict"), de P "_deque_iterator" 305 (.builtin "off-the-table:_collections._deque_iterator:shared#opaque"), de P "_deque_reverse_iterator" 306 (.builtin "off-the-table:_collections._deque_reverse_iterator:shared#opaque"), de P "_tuplegetter" 307 (.type "collections._tuplegetter"), de P "OrderedDict" 308 (.type "collections.OrderedDict")]
noncomputable def M2 (P : Params) : Obj := ⟨.type "module", some 29, .plain, #[]⟩
noncomputable def M3 (P : Params) : Obj := ⟨.type "list", none, .seq #[] 0, #[]⟩
noncomputable def M4 (P : Params) : Obj := dO 9 [ds P "name" 283 "_collections" 282, de P "loader" 284 (.ref 14), ds P "origin" 285 "built-in" 281, de P "loader_state" 286 .none, de P "submodule_search_locations" 287 .none, de P "_uninitialized_submodules" 288 (.ref 31), de P "_set_fileattr" 289 (.bool false), de P "_cached" 290 .none, de P "_initializing" 291 (.bool false)]
noncomputable def M5 (P : Params) : Obj := ⟨.ref 22, some 32, .plain, #[]⟩
noncomputable def L_0 (P : Params) : List Obj := [O6 P, Q7 P, Q8 P, o3_0 P, Q9 P, R0 P, R1 P, R2 P, R3 P, R4 P, K0 P, K1 P, K3 P, K4 P, K5 P, K6 P, K7 P, K8 P, K9 P, L1 P, L2 P, L3 P, L4 P, L5 P, L6 P, L7 P, L8 P, L9 P, M0 P, M1 P, M2 P, M3 P, M4 P, M5 P]
noncomputable def T_0 (w : World) (os : OsState) : SharedT := stT (L_0 w.params) 34 318 os
noncomputable def N1 (P : Params) : Obj := tO []
noncomputable def o35_a (P : Params) : Obj := nO []
noncomputable def N2 (P : Params) : Obj := ⟨.type "code", none, .fields #[sv "<module>" 319, sv "<module>" 320, sv "/claim/cut.py" 321, .int 1 0, .int 0 0, .int 0 0, .int 0 0, .int 0 0, .ref 34, .bool false, .int 318 0, .ref 35, .none, .none, .none, .none, .int 322 0, .int 1 0, sv "/claim/cut.py" 323], #[]⟩
noncomputable def N3 (P : Params) : Obj := ⟨.type "frame", none, .plain, #[some (.ref 36), some (.ref 3), some (.ref 3), none, some (sv "__main__" 164), none, some (.ref 0)]⟩
noncomputable def L_a (P : Params) : List Obj := [O6 P, Q7 P, Q8 P, o3_0 P, Q9 P, R0 P, R1 P, R2 P, R3 P, R4 P, K0 P, K1 P, K3 P, K4 P, K5 P, K6 P, K7 P, K8 P, K9 P, L1 P, L2 P, L3 P, L4 P, L5 P, L6 P, L7 P, L8 P, L9 P, M0 P, M1 P, M2 P, M3 P, M4 P, M5 P, N1 P, o35_a P, N2 P, N3 P]
noncomputable def T_a (w : World) (os : OsState) : SharedT := stT (L_a w.params) 38 324 os
noncomputable def q5i (P : Params) : Obj := dO 13 [ds P "__name__" 165 "__main__" 164, de P "__doc__" 166 .none, de P "__package__" 167 .none, de P "__loader__" 168 (.builtin "__main__.__loader__#opaque"), de P "__spec__" 169 .none, de P "__annotations__" 170 (.ref 6), de P "__builtins__" 171 (.ref 4), ds P "__file__" 173 "/claim/cut.py" 172, de P "__cached__" 174 .none, de P "_sre" 275 (.ref 12), de P "deque" 317 (.type "collections.deque"), de P "_wall" 330 (.ref 44), de P "twin_re_1_quoprimime" 365 (.ref 49)]
noncomputable def N4 (P : Params) : Obj := nO [.int 3 0, .int 0 0, .ref 43]
noncomputable def I4 (P : Params) : Obj := tO []
noncomputable def I5 (P : Params) : Obj := nO []
noncomputable def J0 (P : Params) : Obj := tO [sv "k" 327]
noncomputable def J1 (P : Params) : Obj := tO []
noncomputable def J2 (P : Params) : Obj := ⟨.none, none, .func { name := S "_wall", qualname := S "_wall", params := fdA (A0 0), body := .stmts (fdB (A0 0)), scope := fdS (A0 0), globals := 0, closure := [], defaults := .none, kwdefaults := .none, doc := .none, pyModule := .none, annotations := none, code := .none, closureTuple := .none, builtins := 0 : FuncData }, #[]⟩
noncomputable def J3 (P : Params) : Obj := cO "_wall" "_wall" 324 3 1 0 0 3 38 39 .none (.ref 40) (.ref 41) (.ref 42) 328 329
noncomputable def J4 (P : Params) : Obj := fO "_wall" "_wall" (A0 0) "__main__" 164 43
noncomputable def J5 (P : Params) : Obj := ⟨.type "list", none, .seq #[.int 14 334, .int 8 335, .int 1 336, .int 3 337, .int 3 338, .int 1 339, .int 1 340, .int 61 341, .int 0 342, .int 16 343, .int 61 344, .int 24 345, .int 16 346, .int 2 347, .int 2 348, .int 13 349, .int 11 350, .int 9 351, .int 0 352, .int 67043328 353, .int 126 354, .int 126 355, .int 0 356, .int 0 357, .int 0 358, .int 0 359, .int 0 360, .int 1 361, .int 1 362] 0, #[]⟩
noncomputable def J6 (P : Params) : Obj := dO 0 []
noncomputable def J7 (P : Params) : Obj := tO [.none]
noncomputable def H0 (P : Params) : Obj := tO [.int 14 0, .int 8 0, .int 1 0, .int 3 0, .int 3 0, .int 1 0, .int 1 0, .int 61 0, .int 0 0, .int 16 0, .int 61 0, .int 24 0, .int 16 0, .int 2 0, .int 2 0, .int 13 0, .int 11 0, .int 9 0, .int 0 0, .int 67043328 0, .int 126 0, .int 126 0, .int 0 0, .int 0 0, .int 0 0, .int 0 0, .int 0 0, .int 1 0, .int 1 0]
noncomputable def H1 (P : Params) : Obj := ⟨.type "re.Pattern", none, .fields #[(sv "=[a-fA-F0-9]{2}" 332), .int 256 364, .int 0 0, .none, .none, .ref 48, .int 0 0], #[]⟩
noncomputable def J8 (P : Params) : Obj := ⟨.type "range", none, .fields #[.int 0 367, .int 256 366, .int 1 368], #[]⟩
noncomputable def q7W (P : Params) : Obj := ⟨.type "range_iterator", none, .fields #[.int 0 0, .int 256 0, .int 1 0], #[]⟩
noncomputable def q7X (P : Params) : Obj := ⟨.type "list", none, .seq #[] 0, #[]⟩
noncomputable def q7Y (P : Params) : Obj := dO 0 []
noncomputable def L_bh (P : Params) : List Obj := [O6 P, Q7 P, Q8 P, q5i P, Q9 P, R0 P, R1 P, R2 P, R3 P, R4 P, K0 P, K1 P, K3 P, K4 P, K5 P, K6 P, K7 P, K8 P, K9 P, L1 P, L2 P, L3 P, L4 P, L5 P, L6 P, L7 P, L8 P, L9 P, M0 P, M1 P, M2 P, M3 P, M4 P, M5 P, N1 P, N4 P, N2 P, N3 P, I4 P, I5 P, J0 P, J1 P, J2 P, J3 P, J4 P, J5 P, J6 P, J7 P, H0 P, H1 P, J8 P, q7W P, q7X P, q7Y P]
noncomputable def q0l (w : World) (os : OsState) : SharedT := stT (L_bh w.params) 54 369 os
noncomputable def N5 (P : Params) : Obj := ⟨.type "range_iterator", none, .fields #[.int 256 0, .int 0 0, .int 1 0], #[]⟩
noncomputable def N6 (P : Params) : Obj := ⟨.type "list", none, .seq (Z4 []).toArray 256, #[]⟩
noncomputable def q7Z (P : Params) : Obj := dO 1 [de P "c" 370 (.int 255 1389)]
noncomputable def L_be (P : Params) : List Obj := [O6 P, Q7 P, Q8 P, q5i P, Q9 P, R0 P, R1 P, R2 P, R3 P, R4 P, K0 P, K1 P, K3 P, K4 P, K5 P, K6 P, K7 P, K8 P, K9 P, L1 P, L2 P, L3 P, L4 P, L5 P, L6 P, L7 P, L8 P, L9 P, M0 P, M1 P, M2 P, M3 P, M4 P, M5 P, N1 P, N4 P, N2 P, N3 P, I4 P, I5 P, J0 P, J1 P, J2 P, J3 P, J4 P, J5 P, J6 P, J7 P, H0 P, H1 P, J8 P, N5 P, N6 P, q7Z P]
noncomputable def q0m (w : World) (os : OsState) : SharedT := stT (L_be w.params) 54 1393 os
noncomputable def o3_b (P : Params) : Obj := dO 14 [ds P "__name__" 165 "__main__" 164, de P "__doc__" 166 .none, de P "__package__" 167 .none, de P "__loader__" 168 (.builtin "__main__.__loader__#opaque"), de P "__spec__" 169 .none, de P "__annotations__" 170 (.ref 6), de P "__builtins__" 171 (.ref 4), ds P "__file__" 173 "/claim/cut.py" 172, de P "__cached__" 174 .none, de P "_sre" 275 (.ref 12), de P "deque" 317 (.type "collections.deque"), de P "_wall" 330 (.ref 44), de P "twin_re_1_quoprimime" 365 (.ref 49), de P "_QUOPRI_MAP" 1393 (.ref 52)]
noncomputable def V2 (P : Params) : Obj := dO 2 []
noncomputable def V3 (P : Params) : Obj := tO []
noncomputable def V4 (P : Params) : Obj := ⟨.type "StopIteration", none, .fields #[.ref 54, .none, .none, .none, .bool false, .none], #[]⟩
noncomputable def L_b (P : Params) : List Obj := [O6 P, Q7 P, Q8 P, o3_b P, Q9 P, R0 P, R1 P, R2 P, R3 P, R4 P, K0 P, K1 P, K3 P, K4 P, K5 P, K6 P, K7 P, K8 P, K9 P, L1 P, L2 P, L3 P, L4 P, L5 P, L6 P, L7 P, L8 P, L9 P, M0 P, M1 P, M2 P, M3 P, M4 P, M5 P, N1 P, N4 P, N2 P, N3 P, I4 P, I5 P, J0 P, J1 P, J2 P, J3 P, J4 P, J5 P, J6 P, J7 P, H0 P, H1 P, J8 P, N5 P, N6 P, V2 P, V3 P, V4 P]
noncomputable def T_b (w : World) (os : OsState) : SharedT := stT (L_b w.params) 56 1394 os
noncomputable def o3_ch (P : Params) : Obj := dO 21 [ds P "__name__" 165 "cpy313.email.quoprimime" 1404, de P "__doc__" 166 .none, de P "__package__" 167 .none, de P "__loader__" 168 (.builtin "__main__.__loader__#opaque"), de P "__spec__" 169 .none, de P "__annotations__" 170 (.ref 6), de P "__builtins__" 171 (.ref 4), ds P "__file__" 173 "/claim/cut.py" 172, de P "__cached__" 174 .none, de P "_sre" 275 (.ref 12), de P "deque" 317 (.type "collections.deque"), de P "_wall" 330 (.ref 44), de P "twin_re_1_quoprimime" 365 (.ref 49), de P "_QUOPRI_MAP" 1393 (.ref 52), de P "_QUOPRI_HEADER_MAP" 1394 (.ref 57), de P "_QUOPRI_BODY_MAP" 1395 (.ref 59), ds P "ascii_lowercase" 1397 "abcdefghijklmnopqrstuvwxyz" 1396, ds P "ascii_uppercase" 1399 "ABCDEFGHIJKLMNOPQRSTUVWXYZ" 1398, ds P "ascii_letters" 1401 "abcdefghijklmnopqrstuvwxyzABCDEFGHIJKLMNOPQRSTUVWXYZ" 1400, ds P "digits" 1403 "0123456789" 1402, de P "c" 1414 (.int 45 1413)]
noncomputable def T4 (P : Params) : Obj := ⟨.type "slice", none, .fields #[.none, .none, .none], #[]⟩
noncomputable def q8a (P : Params) : Obj := ⟨.type "list", none, .seq (Z4 [(45, 45, 1415)]).toArray 0, #[]⟩
noncomputable def T6 (P : Params) : Obj := ⟨.type "slice", none, .fields #[.none, .none, .none], #[]⟩
noncomputable def q0n (P : Params) : Obj := ⟨.type "list", none, .seq (Z4 []).toArray 0, #[]⟩
noncomputable def q8b (P : Params) : Obj := ⟨.type "bytes_iterator", none, .fields #[(.bytes #[45, 33, 42, 43, 47, 97, 98, 99, 100, 101, 102, 103, 104, 105, 106, 107, 108, 109, 110, 111, 112, 113, 114, 115, 116, 117, 118, 119, 120, 121, 122, 65, 66, 67, 68, 69, 70, 71, 72, 73, 74, 75, 76, 77, 78, 79, 80, 81, 82, 83, 84, 85, 86, 87, 88, 89, 90, 48, 49, 50, 51, 52, 53, 54, 55, 56, 57] 1412), .int 1 0], #[]⟩
noncomputable def L_ch (P : Params) : List Obj := [O6 P, Q7 P, Q8 P, o3_ch P, Q9 P, R0 P, R1 P, R2 P, R3 P, R4 P, K0 P, K1 P, K3 P, K4 P, K5 P, K6 P, K7 P, K8 P, K9 P, L1 P, L2 P, L3 P, L4 P, L5 P, L6 P, L7 P, L8 P, L9 P, M0 P, M1 P, M2 P, M3 P, M4 P, M5 P, N1 P, N4 P, N2 P, N3 P, I4 P, I5 P, J0 P, J1 P, J2 P, J3 P, J4 P, J5 P, J6 P, J7 P, H0 P, H1 P, J8 P, N5 P, N6 P, V2 P, V3 P, V4 P, T4 P, q8a P, T6 P, q0n P, q8b P]
noncomputable def T_ch (w : World) (os : OsState) : SharedT := stT (L_ch w.params) 61 1416 os
noncomputable def q5j (P : Params) : Obj := dO 21 [ds P "__name__" 165 "cpy313.email.quoprimime" 1404, de P "__doc__" 166 .none, de P "__package__" 167 .none, de P "__loader__" 168 (.builtin "__main__.__loader__#opaque"), de P "__spec__" 169 .none, de P "__annotations__" 170 (.ref 6), de P "__builtins__" 171 (.ref 4), ds P "__file__" 173 "/claim/cut.py" 172, de P "__cached__" 174 .none, de P "_sre" 275 (.ref 12), de P "deque" 317 (.type "collections.deque"), de P "_wall" 330 (.ref 44), de P "twin_re_1_quoprimime" 365 (.ref 49), de P "_QUOPRI_MAP" 1393 (.ref 52), de P "_QUOPRI_HEADER_MAP" 1394 (.ref 57), de P "_QUOPRI_BODY_MAP" 1395 (.ref 59), ds P "ascii_lowercase" 1397 "abcdefghijklmnopqrstuvwxyz" 1396, ds P "ascii_uppercase" 1399 "ABCDEFGHIJKLMNOPQRSTUVWXYZ" 1398, ds P "ascii_letters" 1401 "abcdefghijklmnopqrstuvwxyzABCDEFGHIJKLMNOPQRSTUVWXYZ" 1400, ds P "digits" 1403 "0123456789" 1402, de P "c" 1414 (.int 57 1611)]
noncomputable def q2X (P : Params) : Obj := ⟨.type "list", none, .seq (Z4 [(33, 33, 1418), (42, 42, 1421), (43, 43, 1424), (45, 45, 1415), (47, 47, 1427), (48, 48, 1586), (49, 49, 1589), (50, 50, 1592), (51, 51, 1595), (52, 52, 1598), (53, 53, 1601), (54, 54, 1604), (55, 55, 1607), (56, 56, 1610), (57, 57, 1613), (65, 65, 1508), (66, 66, 1511), (67, 67, 1514), (68, 68, 1517), (69, 69, 1520), (70, 70, 1523), (71, 71, 1526), (72, 72, 1529), (73, 73, 1532), (74, 74, 1535), (75, 75, 1538), (76, 76, 1541), (77, 77, 1544), (78, 78, 1547), (79, 79, 1550), (80, 80, 1553), (81, 81, 1556), (82, 82, 1559), (83, 83, 1562), (84, 84, 1565), (85, 85, 1568), (86, 86, 1571), (87, 87, 1574), (88, 88, 1577), (89, 89, 1580), (90, 90, 1583), (97, 97, 1430), (98, 98, 1433), (99, 99, 1436), (100, 100, 1439), (101, 101, 1442), (102, 102, 1445), (103, 103, 1448), (104, 104, 1451), (105, 105, 1454), (106, 106, 1457), (107, 107, 1460), (108, 108, 1463), (109, 109, 1466), (110, 110, 1469), (111, 111, 1472), (112, 112, 1475), (113, 113, 1478), (114, 114, 1481), (115, 115, 1484), (116, 116, 1487), (117, 117, 1490), (118, 118, 1493), (119, 119, 1496), (120, 120, 1499), (121, 121, 1502), (122, 122, 1505)]).toArray 0, #[]⟩
noncomputable def q8c (P : Params) : Obj := ⟨.type "bytes_iterator", none, .fields #[(.bytes #[45, 33, 42, 43, 47, 97, 98, 99, 100, 101, 102, 103, 104, 105, 106, 107, 108, 109, 110, 111, 112, 113, 114, 115, 116, 117, 118, 119, 120, 121, 122, 65, 66, 67, 68, 69, 70, 71, 72, 73, 74, 75, 76, 77, 78, 79, 80, 81, 82, 83, 84, 85, 86, 87, 88, 89, 90, 48, 49, 50, 51, 52, 53, 54, 55, 56, 57] 1412), .int 67 0], #[]⟩
noncomputable def L_ce (P : Params) : List Obj := [O6 P, Q7 P, Q8 P, q5j P, Q9 P, R0 P, R1 P, R2 P, R3 P, R4 P, K0 P, K1 P, K3 P, K4 P, K5 P, K6 P, K7 P, K8 P, K9 P, L1 P, L2 P, L3 P, L4 P, L5 P, L6 P, L7 P, L8 P, L9 P, M0 P, M1 P, M2 P, M3 P, M4 P, M5 P, N1 P, N4 P, N2 P, N3 P, I4 P, I5 P, J0 P, J1 P, J2 P, J3 P, J4 P, J5 P, J6 P, J7 P, H0 P, H1 P, J8 P, N5 P, N6 P, V2 P, V3 P, V4 P, T4 P, q2X P, T6 P, q0n P, q8c P]
noncomputable def T_ce (w : World) (os : OsState) : SharedT := stT (L_ce w.params) 61 1614 os
noncomputable def k8 (P : Params) : Obj := ⟨.type "bytes_iterator", none, .fields #[.none, .int 67 0], #[]⟩
noncomputable def k9 (P : Params) : Obj := tO []
noncomputable def l8 (P : Params) : Obj := ⟨.type "StopIteration", none, .fields #[.ref 61, .none, .none, .none, .bool false, .none], #[]⟩
noncomputable def L_c (P : Params) : List Obj := [O6 P, Q7 P, Q8 P, q5j P, Q9 P, R0 P, R1 P, R2 P, R3 P, R4 P, K0 P, K1 P, K3 P, K4 P, K5 P, K6 P, K7 P, K8 P, K9 P, L1 P, L2 P, L3 P, L4 P, L5 P, L6 P, L7 P, L8 P, L9 P, M0 P, M1 P, M2 P, M3 P, M4 P, M5 P, N1 P, N4 P, N2 P, N3 P, I4 P, I5 P, J0 P, J1 P, J2 P, J3 P, J4 P, J5 P, J6 P, J7 P, H0 P, H1 P, J8 P, N5 P, N6 P, V2 P, V3 P, V4 P, T4 P, q2X P, T6 P, q0n P, k8 P, k9 P, l8 P]
noncomputable def T_c (w : World) (os : OsState) : SharedT := stT (L_c w.params) 63 1614 os
noncomputable def o3_dh (P : Params) : Obj := dO 21 [ds P "__name__" 165 "cpy313.email.quoprimime" 1404, de P "__doc__" 166 .none, de P "__package__" 167 .none, de P "__loader__" 168 (.builtin "__main__.__loader__#opaque"), de P "__spec__" 169 .none, de P "__annotations__" 170 (.ref 6), de P "__builtins__" 171 (.ref 4), ds P "__file__" 173 "/claim/cut.py" 172, de P "__cached__" 174 .none, de P "_sre" 275 (.ref 12), de P "deque" 317 (.type "collections.deque"), de P "_wall" 330 (.ref 44), de P "twin_re_1_quoprimime" 365 (.ref 49), de P "_QUOPRI_MAP" 1393 (.ref 52), de P "_QUOPRI_HEADER_MAP" 1394 (.ref 57), de P "_QUOPRI_BODY_MAP" 1395 (.ref 59), ds P "ascii_lowercase" 1397 "abcdefghijklmnopqrstuvwxyz" 1396, ds P "ascii_uppercase" 1399 "ABCDEFGHIJKLMNOPQRSTUVWXYZ" 1398, ds P "ascii_letters" 1401 "abcdefghijklmnopqrstuvwxyzABCDEFGHIJKLMNOPQRSTUVWXYZ" 1400, ds P "digits" 1403 "0123456789" 1402, de P "c" 1414 (.int 32 1618)]
noncomputable def Z5 (P : Params) : Obj := ⟨.type "list", none, .seq (Z4 [(32, 95, 1614), (33, 33, 1418), (42, 42, 1421), (43, 43, 1424), (45, 45, 1415), (47, 47, 1427), (48, 48, 1586), (49, 49, 1589), (50, 50, 1592), (51, 51, 1595), (52, 52, 1598), (53, 53, 1601), (54, 54, 1604), (55, 55, 1607), (56, 56, 1610), (57, 57, 1613), (65, 65, 1508), (66, 66, 1511), (67, 67, 1514), (68, 68, 1517), (69, 69, 1520), (70, 70, 1523), (71, 71, 1526), (72, 72, 1529), (73, 73, 1532), (74, 74, 1535), (75, 75, 1538), (76, 76, 1541), (77, 77, 1544), (78, 78, 1547), (79, 79, 1550), (80, 80, 1553), (81, 81, 1556), (82, 82, 1559), (83, 83, 1562), (84, 84, 1565), (85, 85, 1568), (86, 86, 1571), (87, 87, 1574), (88, 88, 1577), (89, 89, 1580), (90, 90, 1583), (97, 97, 1430), (98, 98, 1433), (99, 99, 1436), (100, 100, 1439), (101, 101, 1442), (102, 102, 1445), (103, 103, 1448), (104, 104, 1451), (105, 105, 1454), (106, 106, 1457), (107, 107, 1460), (108, 108, 1463), (109, 109, 1466), (110, 110, 1469), (111, 111, 1472), (112, 112, 1475), (113, 113, 1478), (114, 114, 1481), (115, 115, 1484), (116, 116, 1487), (117, 117, 1490), (118, 118, 1493), (119, 119, 1496), (120, 120, 1499), (121, 121, 1502), (122, 122, 1505)]).toArray 0, #[]⟩
noncomputable def q8d (P : Params) : Obj := ⟨.type "list", none, .seq (Z4 [(32, 32, 1620)]).toArray 0, #[]⟩
noncomputable def q8e (P : Params) : Obj := ⟨.type "bytes_iterator", none, .fields #[(.bytes #[32, 33, 34, 35, 36, 37, 38, 39, 40, 41, 42, 43, 44, 45, 46, 47, 48, 49, 50, 51, 52, 53, 54, 55, 56, 57, 58, 59, 60, 62, 63, 64, 65, 66, 67, 68, 69, 70, 71, 72, 73, 74, 75, 76, 77, 78, 79, 80, 81, 82, 83, 84, 85, 86, 87, 88, 89, 90, 91, 92, 93, 94, 95, 96, 97, 98, 99, 100, 101, 102, 103, 104, 105, 106, 107, 108, 109, 110, 111, 112, 113, 114, 115, 116, 117, 118, 119, 120, 121, 122, 123, 124, 125, 126, 9] 1617), .int 1 0], #[]⟩
noncomputable def L_dh (P : Params) : List Obj := [O6 P, Q7 P, Q8 P, o3_dh P, Q9 P, R0 P, R1 P, R2 P, R3 P, R4 P, K0 P, K1 P, K3 P, K4 P, K5 P, K6 P, K7 P, K8 P, K9 P, L1 P, L2 P, L3 P, L4 P, L5 P, L6 P, L7 P, L8 P, L9 P, M0 P, M1 P, M2 P, M3 P, M4 P, M5 P, N1 P, N4 P, N2 P, N3 P, I4 P, I5 P, J0 P, J1 P, J2 P, J3 P, J4 P, J5 P, J6 P, J7 P, H0 P, H1 P, J8 P, N5 P, N6 P, V2 P, V3 P, V4 P, T4 P, Z5 P, T6 P, q8d P, k8 P, k9 P, l8 P, q8e P]
noncomputable def T_dh (w : World) (os : OsState) : SharedT := stT (L_dh w.params) 64 1621 os
noncomputable def q5k (P : Params) : Obj := dO 21 [ds P "__name__" 165 "cpy313.email.quoprimime" 1404, de P "__doc__" 166 .none, de P "__package__" 167 .none, de P "__loader__" 168 (.builtin "__main__.__loader__#opaque"), de P "__spec__" 169 .none, de P "__annotations__" 170 (.ref 6), de P "__builtins__" 171 (.ref 4), ds P "__file__" 173 "/claim/cut.py" 172, de P "__cached__" 174 .none, de P "_sre" 275 (.ref 12), de P "deque" 317 (.type "collections.deque"), de P "_wall" 330 (.ref 44), de P "twin_re_1_quoprimime" 365 (.ref 49), de P "_QUOPRI_MAP" 1393 (.ref 52), de P "_QUOPRI_HEADER_MAP" 1394 (.ref 57), de P "_QUOPRI_BODY_MAP" 1395 (.ref 59), ds P "ascii_lowercase" 1397 "abcdefghijklmnopqrstuvwxyz" 1396, ds P "ascii_uppercase" 1399 "ABCDEFGHIJKLMNOPQRSTUVWXYZ" 1398, ds P "ascii_letters" 1401 "abcdefghijklmnopqrstuvwxyzABCDEFGHIJKLMNOPQRSTUVWXYZ" 1400, ds P "digits" 1403 "0123456789" 1402, de P "c" 1414 (.int 9 1900)]
noncomputable def q0o (P : Params) : Obj := ⟨.type "list", none, .seq (Z4 [(9, 9, 1902), (32, 32, 1620), (33, 33, 1623), (34, 34, 1626), (35, 35, 1629), (36, 36, 1632), (37, 37, 1635), (38, 38, 1638), (39, 39, 1641), (40, 40, 1644), (41, 41, 1647), (42, 42, 1650), (43, 43, 1653), (44, 44, 1656), (45, 45, 1659), (46, 46, 1662), (47, 47, 1665), (48, 48, 1668), (49, 49, 1671), (50, 50, 1674), (51, 51, 1677), (52, 52, 1680), (53, 53, 1683), (54, 54, 1686), (55, 55, 1689), (56, 56, 1692), (57, 57, 1695), (58, 58, 1698), (59, 59, 1701), (60, 60, 1704), (62, 62, 1707), (63, 63, 1710), (64, 64, 1713), (65, 65, 1716), (66, 66, 1719), (67, 67, 1722), (68, 68, 1725), (69, 69, 1728), (70, 70, 1731), (71, 71, 1734), (72, 72, 1737), (73, 73, 1740), (74, 74, 1743), (75, 75, 1746), (76, 76, 1749), (77, 77, 1752), (78, 78, 1755), (79, 79, 1758), (80, 80, 1761), (81, 81, 1764), (82, 82, 1767), (83, 83, 1770), (84, 84, 1773), (85, 85, 1776), (86, 86, 1779), (87, 87, 1782), (88, 88, 1785), (89, 89, 1788), (90, 90, 1791), (91, 91, 1794), (92, 92, 1797), (93, 93, 1800), (94, 94, 1803), (95, 95, 1806), (96, 96, 1809), (97, 97, 1812), (98, 98, 1815), (99, 99, 1818), (100, 100, 1821), (101, 101, 1824), (102, 102, 1827), (103, 103, 1830), (104, 104, 1833), (105, 105, 1836), (106, 106, 1839), (107, 107, 1842), (108, 108, 1845), (109, 109, 1848), (110, 110, 1851), (111, 111, 1854), (112, 112, 1857), (113, 113, 1860), (114, 114, 1863), (115, 115, 1866), (116, 116, 1869), (117, 117, 1872), (118, 118, 1875), (119, 119, 1878), (120, 120, 1881), (121, 121, 1884), (122, 122, 1887), (123, 123, 1890), (124, 124, 1893), (125, 125, 1896), (126, 126, 1899)]).toArray 0, #[]⟩
noncomputable def q8f (P : Params) : Obj := ⟨.type "bytes_iterator", none, .fields #[(.bytes #[32, 33, 34, 35, 36, 37, 38, 39, 40, 41, 42, 43, 44, 45, 46, 47, 48, 49, 50, 51, 52, 53, 54, 55, 56, 57, 58, 59, 60, 62, 63, 64, 65, 66, 67, 68, 69, 70, 71, 72, 73, 74, 75, 76, 77, 78, 79, 80, 81, 82, 83, 84, 85, 86, 87, 88, 89, 90, 91, 92, 93, 94, 95, 96, 97, 98, 99, 100, 101, 102, 103, 104, 105, 106, 107, 108, 109, 110, 111, 112, 113, 114, 115, 116, 117, 118, 119, 120, 121, 122, 123, 124, 125, 126, 9] 1617), .int 95 0], #[]⟩
noncomputable def L_de (P : Params) : List Obj := [O6 P, Q7 P, Q8 P, q5k P, Q9 P, R0 P, R1 P, R2 P, R3 P, R4 P, K0 P, K1 P, K3 P, K4 P, K5 P, K6 P, K7 P, K8 P, K9 P, L1 P, L2 P, L3 P, L4 P, L5 P, L6 P, L7 P, L8 P, L9 P, M0 P, M1 P, M2 P, M3 P, M4 P, M5 P, N1 P, N4 P, N2 P, N3 P, I4 P, I5 P, J0 P, J1 P, J2 P, J3 P, J4 P, J5 P, J6 P, J7 P, H0 P, H1 P, J8 P, N5 P, N6 P, V2 P, V3 P, V4 P, T4 P, Z5 P, T6 P, q0o P, k8 P, k9 P, l8 P, q8f P]
noncomputable def T_de (w : World) (os : OsState) : SharedT := stT (L_de w.params) 64 1903 os
noncomputable def q5l (P : Params) : Obj := ⟨.type "bytes_iterator", none, .fields #[.none, .int 95 0], #[]⟩
noncomputable def q5m (P : Params) : Obj := tO []
noncomputable def q5n (P : Params) : Obj := ⟨.type "StopIteration", none, .fields #[.ref 64, .none, .none, .none, .bool false, .none], #[]⟩
noncomputable def L_d (P : Params) : List Obj := [O6 P, Q7 P, Q8 P, q5k P, Q9 P, R0 P, R1 P, R2 P, R3 P, R4 P, K0 P, K1 P, K3 P, K4 P, K5 P, K6 P, K7 P, K8 P, K9 P, L1 P, L2 P, L3 P, L4 P, L5 P, L6 P, L7 P, L8 P, L9 P, M0 P, M1 P, M2 P, M3 P, M4 P, M5 P, N1 P, N4 P, N2 P, N3 P, I4 P, I5 P, J0 P, J1 P, J2 P, J3 P, J4 P, J5 P, J6 P, J7 P, H0 P, H1 P, J8 P, N5 P, N6 P, V2 P, V3 P, V4 P, T4 P, Z5 P, T6 P, q0o P, k8 P, k9 P, l8 P, q5l P, q5m P, q5n P]
noncomputable def T_d (w : World) (os : OsState) : SharedT := stT (L_d w.params) 66 1903 os
noncomputable def o3_e (P : Params) : Obj := dO 25 [ds P "__name__" 165 "cpy313.email.quoprimime" 1404, de P "__doc__" 166 .none, de P "__package__" 167 .none, de P "__loader__" 168 (.builtin "__main__.__loader__#opaque"), de P "__spec__" 169 .none, de P "__annotations__" 170 (.ref 6), de P "__builtins__" 171 (.ref 4), ds P "__file__" 173 "/claim/cut.py" 172, de P "__cached__" 174 .none, de P "_sre" 275 (.ref 12), de P "deque" 317 (.type "collections.deque"), de P "_wall" 330 (.ref 44), de P "twin_re_1_quoprimime" 365 (.ref 49), de P "_QUOPRI_MAP" 1393 (.ref 52), de P "_QUOPRI_HEADER_MAP" 1394 (.ref 57), de P "_QUOPRI_BODY_MAP" 1395 (.ref 59), ds P "ascii_lowercase" 1397 "abcdefghijklmnopqrstuvwxyz" 1396, ds P "ascii_uppercase" 1399 "ABCDEFGHIJKLMNOPQRSTUVWXYZ" 1398, ds P "ascii_letters" 1401 "abcdefghijklmnopqrstuvwxyzABCDEFGHIJKLMNOPQRSTUVWXYZ" 1400, ds P "digits" 1403 "0123456789" 1402, de P "c" 1414 (.int 10 1936), de P "_max_append" 1913 (.ref 73), de P "unquote" 1920 (.ref 80), de P "header_encode" 1930 (.ref 88), de P "_QUOPRI_BODY_ENCODE_MAP" 1931 (.ref 90)]
noncomputable def o35_e (P : Params) : Obj := nO [.int 3 0, .int 0 0, .ref 43, .int 20 0, .int 0 0, .ref 72, .int 29 0, .int 0 0, .ref 79, .int 31 0, .int 0 0, .ref 87]
noncomputable def o66_e (P : Params) : Obj := tO [sv "" 1903]
noncomputable def o67_e (P : Params) : Obj := tO []
noncomputable def o68_e (P : Params) : Obj := nO []
noncomputable def o69_e (P : Params) : Obj := tO [sv "L" 1907, sv "s" 1908, sv "maxlen" 1909, sv "extra" 1910]
noncomputable def o70_e (P : Params) : Obj := tO []
noncomputable def o71_e (P : Params) : Obj := ⟨.none, none, .func { name := S "_max_append", qualname := S "_max_append", params := fdA (A0 13), body := .stmts (fdB (A0 13)), scope := fdS (A0 13), globals := 0, closure := [], defaults := .none, kwdefaults := .none, doc := .none, pyModule := .none, annotations := none, code := .none, closureTuple := .none, builtins := 0 : FuncData }, #[]⟩
noncomputable def q5o (P : Params) : Obj := cO "_max_append" "_max_append" 1904 20 4 0 0 3 67 68 .none (.ref 69) (.ref 70) (.ref 71) 1911 1912
noncomputable def q5p (P : Params) : Obj := ⟨.type "function", none, .func { name := S "_max_append", qualname := S "_max_append", params := fdA (A0 13), body := .stmts (fdB (A0 13)), scope := fdS (A0 13), globals := 3, closure := [], defaults := .ref 66, kwdefaults := .none, doc := .none, pyModule := sv "cpy313.email.quoprimime" 1404, annotations := none, code := .ref 72, closureTuple := .none, builtins := 0 : FuncData }, #[]⟩
noncomputable def o74_e (P : Params) : Obj := tO []
noncomputable def o75_e (P : Params) : Obj := nO []
noncomputable def o76_e (P : Params) : Obj := tO [sv "s" 1917]
noncomputable def o77_e (P : Params) : Obj := tO []
noncomputable def o78_e (P : Params) : Obj := ⟨.none, none, .func { name := S "unquote", qualname := S "unquote", params := fdA (A0 14), body := .stmts (fdB (A0 14)), scope := fdS (A0 14), globals := 0, closure := [], defaults := .none, kwdefaults := .none, doc := .none, pyModule := .none, annotations := none, code := .none, closureTuple := .none, builtins := 0 : FuncData }, #[]⟩
noncomputable def q5q (P : Params) : Obj := cO "unquote" "unquote" 1914 29 1 0 0 3 74 75 .none (.ref 76) (.ref 77) (.ref 78) 1918 1919
noncomputable def q5r (P : Params) : Obj := fO "unquote" "unquote" (A0 14) "cpy313.email.quoprimime" 1404 79
noncomputable def o81_e (P : Params) : Obj := tO [sv "iso-8859-1" 1921]
noncomputable def o82_e (P : Params) : Obj := tO []
noncomputable def o83_e (P : Params) : Obj := nO []
noncomputable def o84_e (P : Params) : Obj := tO [sv "header_bytes" 1925, sv "charset" 1926, sv "encoded" 1927]
noncomputable def o85_e (P : Params) : Obj := tO []
noncomputable def o86_e (P : Params) : Obj := ⟨.none, none, .func { name := S "header_encode", qualname := S "header_encode", params := fdA (A0 15), body := .stmts (fdB (A0 15)), scope := fdS (A0 15), globals := 0, closure := [], defaults := .none, kwdefaults := .none, doc := .none, pyModule := .none, annotations := none, code := .none, closureTuple := .none, builtins := 0 : FuncData }, #[]⟩
noncomputable def q5s (P : Params) : Obj := cO "header_encode" "header_encode" 1922 31 2 0 0 3 82 83 .none (.ref 84) (.ref 85) (.ref 86) 1928 1929
noncomputable def q5t (P : Params) : Obj := ⟨.type "function", none, .func { name := S "header_encode", qualname := S "header_encode", params := fdA (A0 15), body := .stmts (fdB (A0 15)), scope := fdS (A0 15), globals := 3, closure := [], defaults := .ref 81, kwdefaults := .none, doc := .none, pyModule := sv "cpy313.email.quoprimime" 1404, annotations := none, code := .ref 87, closureTuple := .none, builtins := 0 : FuncData }, #[]⟩
noncomputable def o89_e (P : Params) : Obj := ⟨.type "slice", none, .fields #[.none, .none, .none], #[]⟩
noncomputable def o90_e (P : Params) : Obj := ⟨.type "list", none, .seq (Z4 [(9, 9, 1902), (10, 10, 1938), (13, 13, 1935), (32, 32, 1620), (33, 33, 1623), (34, 34, 1626), (35, 35, 1629), (36, 36, 1632), (37, 37, 1635), (38, 38, 1638), (39, 39, 1641), (40, 40, 1644), (41, 41, 1647), (42, 42, 1650), (43, 43, 1653), (44, 44, 1656), (45, 45, 1659), (46, 46, 1662), (47, 47, 1665), (48, 48, 1668), (49, 49, 1671), (50, 50, 1674), (51, 51, 1677), (52, 52, 1680), (53, 53, 1683), (54, 54, 1686), (55, 55, 1689), (56, 56, 1692), (57, 57, 1695), (58, 58, 1698), (59, 59, 1701), (60, 60, 1704), (62, 62, 1707), (63, 63, 1710), (64, 64, 1713), (65, 65, 1716), (66, 66, 1719), (67, 67, 1722), (68, 68, 1725), (69, 69, 1728), (70, 70, 1731), (71, 71, 1734), (72, 72, 1737), (73, 73, 1740), (74, 74, 1743), (75, 75, 1746), (76, 76, 1749), (77, 77, 1752), (78, 78, 1755), (79, 79, 1758), (80, 80, 1761), (81, 81, 1764), (82, 82, 1767), (83, 83, 1770), (84, 84, 1773), (85, 85, 1776), (86, 86, 1779), (87, 87, 1782), (88, 88, 1785), (89, 89, 1788), (90, 90, 1791), (91, 91, 1794), (92, 92, 1797), (93, 93, 1800), (94, 94, 1803), (95, 95, 1806), (96, 96, 1809), (97, 97, 1812), (98, 98, 1815), (99, 99, 1818), (100, 100, 1821), (101, 101, 1824), (102, 102, 1827), (103, 103, 1830), (104, 104, 1833), (105, 105, 1836), (106, 106, 1839), (107, 107, 1842), (108, 108, 1845), (109, 109, 1848), (110, 110, 1851), (111, 111, 1854), (112, 112, 1857), (113, 113, 1860), (114, 114, 1863), (115, 115, 1866), (116, 116, 1869), (117, 117, 1872), (118, 118, 1875), (119, 119, 1878), (120, 120, 1881), (121, 121, 1884), (122, 122, 1887), (123, 123, 1890), (124, 124, 1893), (125, 125, 1896), (126, 126, 1899)]).toArray 0, #[]⟩
noncomputable def o91_e (P : Params) : Obj := ⟨.type "bytes_iterator", none, .fields #[.none, .int 2 0], #[]⟩
noncomputable def o92_e (P : Params) : Obj := tO []
noncomputable def o93_e (P : Params) : Obj := ⟨.type "StopIteration", none, .fields #[.ref 92, .none, .none, .none, .bool false, .none], #[]⟩
noncomputable def L_e (P : Params) : List Obj := [O6 P, Q7 P, Q8 P, o3_e P, Q9 P, R0 P, R1 P, R2 P, R3 P, R4 P, K0 P, K1 P, K3 P, K4 P, K5 P, K6 P, K7 P, K8 P, K9 P, L1 P, L2 P, L3 P, L4 P, L5 P, L6 P, L7 P, L8 P, L9 P, M0 P, M1 P, M2 P, M3 P, M4 P, M5 P, N1 P, o35_e P, N2 P, N3 P, I4 P, I5 P, J0 P, J1 P, J2 P, J3 P, J4 P, J5 P, J6 P, J7 P, H0 P, H1 P, J8 P, N5 P, N6 P, V2 P, V3 P, V4 P, T4 P, Z5 P, T6 P, q0o P, k8 P, k9 P, l8 P, q5l P, q5m P, q5n P, o66_e P, o67_e P, o68_e P, o69_e P, o70_e P, o71_e P, q5o P, q5p P, o74_e P, o75_e P, o76_e P, o77_e P, o78_e P, q5q P, q5r P, o81_e P, o82_e P, o83_e P, o84_e P, o85_e P, o86_e P, q5s P, q5t P, o89_e P, o90_e P, o91_e P, o92_e P, o93_e P]
noncomputable def T_e (w : World) (os : OsState) : SharedT := stT (L_e w.params) 94 1939 os
noncomputable def q0p : Env := { scope := pw.main.scope, locals := mainNs, globals := mainNs, cells := [], code := .ref 36, frame := some 37 }
noncomputable def cE : Code := .body beh q0p
noncomputable abbrev p0 : Pos := ⟨0, 0, 0, 0⟩
noncomputable abbrev Bf : List Frame := [topFrame p0]
noncomputable def os0 : OsState := (start (opening pw)).1.os
noncomputable def th (l : List Stmt) (p : Pos) : Thread := piecesOf l q0p cE p Bf
theorem q6f (w : World) : (fImp B3 (opening pw) w 1200 (Z3 (opening pw)).1 (Z3 (opening pw)).2).bind (q2T pw) = some (T_0 w (Z3 (opening pw)).1.os).abs := by rfl'
noncomputable abbrev ann : Option Value := some (.ref 6)
theorem pre_f (w : World) (os : OsState) : q2S B3 pw w 34 ann 12 (T_0 w os).abs (topStub pw) = some ((T_a w os).abs, ⟨F2 B3 cE, cE, p0, Bf⟩) := by rfl'
theorem blk_f (w : World) (os : OsState) : H8 B3 pw w 34 ann 1 1 (T_a w os) (blockOf beh q0p cE p0 Bf) = some (.next, T_a w os, cE, p0) := by rfl'
noncomputable def z7 : List Stmt := beh.take 3
noncomputable def z8 : List Stmt := (beh.drop 3).take 8
noncomputable def z9 : List Stmt := (beh.drop 11).take 2
noncomputable def q0a : List Stmt := (beh.drop 13).take 5
noncomputable def q0b : List Stmt := beh.drop 18
noncomputable def asV (s : Stmt) : Expr := A6 (sK s) 0
noncomputable def q8g (e : Expr) : Scope := eSc e
noncomputable def forT (s : Stmt) : Expr := A6 (sK s) 0
noncomputable def forB (s : Stmt) : List Stmt := (sB s).1
noncomputable def forE (s : Stmt) : List Stmt := (sB s).2
noncomputable def cenv : Env := { scope := q8g (asV (A0 2)), locals := 53, globals := 3, cells := [], qual := S "", func := none, code := .ref 36, frame := some 37, builtins := 0 }
noncomputable def lpB : Code := .compLoop (asV (A0 2)) 0 (.ref 51) (.ref 52) cenv
noncomputable def lpC : Code := .forLoop (forT (A0 10)) (.ref 60) (forB (A0 10)) (forE (A0 10)) q0p
noncomputable def lpD : Code := .forLoop (forT (A0 12)) (.ref 63) (forB (A0 12)) (forE (A0 12)) q0p
noncomputable def top1 : List Frame → Frame
 | f :: _ => f
 | [] => topFrame p0
noncomputable def H9 : Option (SharedT × Thread) → Frame
 | some (_, t) => top1 t.stack
 | none => topFrame p0
noncomputable def goB (w : World) (os : OsState) (n : Nat) := fGo B3 pw w 34 ann 1 n (T_a w os) (th z7 p0)
noncomputable def goC (w : World) (os : OsState) (n : Nat) := fGo B3 pw w 34 ann 1 n (T_b w os) (th z8 ⟨7, 0, 7, 11⟩)
noncomputable def goD (w : World) (os : OsState) (n : Nat) := fGo B3 pw w 34 ann 1 n (T_c w os) (th z9 ⟨15, 9, 15, 74⟩)
noncomputable def r1 (w : World) (b : Bool) : World := w.withFollow "comprehension-iter-twice" b
noncomputable def r2 (w : World) (b : Bool) : World := w.withFollow "special-get-raises" b
theorem b1_tt (w : World) (os : OsState) : goB (r2 (r1 w true) true) os 149 = some (q0l (r2 (r1 w true) true) os, ⟨F2 B3 lpB, lpB, ⟨7, 36, 7, 46⟩, [H9 (goB (r2 (r1 w true) true) os 149), topFrame p0]⟩) := by rfl'
theorem b1_tf (w : World) (os : OsState) : goB (r2 (r1 w true) false) os 149 = some (q0l (r2 (r1 w true) false) os, ⟨F2 B3 lpB, lpB, ⟨7, 36, 7, 46⟩, [H9 (goB (r2 (r1 w true) false) os 149), topFrame p0]⟩) := by rfl'
theorem b1_ft (w : World) (os : OsState) : goB (r2 (r1 w false) true) os 159 = some (q0l (r2 (r1 w false) true) os, ⟨F2 B3 lpB, lpB, ⟨7, 36, 7, 46⟩, [H9 (goB (r2 (r1 w false) true) os 159), topFrame p0]⟩) := by rfl'
theorem b1_ff (w : World) (os : OsState) : goB (r2 (r1 w false) false) os 159 = some (q0l (r2 (r1 w false) false) os, ⟨F2 B3 lpB, lpB, ⟨7, 36, 7, 46⟩, [H9 (goB (r2 (r1 w false) false) os 159), topFrame p0]⟩) := by rfl'
theorem b2 (w : World) (os : OsState) (f : Frame) : fGo B3 pw w 34 ann 1 9472 (q0l w os) ⟨F2 B3 lpB, lpB, ⟨7, 36, 7, 46⟩, [f, topFrame p0]⟩ = some (q0m w os, ⟨F2 B3 lpB, lpB, ⟨7, 15, 7, 26⟩, [f, topFrame p0]⟩) := by rfl'
end
end
section
open PySem PySem.W PyProof.Rows
set_option maxHeartbeats 0
noncomputable section
theorem b3_tt (w : World) (os : OsState) : H8 B3 pw (r2 (r1 w true) true) 34 ann 1 28 (q0m (r2 (r1 w true) true) os) ⟨F2 B3 lpB, lpB, ⟨7, 15, 7, 26⟩, [H9 (goB (r2 (r1 w true) true) os 149), topFrame p0]⟩ = some (.next, T_b (r2 (r1 w true) true) os, cE, ⟨7, 0, 7, 11⟩) := by rfl'
theorem b3_tf (w : World) (os : OsState) : H8 B3 pw (r2 (r1 w true) false) 34 ann 1 28 (q0m (r2 (r1 w true) false) os) ⟨F2 B3 lpB, lpB, ⟨7, 15, 7, 26⟩, [H9 (goB (r2 (r1 w true) false) os 149), topFrame p0]⟩ = some (.next, T_b (r2 (r1 w true) false) os, cE, ⟨7, 0, 7, 11⟩) := by rfl'
theorem b3_ft (w : World) (os : OsState) : H8 B3 pw (r2 (r1 w false) true) 34 ann 1 28 (q0m (r2 (r1 w false) true) os) ⟨F2 B3 lpB, lpB, ⟨7, 15, 7, 26⟩, [H9 (goB (r2 (r1 w false) true) os 159), topFrame p0]⟩ = some (.next, T_b (r2 (r1 w false) true) os, cE, ⟨7, 0, 7, 11⟩) := by rfl'
theorem b3_ff (w : World) (os : OsState) : H8 B3 pw (r2 (r1 w false) false) 34 ann 1 28 (q0m (r2 (r1 w false) false) os) ⟨F2 B3 lpB, lpB, ⟨7, 15, 7, 26⟩, [H9 (goB (r2 (r1 w false) false) os 159), topFrame p0]⟩ = some (.next, T_b (r2 (r1 w false) false) os, cE, ⟨7, 0, 7, 11⟩) := by rfl'
theorem c1_t (w : World) (os : OsState) : goC (r2 w true) os 197 = some (T_ch (r2 w true) os, ⟨F2 B3 lpC, lpC, ⟨16, 4, 16, 25⟩, [H9 (goC (r2 w true) os 197), topFrame p0]⟩) := by rfl'
theorem c1_f (w : World) (os : OsState) : goC (r2 w false) os 197 = some (T_ch (r2 w false) os, ⟨F2 B3 lpC, lpC, ⟨16, 4, 16, 25⟩, [H9 (goC (r2 w false) os 197), topFrame p0]⟩) := by rfl'
theorem c2 (w : World) (os : OsState) (f : Frame) : fGo B3 pw w 34 ann 1 2970 (T_ch w os) ⟨F2 B3 lpC, lpC, ⟨16, 4, 16, 25⟩, [f, topFrame p0]⟩ = some (T_ce w os, ⟨F2 B3 lpC, lpC, ⟨16, 4, 16, 25⟩, [f, topFrame p0]⟩) := by rfl'
theorem c3_t (w : World) (os : OsState) : H8 B3 pw (r2 w true) 34 ann 1 18 (T_ce (r2 w true) os) ⟨F2 B3 lpC, lpC, ⟨16, 4, 16, 25⟩, [H9 (goC (r2 w true) os 197), topFrame p0]⟩ = some (.next, T_c (r2 w true) os, cE, ⟨15, 9, 15, 74⟩) := by rfl'
theorem c3_f (w : World) (os : OsState) : H8 B3 pw (r2 w false) 34 ann 1 18 (T_ce (r2 w false) os) ⟨F2 B3 lpC, lpC, ⟨16, 4, 16, 25⟩, [H9 (goC (r2 w false) os 197), topFrame p0]⟩ = some (.next, T_c (r2 w false) os, cE, ⟨15, 9, 15, 74⟩) := by rfl'
theorem d1_t (w : World) (os : OsState) : goD (r2 w true) os 79 = some (T_dh (r2 w true) os, ⟨F2 B3 lpD, lpD, ⟨19, 4, 19, 23⟩, [H9 (goD (r2 w true) os 79), topFrame p0]⟩) := by rfl'
theorem d1_f (w : World) (os : OsState) : goD (r2 w false) os 79 = some (T_dh (r2 w false) os, ⟨F2 B3 lpD, lpD, ⟨19, 4, 19, 23⟩, [H9 (goD (r2 w false) os 79), topFrame p0]⟩) := by rfl'
theorem d2 (w : World) (os : OsState) (f : Frame) : fGo B3 pw w 34 ann 1 4230 (T_dh w os) ⟨F2 B3 lpD, lpD, ⟨19, 4, 19, 23⟩, [f, topFrame p0]⟩ = some (T_de w os, ⟨F2 B3 lpD, lpD, ⟨19, 4, 19, 23⟩, [f, topFrame p0]⟩) := by rfl'
theorem d3_t (w : World) (os : OsState) : H8 B3 pw (r2 w true) 34 ann 1 18 (T_de (r2 w true) os) ⟨F2 B3 lpD, lpD, ⟨19, 4, 19, 23⟩, [H9 (goD (r2 w true) os 79), topFrame p0]⟩ = some (.next, T_d (r2 w true) os, cE, ⟨18, 9, 18, 110⟩) := by rfl'
theorem d3_f (w : World) (os : OsState) : H8 B3 pw (r2 w false) 34 ann 1 18 (T_de (r2 w false) os) ⟨F2 B3 lpD, lpD, ⟨19, 4, 19, 23⟩, [H9 (goD (r2 w false) os 79), topFrame p0]⟩ = some (.next, T_d (r2 w false) os, cE, ⟨18, 9, 18, 110⟩) := by rfl'
theorem e_t (w : World) (os : OsState) : H8 B3 pw (r2 w true) 34 ann 1 241 (T_d (r2 w true) os) (th q0a ⟨18, 9, 18, 110⟩) = some (.next, T_e (r2 w true) os, cE, ⟨37, 9, 37, 16⟩) := by rfl'
theorem e_f (w : World) (os : OsState) : H8 B3 pw (r2 w false) 34 ann 1 241 (T_d (r2 w false) os) (th q0a ⟨18, 9, 18, 110⟩) = some (.next, T_e (r2 w false) os, cE, ⟨37, 9, 37, 16⟩) := by rfl'
end
end
section
open PySem PySem.W PyProof.Rows
set_option maxHeartbeats 0
noncomputable section
noncomputable def k0 (P : Params) : Obj := O6 P
noncomputable def k2 (P : Params) : Obj := ⟨.none, none, .dict #[de P "\x69mport.loaded._sre" 183 (.bool true), de P "class._frozen_importlib.BuiltinImporter" 185 (.ref 14), de P "watched.\x69mport" 206 (.ref 18), de P "class._frozen_importlib.ModuleSpec" 216 (.ref 22), de P "sys.modules.booked-epoch" 245 (.int 4 0), de P "\x69mport.later-laid._sre" 270 (.bool true), de P "watched.library" 272 (.ref 27), de P "watched.library-objects" 0 (.str (⟨#[12, 30]⟩ : PySem.Str) 0), de P "watched.library-deep._sre" 273 (.str (⟨#[4, 0, 0, 11, 4, 0, 0, 11, 4, 0, 0, 3, 4, 0, 0, 11, 8, 4, 100, 105, 99, 116, 2]⟩ : PySem.Str) 0), de P "\x69mport.loaded._collections" 280 (.bool true), de P "sys.modules.landed._collections" 294 (.bool true), de P "\x69mport.later-laid._collections" 309 (.bool true), de P "watched.library-deep._collections" 311 (.str (⟨#[4, 0, 0, 29, 4, 0, 0, 29, 4, 0, 0, 3, 4, 0, 0, 29, 8, 4, 100, 105, 99, 116, 2]⟩ : PySem.Str) 0), de P "type.__subclasses__.OSError.0" 2030 (.int 136 0), de P "type.__subclasses__.OSError.n" 2031 (.int 1 0)] 15, #[]⟩
noncomputable def k3 (P : Params) : Obj := dO 61 [ds P "__name__" 165 "law_il0190_01" 2902, de P "__doc__" 166 .none, de P "__package__" 167 .none, de P "__loader__" 168 (.builtin "__main__.__loader__#opaque"), de P "__spec__" 169 .none, de P "__annotations__" 170 (.ref 6), de P "__builtins__" 171 (.ref 4), ds P "__file__" 173 "/claim/cut.py" 172, de P "__cached__" 174 .none, de P "_sre" 275 (.ref 12), de P "deque" 317 (.type "collections.deque"), de P "_wall" 330 (.ref 44), de P "twin_re_1_quoprimime" 365 (.ref 49), de P "_QUOPRI_MAP" 1393 (.ref 52), de P "_QUOPRI_HEADER_MAP" 1394 (.ref 57), de P "_QUOPRI_BODY_MAP" 1395 (.ref 59), ds P "ascii_lowercase" 1397 "abcdefghijklmnopqrstuvwxyz" 1396, ds P "ascii_uppercase" 1399 "ABCDEFGHIJKLMNOPQRSTUVWXYZ" 1398, ds P "ascii_letters" 1401 "abcdefghijklmnopqrstuvwxyzABCDEFGHIJKLMNOPQRSTUVWXYZ" 1400, ds P "digits" 1403 "0123456789" 1402, de P "_max_append" 1913 (.ref 73), de P "unquote" 1920 (.ref 80), de P "header_encode" 1930 (.ref 88), de P "_QUOPRI_BODY_ENCODE_MAP" 1931 (.ref 90), de P "_unquote_match" 1946 (.ref 100), de P "header_decode" 1953 (.ref 107), de P "twin_re_1_shlex" 1993 (.ref 112), de P "_whence" 2003 (.ref 119), de P "_index" 2011 (.ref 126), de P "UnsupportedOperation" 2033 (.ref 136), de P "IOBase" 2065 (.ref 156), de P "BufferedIOBase" 2083 (.ref 171), de P "TextIOBase" 2101 (.ref 183), de P "BytesIO" 2363 (.ref 413), de P "StringIO" 2650 (.ref 660), de P "_kind" 2661 (.ref 669), de P "_fspath" 2670 (.ref 676), de P "_check_arg_types" 2680 (.ref 683), de P "isabs" 2687 (.ref 690), de P "join" 2698 (.ref 814), de P "join_path" 2699 (.ref 697), de P "dirname" 2709 (.ref 704), de P "shlex" 2850 (.ref 795), de P "split" 2860 (.ref 807), de P "join_shlex" 2868 (.ref 814), de P "_find_unsafe" 2870 (.ref 815), de P "quote" 2877 (.ref 822), de P "sorted_list_difference" 2893 (.ref 829), de P "three_way_cmp" 2901 (.ref 836), de P "_law_group" 2909 (.ref 841), de P "_law_piece" 2920 (.ref 848), de P "_law_narrow" 2935 (.ref 855), de P "_law_packed" 2945 (.ref 862), de P "_law_line" 2951 (.ref 867), de P "_law_back" 2957 (.ref 872), de P "_law_room" 2970 (.ref 879), de P "_law_counts" 2982 (.ref 886), de P "_law_fewer" 2988 (.ref 891), de P "law" 2994 (.ref 896)]
noncomputable def k48 (P : Params) : Obj := H0 P
noncomputable def k49 (P : Params) : Obj := H1 P
noncomputable def k57 (P : Params) : Obj := Z5 P
noncomputable def k66 (P : Params) : Obj := tO [sv "" 1903]
noncomputable def k72 (P : Params) : Obj := q5o P
noncomputable def k73 (P : Params) : Obj := q5p P
noncomputable def k79 (P : Params) : Obj := q5q P
noncomputable def k80 (P : Params) : Obj := q5r P
noncomputable def k81 (P : Params) : Obj := tO [sv "iso-8859-1" 1921]
noncomputable def k87 (P : Params) : Obj := q5s P
noncomputable def k88 (P : Params) : Obj := q5t P
noncomputable def k99 (P : Params) : Obj := cO "_unquote_match" "_unquote_match" 1939 40 1 0 0 3 94 95 .none (.ref 96) (.ref 97) (.ref 98) 1944 1945
noncomputable def k100 (P : Params) : Obj := fO "_unquote_match" "_unquote_match" (A0 19) "cpy313.email.quoprimime" 1404 99
noncomputable def k106 (P : Params) : Obj := cO "header_decode" "header_decode" 1947 43 1 0 0 3 101 102 .none (.ref 103) (.ref 104) (.ref 105) 1951 1952
noncomputable def k107 (P : Params) : Obj := fO "header_decode" "header_decode" (A0 20) "cpy313.email.quoprimime" 1404 106
noncomputable def k111 (P : Params) : Obj := tO [.int 14 0, .int 17 0, .int 4 0, .int 1 0, .int 1 0, .int 21 0, .int 9 0, .int 0 0, .int 604043296 0, .int 1 0, .int 0 0, .int 0 0, .int 0 0, .int 0 0, .int 0 0, .int 8 0, .int 4 0, .int 0 0, .int 13 0, .int 14 0, .int 21 0, .int 9 0, .int 0 0, .int 604043296 0, .int 1 0, .int 0 0, .int 0 0, .int 0 0, .int 0 0, .int 0 0, .int 8 0, .int 4 0, .int 0 0, .int 1 0]
noncomputable def k112 (P : Params) : Obj := ⟨.type "re.Pattern", none, .fields #[(sv "[^\\w@%+=:,./-]" 1955), .int 256 1992, .int 0 0, .none, .none, .ref 111, .int 0 0], #[]⟩
noncomputable def k125 (P : Params) : Obj := cO "_index" "_index" 2004 53 2 0 0 3 120 121 .none (.ref 122) (.ref 123) (.ref 124) 2009 2010
noncomputable def k126 (P : Params) : Obj := fO "_index" "_index" (A0 24) "io" 1994 125
noncomputable def k152 (P : Params) : Obj := cO "__new__" "IOBase.__new__" 2048 65 1 1 0 15 147 148 .none (.ref 149) (.ref 150) (.ref 151) 2054 2055
noncomputable def k153 (P : Params) : Obj := fO "__new__" "IOBase.__new__" (cAt (A0 26) 1) "io" 1994 152
noncomputable def k155 (P : Params) : Obj := dO 4 [ds P "__module__" 2041 "io" 2046, de P "__firstlineno__" 2045 (.int 62 2044), de P "__new__" 2056 (.ref 157), de P "__static_attributes__" 2057 (.ref 154), de P "__dict__" 2060 (.ref 158), de P "__weakref__" 2062 (.ref 159), de P "__doc__" 2063 .none]
noncomputable def k156 (P : Params) : Obj := ⟨.type "type", none, .cls { name := S "IOBase", bases := [.type "object"], mro := [.ref 156, .type "object"], ns := 155, qualname := S "IOBase", hasDict := true, slotNames := [], subclasses := [.ref 171, .ref 183], abstract := false, collection := none, hasDel := false : ClassData }, #[none, none, some (sv "IOBase" 2034), some (sv "IOBase" 2042), some .none, some (.bool true)]⟩
noncomputable def k157 (P : Params) : Obj := ⟨.type "staticmethod", none, .fields #[.ref 153], #[]⟩
noncomputable def k182 (P : Params) : Obj := dO 2 [ds P "__module__" 2091 "io" 2096, de P "__firstlineno__" 2095 (.int 71 2094), de P "__static_attributes__" 2098 (.ref 181), de P "__doc__" 2099 .none]
noncomputable def k183 (P : Params) : Obj := ⟨.type "type", none, .cls { name := S "TextIOBase", bases := [.ref 156], mro := [.ref 183, .ref 156, .type "object"], ns := 182, qualname := S "TextIOBase", hasDict := true, slotNames := [], subclasses := [.ref 660], abstract := false, collection := none, hasDel := false : ClassData }, #[some (.ref 174), none, some (sv "TextIOBase" 2084), some (sv "TextIOBase" 2092), some .none, some (.bool true)]⟩
noncomputable def k423 (P : Params) : Obj := tO [sv "" 2378, (.str (⟨#[10]⟩ : PySem.Str) 2379)]
noncomputable def k429 (P : Params) : Obj := cO "__init__" "StringIO.__init__" 2380 246 3 0 0 3 424 425 .none (.ref 426) (.ref 427) (.ref 428) 2386 2387
noncomputable def k430 (P : Params) : Obj := ⟨.type "function", none, .func { name := S "__init__", qualname := S "StringIO.__init__", params := fdA (cAt (A0 30) 1), body := .stmts (fdB (cAt (A0 30) 1)), scope := fdS (cAt (A0 30) 1), globals := 3, closure := [], defaults := .ref 423, kwdefaults := .none, doc := .none, pyModule := sv "io" 1994, annotations := none, code := .ref 429, closureTuple := .none, builtins := 0 : FuncData }, #[]⟩
noncomputable def k436 (P : Params) : Obj := cO "__translated" "StringIO.__translated" 2389 259 2 0 0 3 431 432 .none (.ref 433) (.ref 434) (.ref 435) 2395 2396
noncomputable def k437 (P : Params) : Obj := fO "__translated" "StringIO.__translated" (cAt (A0 30) 2) "io" 1994 436
noncomputable def k443 (P : Params) : Obj := cO "__check" "StringIO.__check" 2398 267 1 0 0 3 438 439 .none (.ref 440) (.ref 441) (.ref 442) 2402 2403
noncomputable def k444 (P : Params) : Obj := fO "__check" "StringIO.__check" (cAt (A0 30) 3) "io" 1994 443
noncomputable def k599 (P : Params) : Obj := tO [(.int (-1) 2571)]
noncomputable def k605 (P : Params) : Obj := cO "read" "StringIO.read" 2572 389 2 2 0 3 600 601 .none (.ref 602) (.ref 603) (.ref 604) 2579 2580
noncomputable def k606 (P : Params) : Obj := ⟨.type "function", none, .func { name := S "read", qualname := S "StringIO.read", params := fdA (cAt (A0 30) 25), body := .stmts (fdB (cAt (A0 30) 25)), scope := fdS (cAt (A0 30) 25), globals := 3, closure := [], defaults := .ref 599, kwdefaults := .none, doc := .none, pyModule := sv "io" 1994, annotations := none, code := .ref 605, closureTuple := .none, builtins := 0 : FuncData }, #[]⟩
noncomputable def k659 (P : Params) : Obj := dO 2 [ds P "__module__" 2371 "_io" 2376, de P "__firstlineno__" 2375 (.int 243 2374), de P "__init__" 2388 (.ref 430), de P "_StringIO__translated" 2397 (.ref 437), de P "_StringIO__check" 2404 (.ref 444), de P "_StringIO__check_dot" 2411 (.ref 451), de P "_StringIO__line" 2426 (.ref 458), de P "closed" 2434 (.ref 466), de P "line_buffering" 2442 (.ref 474), de P "newlines" 2450 (.ref 482), de P "encoding" 2458 (.ref 490), de P "errors" 2466 (.ref 498), de P "close" 2473 (.ref 505), de P "__enter__" 2480 (.ref 512), de P "__exit__" 2488 (.ref 519), de P "readable" 2495 (.ref 526), de P "writable" 2502 (.ref 533), de P "seekable" 2509 (.ref 540), de P "isatty" 2516 (.ref 547), de P "flush" 2523 (.ref 554), de P "fileno" 2530 (.ref 561), de P "detach" 2537 (.ref 568), de P "getvalue" 2544 (.ref 575), de P "tell" 2551 (.ref 582), de P "seek" 2561 (.ref 590), de P "truncate" 2569 (.ref 598), de P "read" 2581 (.ref 606), de P "readline" 2591 (.ref 614), de P "readlines" 2601 (.ref 622), de P "__iter__" 2608 (.ref 629), de P "__next__" 2616 (.ref 636), de P "write" 2628 (.ref 643), de P "writelines" 2636 (.ref 650), de P "__repr__" 2643 (.ref 657), de P "__static_attributes__" 2647 (.ref 658), de P "__doc__" 2648 .none]
noncomputable def k660 (P : Params) : Obj := ⟨.type "type", none, .cls { name := S "StringIO", bases := [.ref 183], mro := [.ref 660, .ref 183, .ref 156, .type "object"], ns := 659, qualname := S "StringIO", hasDict := true, slotNames := [], subclasses := [], abstract := false, collection := none, hasDel := false : ClassData }, #[some (.ref 416), none, some (sv "StringIO" 2364), some (sv "StringIO" 2372), some .none, some (.bool true)]⟩
noncomputable def k712 (P : Params) : Obj := tO [.none, .none, .bool false, .bool false]
noncomputable def k718 (P : Params) : Obj := cO "__init__" "shlex.__init__" 2724 515 5 0 0 3 713 714 .none (.ref 715) (.ref 716) (.ref 717) 2733 2734
noncomputable def k719 (P : Params) : Obj := ⟨.type "function", none, .func { name := S "__init__", qualname := S "shlex.__init__", params := fdA (cAt (A0 40) 0), body := .stmts (fdB (cAt (A0 40) 0)), scope := fdS (cAt (A0 40) 0), globals := 3, closure := [], defaults := .ref 712, kwdefaults := .none, doc := .none, pyModule := sv "cpy313.shlex" 2710, annotations := none, code := .ref 718, closureTuple := .none, builtins := 0 : FuncData }, #[]⟩
noncomputable def k725 (P : Params) : Obj := cO "punctuation_chars" "shlex.punctuation_chars" 2736 556 1 0 0 3 720 721 .none (.ref 722) (.ref 723) (.ref 724) 2740 2741
noncomputable def k726 (P : Params) : Obj := fO "punctuation_chars" "shlex.punctuation_chars" (cAt (A0 40) 1) "cpy313.shlex" 2710 725
noncomputable def k727 (P : Params) : Obj := ⟨.type "property", none, .fields #[.ref 726, .none, .none, .none, sv "punctuation_chars" 2743, .bool false], #[]⟩
noncomputable def k755 (P : Params) : Obj := cO "get_token" "shlex.get_token" 2768 583 1 0 0 3 750 751 .none (.ref 752) (.ref 753) (.ref 754) 2777 2778
noncomputable def k756 (P : Params) : Obj := fO "get_token" "shlex.get_token" (cAt (A0 40) 5) "cpy313.shlex" 2710 755
noncomputable def k762 (P : Params) : Obj := cO "read_token" "shlex.read_token" 2780 610 1 0 0 3 757 758 .none (.ref 759) (.ref 760) (.ref 761) 2788 2789
noncomputable def k763 (P : Params) : Obj := fO "read_token" "shlex.read_token" (cAt (A0 40) 6) "cpy313.shlex" 2710 762
noncomputable def k784 (P : Params) : Obj := cO "__iter__" "shlex.__iter__" 2808 757 1 0 0 3 779 780 .none (.ref 781) (.ref 782) (.ref 783) 2812 2813
noncomputable def k785 (P : Params) : Obj := fO "__iter__" "shlex.__iter__" (cAt (A0 40) 9) "cpy313.shlex" 2710 784
noncomputable def k791 (P : Params) : Obj := cO "__next__" "shlex.__next__" 2815 760 1 0 0 3 786 787 .none (.ref 788) (.ref 789) (.ref 790) 2820 2821
noncomputable def k792 (P : Params) : Obj := fO "__next__" "shlex.__next__" (cAt (A0 40) 10) "cpy313.shlex" 2710 791
noncomputable def k794 (P : Params) : Obj := dO 4 [ds P "__module__" 2719 "cpy313.shlex" 2710, de P "__firstlineno__" 2723 (.int 513 2722), de P "__init__" 2735 (.ref 719), de P "punctuation_chars" 2743 (.ref 727), de P "push_token" 2751 (.ref 734), de P "push_source" 2760 (.ref 742), de P "pop_source" 2767 (.ref 749), de P "get_token" 2779 (.ref 756), de P "read_token" 2790 (.ref 763), de P "sourcehook" 2798 (.ref 770), de P "error_leader" 2807 (.ref 778), de P "__iter__" 2814 (.ref 785), de P "__next__" 2822 (.ref 792), de P "__static_attributes__" 2843 (.ref 793), de P "__dict__" 2845 (.ref 796), de P "__weakref__" 2847 (.ref 797), de P "__doc__" 2848 .none]
noncomputable def k795 (P : Params) : Obj := ⟨.type "type", none, .cls { name := S "shlex", bases := [.type "object"], mro := [.ref 795, .type "object"], ns := 794, qualname := S "shlex", hasDict := true, slotNames := [], subclasses := [], abstract := false, collection := none, hasDel := false : ClassData }, #[none, none, some (sv "shlex" 2712), some (sv "shlex" 2720), some (.builtin "object.__new__"), some (.bool true)]⟩
noncomputable def k800 (P : Params) : Obj := tO [.bool false, .bool true]
noncomputable def k806 (P : Params) : Obj := cO "split" "split" 2851 765 3 0 0 3 801 802 .none (.ref 803) (.ref 804) (.ref 805) 2858 2859
noncomputable def k807 (P : Params) : Obj := ⟨.type "function", none, .func { name := S "split", qualname := S "split", params := fdA (A0 41), body := .stmts (fdB (A0 41)), scope := fdS (A0 41), globals := 3, closure := [], defaults := .ref 800, kwdefaults := .none, doc := .none, pyModule := sv "cpy313.shlex" 2710, annotations := none, code := .ref 806, closureTuple := .none, builtins := 0 : FuncData }, #[]⟩
noncomputable def k813 (P : Params) : Obj := cO "join" "join" 2861 773 1 0 0 3 808 809 .none (.ref 810) (.ref 811) (.ref 812) 2865 2866
noncomputable def k814 (P : Params) : Obj := fO "join" "join" (A0 42) "cpy313.shlex" 2710 813
noncomputable def k815 (P : Params) : Obj := ⟨.type "builtin_function_or_method", none, .fields #[.builtin "re.Pattern.search", .ref 112], #[]⟩
noncomputable def k821 (P : Params) : Obj := cO "quote" "quote" 2871 777 1 0 0 3 816 817 .none (.ref 818) (.ref 819) (.ref 820) 2875 2876
noncomputable def q0q (P : Params) : Obj := fO "quote" "quote" (A0 45) "cpy313.shlex" 2710 821
noncomputable def k828 (P : Params) : Obj := cO "sorted_list_difference" "sorted_list_difference" 2880 784 2 0 0 3 823 824 .none (.ref 825) (.ref 826) (.ref 827) 2891 2892
noncomputable def k829 (P : Params) : Obj := fO "sorted_list_difference" "sorted_list_difference" (A0 47) "cpy313.unittest.util" 2878 828
noncomputable def k835 (P : Params) : Obj := cO "three_way_cmp" "three_way_cmp" 2894 816 2 0 0 3 830 831 .none (.ref 832) (.ref 833) (.ref 834) 2899 2900
noncomputable def k836 (P : Params) : Obj := fO "three_way_cmp" "three_way_cmp" (A0 48) "cpy313.unittest.util" 2878 835
noncomputable def k840 (P : Params) : Obj := cO "_law_group" "_law_group" 2904 819 1 0 0 3 837 838 .none .none .none (.ref 839) 2907 2908
noncomputable def k841 (P : Params) : Obj := fO "_law_group" "_law_group" (A0 50) "law_il0190_01" 2902 840
noncomputable def k847 (P : Params) : Obj := cO "_law_piece" "_law_piece" 2910 821 1 0 0 3 842 843 .none (.ref 844) (.ref 845) (.ref 846) 2918 2919
noncomputable def k848 (P : Params) : Obj := fO "_law_piece" "_law_piece" (A0 51) "law_il0190_01" 2902 847
noncomputable def k854 (P : Params) : Obj := cO "_law_narrow" "_law_narrow" 2921 833 1 0 0 3 849 850 .none (.ref 851) (.ref 852) (.ref 853) 2933 2934
noncomputable def k855 (P : Params) : Obj := fO "_law_narrow" "_law_narrow" (A0 52) "law_il0190_01" 2902 854
noncomputable def k861 (P : Params) : Obj := cO "_law_packed" "_law_packed" 2936 850 2 0 0 3 856 857 .none (.ref 858) (.ref 859) (.ref 860) 2943 2944
noncomputable def k862 (P : Params) : Obj := fO "_law_packed" "_law_packed" (A0 53) "law_il0190_01" 2902 861
noncomputable def k866 (P : Params) : Obj := cO "_law_line" "_law_line" 2946 855 1 0 0 3 863 864 .none .none .none (.ref 865) 2949 2950
noncomputable def k867 (P : Params) : Obj := fO "_law_line" "_law_line" (A0 54) "law_il0190_01" 2902 866
noncomputable def k871 (P : Params) : Obj := cO "_law_back" "_law_back" 2952 857 2 0 0 3 868 869 .none .none .none (.ref 870) 2955 2956
noncomputable def k872 (P : Params) : Obj := fO "_law_back" "_law_back" (A0 55) "law_il0190_01" 2902 871
noncomputable def k878 (P : Params) : Obj := cO "_law_room" "_law_room" 2958 861 4 0 0 3 873 874 .none (.ref 875) (.ref 876) (.ref 877) 2968 2969
noncomputable def k879 (P : Params) : Obj := fO "_law_room" "_law_room" (A0 56) "law_il0190_01" 2902 878
noncomputable def k885 (P : Params) : Obj := cO "_law_counts" "_law_counts" 2971 870 3 0 0 3 880 881 .none (.ref 882) (.ref 883) (.ref 884) 2980 2981
noncomputable def k886 (P : Params) : Obj := fO "_law_counts" "_law_counts" (A0 57) "law_il0190_01" 2902 885
noncomputable def k890 (P : Params) : Obj := cO "_law_fewer" "_law_fewer" 2983 878 2 0 0 3 887 888 .none .none .none (.ref 889) 2986 2987
noncomputable def k891 (P : Params) : Obj := fO "_law_fewer" "_law_fewer" (A0 58) "law_il0190_01" 2902 890
noncomputable def k895 (P : Params) : Obj := cO "law" "law" 2989 886 1 0 0 3 892 893 .none .none .none (.ref 894) 2992 2993
noncomputable def q0r (P : Params) : Obj := fO "law" "law" (A0 59) "law_il0190_01" 2902 895
noncomputable def k413 (P : Params) : Obj := ⟨.type "type", none, .cls { name := S "BytesIO", bases := [.ref 171], mro := [.ref 413, .ref 171, .ref 156, .type "object"], ns := 412, qualname := S "BytesIO", hasDict := true, slotNames := [], subclasses := [], abstract := false, collection := none, hasDel := false : ClassData }, #[some (.ref 186), none, some (sv "BytesIO" 2102), some (sv "BytesIO" 2110), some .none, some (.bool true)]⟩
noncomputable def k809 (P : Params) : Obj := nO []
noncomputable def KK (P : Params) : Frag := [(nat_lit 0, k0 P), (nat_lit 2, k2 P), (nat_lit 3, k3 P), (nat_lit 48, k48 P), (nat_lit 49, k49 P), (nat_lit 57, k57 P), (nat_lit 66, k66 P), (nat_lit 72, k72 P), (nat_lit 73, k73 P), (nat_lit 79, k79 P), (nat_lit 80, k80 P), (nat_lit 81, k81 P), (nat_lit 87, k87 P), (nat_lit 88, k88 P), (nat_lit 99, k99 P), (nat_lit 100, k100 P), (nat_lit 106, k106 P), (nat_lit 107, k107 P), (nat_lit 111, k111 P), (nat_lit 112, k112 P), (nat_lit 125, k125 P), (nat_lit 126, k126 P), (nat_lit 152, k152 P), (nat_lit 153, k153 P), (nat_lit 155, k155 P), (nat_lit 156, k156 P), (nat_lit 157, k157 P), (nat_lit 182, k182 P), (nat_lit 183, k183 P), (nat_lit 423, k423 P), (nat_lit 429, k429 P), (nat_lit 430, k430 P), (nat_lit 436, k436 P), (nat_lit 437, k437 P), (nat_lit 443, k443 P), (nat_lit 444, k444 P), (nat_lit 599, k599 P), (nat_lit 605, k605 P), (nat_lit 606, k606 P), (nat_lit 659, k659 P), (nat_lit 660, k660 P), (nat_lit 712, k712 P), (nat_lit 718, k718 P), (nat_lit 719, k719 P), (nat_lit 725, k725 P), (nat_lit 726, k726 P), (nat_lit 727, k727 P), (nat_lit 755, k755 P), (nat_lit 756, k756 P), (nat_lit 762, k762 P), (nat_lit 763, k763 P), (nat_lit 784, k784 P), (nat_lit 785, k785 P), (nat_lit 791, k791 P), (nat_lit 792, k792 P), (nat_lit 794, k794 P), (nat_lit 795, k795 P), (nat_lit 800, k800 P), (nat_lit 806, k806 P), (nat_lit 807, k807 P), (nat_lit 813, k813 P), (nat_lit 814, k814 P), (nat_lit 815, k815 P), (nat_lit 821, k821 P), (nat_lit 822, q0q P), (nat_lit 828, k828 P), (nat_lit 829, k829 P), (nat_lit 835, k835 P), (nat_lit 836, k836 P), (nat_lit 840, k840 P), (nat_lit 841, k841 P), (nat_lit 847, k847 P), (nat_lit 848, k848 P), (nat_lit 854, k854 P), (nat_lit 855, k855 P), (nat_lit 861, k861 P), (nat_lit 862, k862 P), (nat_lit 866, k866 P), (nat_lit 867, k867 P), (nat_lit 871, k871 P), (nat_lit 872, k872 P), (nat_lit 878, k878 P), (nat_lit 879, k879 P), (nat_lit 885, k885 P), (nat_lit 886, k886 P), (nat_lit 890, k890 P), (nat_lit 891, k891 P), (nat_lit 895, k895 P), (nat_lit 896, q0r P), (nat_lit 413, k413 P)]
noncomputable def KK2 (P : Params) : Frag := KK P ++ [(nat_lit 809, k809 P)]
noncomputable def KA : List Addr := [nat_lit 0, nat_lit 2, nat_lit 3, nat_lit 48, nat_lit 49, nat_lit 57, nat_lit 66, nat_lit 72, nat_lit 73, nat_lit 79, nat_lit 80, nat_lit 81, nat_lit 87, nat_lit 88, nat_lit 99, nat_lit 100, nat_lit 106, nat_lit 107, nat_lit 111, nat_lit 112, nat_lit 125, nat_lit 126, nat_lit 152, nat_lit 153, nat_lit 155, nat_lit 156, nat_lit 157, nat_lit 182, nat_lit 183, nat_lit 423, nat_lit 429, nat_lit 430, nat_lit 436, nat_lit 437, nat_lit 443, nat_lit 444, nat_lit 599, nat_lit 605, nat_lit 606, nat_lit 659, nat_lit 660, nat_lit 712, nat_lit 718, nat_lit 719, nat_lit 725, nat_lit 726, nat_lit 727, nat_lit 755, nat_lit 756, nat_lit 762, nat_lit 763, nat_lit 784, nat_lit 785, nat_lit 791, nat_lit 792, nat_lit 794, nat_lit 795, nat_lit 800, nat_lit 806, nat_lit 807, nat_lit 813, nat_lit 814, nat_lit 815, nat_lit 821, nat_lit 822, nat_lit 828, nat_lit 829, nat_lit 835, nat_lit 836, nat_lit 840, nat_lit 841, nat_lit 847, nat_lit 848, nat_lit 854, nat_lit 855, nat_lit 861, nat_lit 862, nat_lit 866, nat_lit 867, nat_lit 871, nat_lit 872, nat_lit 878, nat_lit 879, nat_lit 885, nat_lit 886, nat_lit 890, nat_lit 891, nat_lit 895, nat_lit 896, nat_lit 413, nat_lit 809]
noncomputable abbrev q5u := PySem.W.Fast.tw4187177175401517315
theorem q4q : @openSeen = q5u := PySem.W.Fast.te4187177175401517315
noncomputable def nthS (i : Nat) : Stmt := nth pw.main.body i
noncomputable def qv : Program := { pw with main := { pw.main with body := [nthS 0, nthS 1, nthS 61] } }
noncomputable def loose : List PySem.Str := [S "_wall", S "twin_re_1_quoprimime", S "_QUOPRI_MAP", S "_QUOPRI_HEADER_MAP", S "_QUOPRI_BODY_MAP", S "ascii_lowercase", S "ascii_uppercase", S "ascii_letters", S "digits", S "_max_append", S "unquote", S "header_encode", S "_QUOPRI_BODY_ENCODE_MAP", S "_unquote_match", S "header_decode", S "twin_re_1_shlex", S "_whence", S "_index", S "UnsupportedOperation", S "IOBase", S "BufferedIOBase", S "TextIOBase", S "BytesIO", S "StringIO", S "_kind", S "_fspath", S "_check_arg_types", S "isabs", S "join", S "join_path", S "dirname", S "shlex", S "split", S "join_shlex", S "_find_unsafe", S "quote", S "sorted_list_difference", S "three_way_cmp", S "_law_group", S "_law_piece", S "_law_narrow", S "_law_packed", S "_law_line", S "_law_back", S "_law_room", S "_law_counts", S "_law_fewer"]
noncomputable def Xt (s : Shared) : Bool := xlAt qv [] s && recOk [] s
noncomputable def p6 : List PySem.Str := importedModules pw.main.body
noncomputable def m2 (h₀ h : Heap) : Bool := staticsOk p6 h₀ h && namesBound pw h && laidKept h₀ h
noncomputable def KV (w : World) : List (Option Obj) := (KK2 w.params).map fun p => some p.2
noncomputable def goF (w : World) (os : OsState) := H8 B3 pw w 34 ann 1 5326 (T_e w os) (th q0b ⟨37, 9, 37, 16⟩)
noncomputable def q5v (w : World) (os : OsState) (r : Flow × SharedT × Code × Pos) := (r.1, r.2.2.1, r.2.2.2, r.2.1.gens, m2 (T_0 w os).abs.heap r.2.1.abs.heap, q5u qv loose p6 Xt true r.2.1.abs, KA.map r.2.1.abs.heap.get?)
theorem f_f (w : World) (os : OsState) : (goF w os).map (q5v w os) = some (.next, cE, ⟨886, 0, 899, 37⟩, #[], true, openGood qv loose, KV w) := by rfl'
end
end
section
open PySem PySem.W PyProof.Rows
set_option maxHeartbeats 0
noncomputable section
theorem V5 {w : World} {s1 s2 s3 s4 : SharedT} {t1 t2 t3 : Thread} {n1 n2 n3 : Nat} {f : Flow} {c : Code} {q : Pos} (h1 : fGo B3 pw w 34 ann 1 n1 s1 t1 = some (s2, t2)) (h2 : fGo B3 pw w 34 ann 1 n2 s2 t2 = some (s3, t3))
  (h3 : H8 B3 pw w 34 ann 1 n3 s3 t3 = some (f, s4, c, q)) : segRun treeTable pw w 34 ann 1 (n1 + (n2 + n3)) s1.abs t1 = some (f, s4.abs, c, q) := by
 have h1' : segGoT treeTable pw w 34 ann 1 n1 s1 t1 = some (s2, t2) := by rw [q2U, R9]; exact h1
 have h2' : segGoT treeTable pw w 34 ann 1 n2 s2 t2 = some (s3, t3) := by rw [q2U, R9]; exact h2
 have h3' : segRunT treeTable pw w 34 ann 1 n3 s3 t3 = some (f, s4, c, q) := by rw [q1C, R9]; exact h3
 exact seg_go (segGo_of h1') (seg_go (segGo_of h2') (segRun_of h3'))
theorem q0c {w : World} {s3 s4 : SharedT} {t3 : Thread} {n3 : Nat} {f : Flow} {c : Code} {q : Pos}
  (h3 : H8 B3 pw w 34 ann 1 n3 s3 t3 = some (f, s4, c, q)) : segRun treeTable pw w 34 ann 1 n3 s3.abs t3 = some (f, s4.abs, c, q) := by
 have h3' : segRunT treeTable pw w 34 ann 1 n3 s3 t3 = some (f, s4, c, q) := by rw [q1C, R9]; exact h3
 exact segRun_of h3'
def Ran (l : List Stmt) (p p' : Pos) (s s' : World → OsState → SharedT) (w : World) : Prop := ∀ os, ∃ n, n ≤ 10000 ∧ segRun treeTable pw w 34 ann 1 n (s w os).abs (th l p) = some (.next, (s' w os).abs, cE, p')
theorem one {P : World → Prop} (h : ∀ (b : Bool) (w : World), P (r2 w b)) : ∀ w, P w := byRow2 "special-get-raises" (h false) (h true)
theorem two {P : World → Prop} (h : ∀ (c b : Bool) (w : World), P (r2 (r1 w c) b)) : ∀ w, P w :=
 one fun b => byRow2 "comprehension-iter-twice" (P := fun w => P (r2 w b)) (h false b) (h true b)
theorem c0 (w : World) (os : OsState) (n : Nat) : fGo B3 pw w 34 ann 1 n (T_a w os) (th z7 p0) = goB w os n := rfl
theorem q1D (w : World) (os : OsState) (n : Nat) : fGo B3 pw w 34 ann 1 n (T_b w os) (th z8 ⟨7, 0, 7, 11⟩) = goC w os n := rfl
theorem q1E (w : World) (os : OsState) (n : Nat) : fGo B3 pw w 34 ann 1 n (T_c w os) (th z9 ⟨15, 9, 15, 74⟩) = goD w os n := rfl
theorem q6g (w : World) (os : OsState) : H8 B3 pw w 34 ann 1 5326 (T_e w os) (th q0b ⟨37, 9, 37, 16⟩) = goF w os := rfl
theorem ran_b : ∀ w, Ran z7 p0 ⟨7, 0, 7, 11⟩ T_a T_b w := two fun c b w os => by
 cases c <;> cases b
 ·exact ⟨_, by decide, V5 ((c0 _ _ _).trans (b1_ff w os)) (b2 _ os _) (b3_ff w os)⟩
 ·exact ⟨_, by decide, V5 ((c0 _ _ _).trans (b1_ft w os)) (b2 _ os _) (b3_ft w os)⟩
 ·exact ⟨_, by decide, V5 ((c0 _ _ _).trans (b1_tf w os)) (b2 _ os _) (b3_tf w os)⟩
 ·exact ⟨_, by decide, V5 ((c0 _ _ _).trans (b1_tt w os)) (b2 _ os _) (b3_tt w os)⟩
theorem ran_c : ∀ w, Ran z8 ⟨7, 0, 7, 11⟩ ⟨15, 9, 15, 74⟩ T_b T_c w := one fun b w os => by
 cases b
 ·exact ⟨_, by decide, V5 ((q1D _ _ _).trans (c1_f w os)) (c2 _ os _) (c3_f w os)⟩
 ·exact ⟨_, by decide, V5 ((q1D _ _ _).trans (c1_t w os)) (c2 _ os _) (c3_t w os)⟩
theorem ran_d : ∀ w, Ran z9 ⟨15, 9, 15, 74⟩ ⟨18, 9, 18, 110⟩ T_c T_d w := one fun b w os => by
 cases b
 ·exact ⟨_, by decide, V5 ((q1E _ _ _).trans (d1_f w os)) (d2 _ os _) (d3_f w os)⟩
 ·exact ⟨_, by decide, V5 ((q1E _ _ _).trans (d1_t w os)) (d2 _ os _) (d3_t w os)⟩
theorem ran_e : ∀ w, Ran q0a ⟨18, 9, 18, 110⟩ ⟨37, 9, 37, 16⟩ T_d T_e w := one fun b w os => by
 cases b
 ·exact ⟨_, by decide, q0c (e_f w os)⟩
 ·exact ⟨_, by decide, q0c (e_t w os)⟩
theorem ran_f (w : World) (os : OsState) : ∃ s : SharedT, segRun treeTable pw w 34 ann 1 5326 (T_e w os).abs (th q0b ⟨37, 9, 37, 16⟩) = some (.next, s.abs, cE, ⟨886, 0, 899, 37⟩) ∧
  s.gens = #[] ∧ m2 (T_0 w os).abs.heap s.abs.heap = true ∧ openSeen qv loose p6 Xt true s.abs = openGood qv loose ∧ KA.map s.abs.heap.get? = KV w := by
 obtain ⟨⟨f, s, c, q⟩, e, e'⟩ := Option.map_eq_some_iff.mp (f_f w os)
 unfold q5v at e'
 simp only [Prod.mk.injEq] at e'
 obtain ⟨rfl, rfl, rfl, e1, e2, e3, e4⟩ := e'
 exact ⟨s, q0c ((q6g _ _).trans e), e1, e2, by rw [q4q]; exact e3, e4⟩
theorem q2Y : behindTheImports pw = z7 ++ (z8 ++ (z9 ++ (q0a ++ (q0b ++ [])))) := by
 have h : ∀ l : List Stmt, l = l.take 3 ++ ((l.drop 3).take 8 ++ ((l.drop 11).take 2 ++ ((l.drop 13).take 5 ++ (l.drop 18 ++ [])))) := by
  intro l
  rw [List.append_nil]
  have e1 : l.drop 18 = (l.drop 13).drop 5 := by rw [List.drop_drop]
  have e2 : l.drop 13 = (l.drop 11).drop 2 := by rw [List.drop_drop]
  have e3 : l.drop 11 = (l.drop 3).drop 8 := by rw [List.drop_drop]
  rw [e1, List.take_append_drop, e2, List.take_append_drop, e3, List.take_append_drop, List.take_append_drop]
 exact h (behindTheImports pw)
theorem q4r {w : World} {c : Code} {q : Pos} (s : Shared) : topRun treeTable pw w 34 ann 2 s ⟨doneF .next, c, q, [topFrame p0]⟩ = some s := by
 obtain ⟨_, _, _, _, _⟩ := s
 rfl
theorem q6h (w : World) (os : OsState) : ∃ M, M ≤ 60000 ∧ ∃ s : SharedT, topRun treeTable pw w 34 ann M (T_0 w os).abs (topStub pw) = some s.abs ∧
  s.gens = #[] ∧ m2 (T_0 w os).abs.heap s.abs.heap = true ∧ openSeen qv loose p6 Xt true s.abs = openGood qv loose ∧ KA.map s.abs.heap.get? = KV w := by
 obtain ⟨nb, lb, hb⟩ := ran_b w os
 obtain ⟨nc, lc, hc⟩ := ran_c w os
 obtain ⟨nd, ld, hd⟩ := ran_d w os
 obtain ⟨ne, le, he⟩ := ran_e w os
 obtain ⟨s, hf, facts⟩ := ran_f w os
 have k5 := piece_app (rest := []) hf (piece_nil (q4r s.abs))
 have k4 := piece_app he k5
 have k3 := piece_app hd k4
 have k2 := piece_app hc k3
 have k1 := piece_app hb k2
 rw [← q2Y] at k1
 have k0 := piece_block (q0c (blk_f w os)) k1
 have pre : topGo treeTable pw w 34 ann 12 (T_0 w os).abs (topStub pw) = some ((T_a w os).abs, ⟨denote treeTable cE, cE, p0, Bf⟩) := by
  rw [q2V, q6e, R9]; exact pre_f w os
 exact ⟨_, by omega, s, go_top pre k0, facts⟩
noncomputable abbrev osF : OsState := (Z3 (opening pw)).1.os
theorem opens (w : World) : fencedOpening treeTable pw w 70000 = some (T_0 w osF).abs := by
 have h := q6f w
 rw [← q6d, ← v9, ← q2W, ← R9] at h
 obtain ⟨s, h1, h2⟩ := Option.bind_eq_some_iff.mp h
 unfold fencedOpening
 rw [importEnds_mono (70000 - 1200) 1200 _ _ _ h1]
 show fenceModules? pw s = _
 rw [h2, v9]
theorem left : LeftO pw qv loose Xt (fun s => KA.map s.heap.get?) KV 70000 := fun w => by
 obtain ⟨M, hM, s, hrun, hg, hl, hs, hk⟩ := q6h w osF
 have hr := topRun_mono (70000 - M) _ _ _ _ hrun
 rw [show M + (70000 - M) = 70000 by omega] at hr
 have hz : ((T_0 w osF).abs.heap.isNs mainGlobals && (T_0 w osF).abs.gens.size == 0, (T_0 w osF).abs.heap.objs.size, (T_0 w osF).abs.heap.nsMap mainGlobals "__annotations__") = (true, 34, ann) := by rfl'
 simp only [Prod.mk.injEq] at hz
 unfold openEnds
 rw [opens w]
 show Option.map _ (topFrom treeTable pw w 70000 (T_0 w osF).abs) = _
 have ht : topFrom treeTable pw w 70000 (T_0 w osF).abs = some s.abs := by
  unfold topFrom
  rw [hz.1, hz.2.1, hz.2.2]
  dsimp only
  rw [hr]
  have hl' := hl
  unfold m2 p6 at hl'
  simp only [Bool.and_eq_true] at hl'
  have hgd : gensDone s.abs = true := by
   unfold gensDone
   show (s.gens.toList.all _) = true
   rw [hg]; rfl
  show (match staticsOk (importedModules pw.main.body) (T_0 w osF).abs.heap s.abs.heap && namesBound pw s.abs.heap && gensDone s.abs && laidKept (T_0 w osF).abs.heap s.abs.heap with | true => some s.abs | false => none) = some s.abs
  rw [hl'.1.1, hl'.1.2, hl'.2, hgd]
  rfl
 rw [ht]
 show some (openSeen qv loose p6 Xt true s.abs, KA.map s.abs.heap.get?) = _
 rw [hs, hk]
end
end
section
open PySem PySem.W PyProof.Rows
set_option maxHeartbeats 0
noncomputable section
theorem said : PySem.Challenge.rw_il0190_01.wellSaid = true := by
 rw [PySem.W.Fast.te9446332074065402090]
 rfl'
noncomputable def q2Z : DefRec := ⟨S "law", fdA (A0 59), fdB (A0 59), fdS (A0 59), ⟨886, 0, 899, 37⟩⟩
theorem hd (walk : WalkO qv loose (XL qv []) (InK KK2) PySem.Challenge.rw_il0190_01.row.toRowW q2Z [] fun f vs => PySem.call f vs) : PySem.Challenge.rw_il0190_01.Holds :=
 holds_law said fun _ => holds_open (q := qv) (loose := loose) (Xt := Xt) (XP := XL qv []) (Yf := fun s => KA.map s.heap.get?) (Ya := KV) (YP := InK KK2) (d := q2Z) (kwd := []) (N := 70000) left (fun w s e => InK.of (as := KA) (fun P => by rfl') w s e) InK.keeps
  (fun s e => xl_of s (Bool.and_eq_true_iff.mp e).1) XL.keeps (by rfl') (by rfl') (by rfl') (fun s e => recFacts_of (Bool.and_eq_true_iff.mp e).2) (by first | rfl | decide) (row_said said) (by decide +kernel) ⟨rfl, rfl, rfl, rfl, rfl, by decide +kernel⟩ (by w_witness2) walk
end
end
open PySem PySem.W PySem.Calls PyProof.Rows
abbrev q9V := @List.getElem?_append_left
abbrev q9W := @List.getElem?_eq_some_iff
abbrev q9X := @Heap.get?_push_of_some
abbrev q9Y := @List.mem_iff_getElem
abbrev q9Z := @List.getElem?_eq_getElem
abbrev v0a := @Heap.lt_size
abbrev v0b := @List.nodup_append
abbrev v0c := @List.mem_singleton
abbrev v0d := @List.getElem?_append_right
abbrev v0e := @Heap.get?_push_size
abbrev v0f := @List.mem_append
abbrev v0g := @Heap.get?_none_of_le
abbrev v0h := @Nat.le_refl
abbrev v0i := @List.mem_of_getElem?
abbrev v0j := @List.getElem?_set_self
abbrev v0k := @Heap.get?_update_self
abbrev v0l := @List.getElem?_set_ne
abbrev v0m := @List.getElem_inj
abbrev v0n := @List.lookup_cons
abbrev v0o := @Bool.false_ne_true
abbrev v0p := @List.size_toArray
abbrev v0q := @Nat.sub_self
abbrev v0r := @Bool.and_eq_true_iff
abbrev v0s := @Bool.and_eq_true
abbrev v0t := @Nat.eq_of_beq_eq_true
abbrev v0u := @Nat.lt_succ_self
abbrev v0v := @Nat.le_of_ble_eq_true
abbrev v0w := @List.all_eq_true
abbrev v0x := @List.mem_cons_self
abbrev v0y := @List.mem_cons_of_mem
abbrev v0z := @List.mem_map
abbrev v0A := @Option.isSome_iff_exists
abbrev v0B := @List.foldl_cons
abbrev v0C := @Bool.false_eq_true
abbrev v0D := @Array.length_toList
abbrev v0E := @Heap.size_push
abbrev v0F := @List.mem_cons
abbrev v0G := @List.length_append
abbrev v0H := @List.append_nil
abbrev v0I := @List.length_map
abbrev v0J := @List.getD_eq_getElem?_getD
abbrev v0K := @List.map_cons
abbrev v0L := @List.getElem?_map
abbrev v0M := @List.map_append
abbrev v0N := @List.range_succ
abbrev v0O := @List.take_add_one
abbrev v0P := @List.append_assoc
abbrev v0Q := @List.mem_range
abbrev v0R := @List.take_length
abbrev v0S := @Nat.le_trans
abbrev v0T := @List.mem_filterMap
abbrev v0U := @List.length_cons
abbrev v0V := @List.sum_cons
abbrev v0W := @List.map_map
abbrev v0X := @List.length_range
abbrev v0Y := @List.eq_nil_of_length_eq_zero
abbrev v0Z := @Array.getD_eq_getD_getElem?
abbrev v1a := @List.getElem?_toArray
abbrev v1b := @Nat.exists_eq_add_of_le
abbrev v1c := @List.filter_cons
abbrev v1d := @wpAny_loadName_local
abbrev v1e := @wpAny_bind
abbrev v1f := @wpAny_standAt
abbrev v1g := @wpAny_holding
abbrev v1h := @wpAny_pure
abbrev v1i := @wpAny_newObj_type
abbrev v1j := @wpAny_mono
abbrev v1k := @wpAny_of_eq
abbrev v1l := @wpAny_storeName_local
abbrev v1m := @wpAny_execs_cons
abbrev v1n := @wpAny_execs_nil
abbrev v1o := @wpAny_assign_Name
abbrev v1p := @wpAny_updateSeq
abbrev v1q := @wpAny_call
abbrev v1r := @wpAny_ite_true
abbrev v1s := @wpAny_ite_false
theorem small {G : Prop} (h : ∀ G' : Prop, (G → G') → G') : G := h G id
theorem T7 {M : Model} {A : Around} {s : Shared} {β : Type} {t : Sem β} {Q : β → Shared → Prop} {E : Value → Shared → Prop} (h : ∀ (Q' : β → Shared → Prop) (E' : Value → Shared → Prop), (∀ a s, Q a s → Q' a s) → (∀ e s, E e s → E' e s) → wpAny M A t Q' E' s) : wpAny M A t Q E s := h Q E (fun _ _ h => h) fun _ _ h => h
theorem T8 {M : Model} {A : Around} {s : Shared} {β : Type} {t : Sem β} {Q : β → Shared → Prop} {E : Value → Shared → Prop} (h : ∀ Q' : β → Shared → Prop, wpAny M A t Q' E s) : wpAny M A t Q E s := h Q
inductive AV where
 | none | bool (b : Bool) | int (i : Int) | str (l : List Nat) | bytes (l : List UInt8) | ref (i : Nat) | ext (v : Value)
inductive AO where
 | lst (xs : List AV) | tup (xs : List AV) | cell (v : AV) | raw (o : Obj) | rng (a b c : Int) | lsS (ls : List (List Nat)) | lsI (is : List Int) | lsB (bs : List (List UInt8))
 | inst (C : Addr) (j : Nat) | attrs (l : List (Str × AV)) | jtab
noncomputable abbrev Loc := List (Str × AV)
noncomputable abbrev Sto := List AO
def VR (α : List Addr) : AV → Value → Prop
 | .none, v => v = .none
 | .bool b, v => v = .bool b
 | .int i, v => ∃ t, v = .int i t
 | .str l, v => ∃ t, v = .str ⟨l.toArray⟩ t
 | .bytes l, v => ∃ t, v = .bytes l.toArray t
 | .ref i, v => ∃ a, α[i]? = some a ∧ v = .ref a
 | .ext u, v => v = u
theorem VR.mono {α β : List Addr} {a : AV} {v : Value} (h : VR α a v) : VR (α ++ β) a v := by
 cases a <;> try exact h
 obtain ⟨x, hx, e⟩ := h
 exact ⟨x, by rw [q9V (q9W.mp hx).1]; exact hx, e⟩
def VRs (α : List Addr) (as : List AV) : List Value → Prop := List.rec (motive := fun _ => List Value → Prop) (fun vs => List.casesOn vs True fun _ _ => False) (fun a _ ih vs => List.casesOn vs False fun v vs => VR α a v ∧ ih vs) as
theorem VRs.ind {α : List Addr} {P : List AV → List Value → Prop} (h0 : P [] []) (h1 : ∀ a as v vs, VR α a v → VRs α as vs → P as vs → P (a :: as) (v :: vs)) (as : List AV) : ∀ vs, VRs α as vs → P as vs := by
 induction as with
 | nil => intro vs h; cases vs with
  | nil => exact h0
  | cons _ _ => exact False.elim h
 | cons a as ih => intro vs h; cases vs with
  | nil => exact False.elim h
  | cons v vs => exact h1 a as v vs h.1 h.2 (ih vs h.2)
theorem VRs.mono {α β : List Addr} {as : List AV} {vs : List Value} (h : VRs α as vs) : VRs (α ++ β) as vs := VRs.ind (P := VRs (α ++ β)) trivial (fun _ _ _ _ r _ ih => ⟨r.mono, ih⟩) as vs h
theorem VRs.length {α : List Addr} {as : List AV} {vs : List Value} (h : VRs α as vs) : as.length = vs.length := VRs.ind (P := fun as vs => as.length = vs.length) rfl (fun _ _ _ _ _ _ ih => congrArg (· + 1) ih) as vs h
theorem VRs.append {α : List Addr} {as bs : List AV} {vs us : List Value} (h : VRs α as vs) (k : VRs α bs us) : VRs α (as ++ bs) (vs ++ us) := VRs.ind (P := fun as vs => VRs α (as ++ bs) (vs ++ us)) k (fun _ _ _ _ r _ ih => ⟨r, ih⟩) as vs h
theorem VRs.at {α : List Addr} {as : List AV} {vs : List Value} {i : Nat} {a : AV} (h : VRs α as vs) (e : as[i]? = some a) : ∃ v, vs[i]? = some v ∧ VR α a v := by
 revert i
 refine VRs.ind (P := fun as vs => ∀ {i : Nat}, as[i]? = some a → ∃ v, vs[i]? = some v ∧ VR α a v) (fun e => by cases e) (fun b as v vs r _ ih i e => ?_) as vs h
 cases i with
 | zero => cases e; exact ⟨v, rfl, r⟩
 | succ i => exact ih e
theorem VRs.set {α : List Addr} {a : AV} {v : Value} (h : VR α a v) (as : List AV) (vs : List Value) (i : Nat) (r : VRs α as vs) : VRs α (as.set i a) (vs.set i v) := by
 revert i
 refine VRs.ind (P := fun as vs => ∀ i : Nat, VRs α (as.set i a) (vs.set i v)) (fun _ => trivial) (fun b as w vs r r2 ih i => ?_) as vs r
 cases i with
 | zero => exact ⟨h, r2⟩
 | succ i => exact ⟨r, ih i⟩
def LRep (α : List Addr) (xs : List AV) (o : Obj) : Prop := o.cls = .type "list" ∧ (o.dict = none ∧ o.slots = #[]) ∧ ∃ vs n, o.data = .seq vs n ∧ VRs α xs vs.toList
theorem LRep.mono {α β : List Addr} {xs : List AV} {o : Obj} (h : LRep α xs o) : LRep (α ++ β) xs o := by
 obtain ⟨c, z, vs, n, d, r⟩ := h; exact ⟨c, z, vs, n, d, r.mono⟩
noncomputable def AO.items : AO → Option (List AV)
 | .lst xs => some xs
 | .lsS ls => some (ls.map .str)
 | .lsI is => some (is.map .int)
 | .lsB bs => some (bs.map .bytes)
 | _ => none
noncomputable def AO.len : AO → Option Nat
 | .lst xs => some xs.length
 | .lsS ls => some ls.length
 | .lsI is => some is.length
 | .lsB bs => some bs.length
 | _ => none
theorem AO.len_items {a : AO} {n : Nat} (h : a.len = some n) : ∃ xs, a.items = some xs ∧ xs.length = n := by
 cases a <;> first | (cases h; exact ⟨_, rfl, by simp⟩) | (cases h)
def ER (α : List Addr) : List (Str × AV) → List DictEntry → Prop
 | [], [] => True
 | p :: l, e :: es => (∃ t, e.key = .str p.1 t) ∧ VR α p.2 e.val ∧ ER α l es
 | _, _ => False
theorem ER.mono {α β : List Addr} {l : List (Str × AV)} : ∀ {es : List DictEntry}, ER α l es → ER (α ++ β) l es := by
 induction l with
 | nil => intro es h; cases es with
  | nil => exact trivial
  | cons _ _ => exact h.elim
 | cons p l ih => intro es h; cases es with
  | nil => exact h.elim
  | cons e es => exact ⟨h.1, h.2.1.mono, ih h.2.2⟩
noncomputable def jP : Addr := 809
def OR (α : List Addr) : AO → Obj → Prop
 | .lst xs, o => LRep α xs o
 | .lsS ls, o => LRep α (ls.map .str) o
 | .lsI is, o => LRep α (is.map .int) o
 | .lsB bs, o => LRep α (bs.map .bytes) o
 | .tup xs, o => o.cls = .type "tuple" ∧ o.dict = none ∧ ∃ vs n, o.data = .seq vs n ∧ VRs α xs vs.toList
 | .cell v, o => ∃ u, o.data = .cell (some u) ∧ VR α v u
 | .raw ob, o => o = ob
 | .rng a b c, o => ∃ t u v, o = { cls := .type "range", dict := none, data := .fields #[.int a t, .int b u, .int c v], slots := #[] }
 | .inst C j, o => ∃ a, α[j]? = some a ∧ o = instObj C a
 | .attrs l, o => ∃ es n, o = dictOf es n ∧ ER α l es
 | .jtab, o => α[0]? = some jP ∧ ∃ ps : Array Value, o = { cls := .none, data := .fields ps } ∧ TriplesOk ps.toList
theorem OR.mono {α β : List Addr} {x : AO} {o : Obj} (h : OR α x o) : OR (α ++ β) x o := by
 cases x with
 | lst xs => exact LRep.mono h
 | lsS xs => exact LRep.mono h
 | lsI xs => exact LRep.mono h
 | lsB xs => exact LRep.mono h
 | tup xs => obtain ⟨c, z, vs, n, d, r⟩ := h; exact ⟨c, z, vs, n, d, r.mono⟩
 | cell v => obtain ⟨u, d, r⟩ := h; exact ⟨u, d, r.mono⟩
 | raw o => exact h
 | rng a b c => exact h
 | inst C j => obtain ⟨a, e, r⟩ := h; exact ⟨a, by rw [q9V (q9W.mp e).1]; exact e, r⟩
 | attrs l => obtain ⟨es, n, e, r⟩ := h; exact ⟨es, n, e, r.mono⟩
 | jtab => exact ⟨by rw [q9V (q9W.mp h.1).1]; exact h.1, h.2⟩
theorem OR.rep {α : List Addr} {x : AO} {o : Obj} {xs : List AV} (h : OR α x o) (e : x.items = some xs) : LRep α xs o := by
 cases x <;> first | (cases e; exact h) | (cases e)
theorem OR.of {α : List Addr} {x : AO} {o : Obj} {xs : List AV} (h : LRep α xs o) (e : x.items = some xs) : OR α x o := by
 cases x <;> first | (cases e; exact h) | (cases e)
structure HS (α : List Addr) (sto : Sto) (h : Heap) : Prop where
 len : α.length = sto.length
 nd : α.Nodup
 cell : ∀ (i : Nat) (o : AO), sto[i]? = some o → ∃ (a : Addr) (ob : Obj), α[i]? = some a ∧ h.get? a = some ob ∧ OR α o ob
def LR (α : List Addr) (loc : Loc) (m : Str → Option Value) : Prop := ∀ x v, loc.lookup x = some v → ∃ u, m x = some u ∧ VR α v u
def Keep (fs : List Addr) (h₀ h : Heap) : Prop := ∀ b o, h₀.get? b = some o → (b ∉ fs → h.get? b = some o) ∧ ∃ sl, h.get? b = some { o with slots := sl }
theorem Keep.of {fs : List Addr} {h₀ h : Heap} (k : ∀ b o, h₀.get? b = some o → h.get? b = some o) : Keep fs h₀ h := fun b o e => ⟨fun _ => k b o e, o.slots, k b o e⟩
theorem Keep.then {fs : List Addr} {h₀ h h' : Heap} (K : Keep fs h₀ h) (k : ∀ b o, (∃ o₀, h₀.get? b = some o₀) → h.get? b = some o → h'.get? b = some o) : Keep fs h₀ h' := fun b o e =>
 let ⟨a, sl, d⟩ := K b o e; ⟨fun n => k b o ⟨o, e⟩ (a n), sl, k b _ ⟨o, e⟩ d⟩
theorem Keep.comp {fs : List Addr} {h₀ h h' : Heap} (K : Keep fs h₀ h) (k : ∀ b o, (∃ o₀, h₀.get? b = some o₀) → h.get? b = some o → (b ∉ fs → h'.get? b = some o) ∧ ∃ sl, h'.get? b = some { o with slots := sl }) : Keep fs h₀ h' := fun b o e =>
 let ⟨a, _, d⟩ := K b o e; let ⟨_, sl, f⟩ := k b _ ⟨o, e⟩ d; ⟨fun n => (k b o ⟨o, e⟩ (a n)).1 n, sl, f⟩
theorem Keep.get {fs : List Addr} {h₀ h : Heap} (K : Keep fs h₀ h) {b : Addr} {o : Obj} (e : h₀.get? b = some o) : ∃ o', h.get? b = some o' := let ⟨_, _, d⟩ := K b o e; ⟨_, d⟩
theorem Keep.none {fs : List Addr} {h₀ h : Heap} (K : Keep fs h₀ h) {b : Addr} (e : h.get? b = .none) : h₀.get? b = .none := by
 cases q : h₀.get? b with
 | none => rfl
 | some o => obtain ⟨o', d⟩ := K.get q; rw [e] at d; cases d
structure FrX (fs : List Addr) (h₀ : Heap) (L : Addr) (h : Heap) (m : Str → Option Value) : Prop where
 ns : h.Ns L m
 keep : Keep fs h₀ h
 off : h₀.get? L = none
theorem FrX.set {fs : List Addr} {h₀ h h' : Heap} {L : Addr} {m m' : Str → Option Value} (F : FrX fs h₀ L h m) (hn : h'.Ns L m') (hs : Heap.SameBut L h h') : FrX fs h₀ L h' m' :=
 ⟨hn, F.keep.then fun b o ⟨_, e⟩ d => (hs.2 b fun q => by rw [q, F.off] at e; cases e).trans d, F.off⟩
theorem FrX.k {fs : List Addr} {h₀ h h' : Heap} {L : Addr} {m : Str → Option Value} (F : FrX fs h₀ L h m) (k : ∀ b o, h.get? b = some o → h'.get? b = some o) : FrX fs h₀ L h' m :=
 ⟨F.ns.at' fun o e => k _ o e, F.keep.then fun b o _ e => k b o e, F.off⟩
theorem FrX.kBut {fs : List Addr} {h₀ h h' : Heap} {L : Addr} {m : Str → Option Value} {S : List Addr} (F : FrX fs h₀ L h m) (hL : L ∉ S) (hS : ∀ b ∈ S, h₀.get? b = none) (k : ∀ b o, b ∉ S → h.get? b = some o → h'.get? b = some o) : FrX fs h₀ L h' m :=
 ⟨F.ns.at' fun o e => k _ o hL e, F.keep.then fun b o ⟨_, e⟩ d => k b o (fun q => by rw [hS b q] at e; cases e) d, F.off⟩
structure SX where
 w : World
 fr : Bool
 d : Nat
 scope : Scope
 cm : List (Str × Nat)
structure Cx where
 A : Around
 base : Heap
 fs : List Addr
 h₀ : Heap
 outer : List Env
 env : Env
 os : OsState
 gd : Array GenState × Drawn
structure TopX (mg mb : Str → Option Value) (h : Heap) : Prop where
 g : h.Ns mainGlobals mg
 b : h.Ns builtinsNs mb
 nolimit : h.NoLimit
 builtins : ∀ x : Str, x ≠ "__name__" → mb x = bootBuiltins x
 bmain : ∃ bm ob, mg "__builtins__" = some (.ref bm) ∧ bm ≠ builtinsNs ∧ h.get? bm = some ob ∧ ob.cls = .type "module" ∧ ob.dict = some builtinsNs ∧ ob.data = .plain
theorem TopX.keeps {mg mb : Str → Option Value} {h h' : Heap} (T : TopX mg mb h) (k : ∀ b o, h.get? b = some o → h'.get? b = some o) : TopX mg mb h' := ⟨T.g.keeps k, T.b.keeps k, T.nolimit.keeps k, T.builtins, by obtain ⟨bm, ob, h1, h2, h3, r⟩ := T.bmain; exact ⟨bm, ob, h1, h2, k _ _ h3, r⟩⟩
structure Ok (x : SX) (c : Cx) : Prop where
 below : x.fr = true → c.A.frames = some c.outer ∧ (∀ b ∈ c.outer.filterMap (·.frame), b ∈ c.fs) ∧ ∀ h m, FrX c.fs c.h₀ c.env.locals h m → h.FunFrames c.base c.outer
 sub : c.base.StaysIn c.h₀
 dis : ∀ b ∈ c.fs, c.base.get? b = none
 fd : ∀ b ∈ c.fs, b = c.env.locals ∨ ∃ o, c.h₀.get? b = some o
 gnd : (KK x.w.params).In c.base
 top : ∃ mg mb, TopX mg mb c.base
 hh : c.A.handled = none
 dep : c.A.depth + x.d < recursionLimit
 units : c.A.units + 5 * x.d + 200 < cLine
 kind : c.env.scope.kind = .function
 scope : c.env.scope = x.scope
 glob : c.env.globals = mainGlobals
 bi : c.env.builtins = builtinsNs
def q3a (fr : Bool) (gs : Array GenState) (dr : Drawn) (gd : Array GenState × Drawn) : Prop := match fr with
 | true => AllBare gs
 | false => gs = gd.1 ∧ dr = gd.2
structure Sat (x : SX) (c : Cx) (α : List Addr) (loc : Loc) (sto : Sto) (s : Shared) : Prop where
 fr : ∃ m, FrX c.fs c.h₀ c.env.locals s.heap m ∧ LR α loc m
 hs : HS α sto s.heap
 off : ∀ a ∈ α, a ≠ c.env.locals ∧ c.h₀.get? a = none
 os : s.os = c.os
 gens : q3a x.fr s.gens s.drawn c.gd
 cel : ∀ (y : Str) (i : Nat), x.cm.lookup y = some i → ∃ a : Addr, α[i]? = some a ∧ c.env.cells.lookup y = some a
def Ex (α α' : List Addr) : Prop := ∃ β, α' = α ++ β
theorem Ex.refl {α : List Addr} : Ex α α := ⟨[], by simp⟩
theorem Ex.trans {α α₁ α₂ : List Addr} (g : Ex α α₁) (k : Ex α₁ α₂) : Ex α α₂ := by
 obtain ⟨β, rfl⟩ := g
 obtain ⟨γ, rfl⟩ := k
 exact ⟨β ++ γ, by simp⟩
theorem Ex.vr {α α' : List Addr} (g : Ex α α') {a : AV} {v : Value} (h : VR α a v) : VR α' a v := by obtain ⟨β, rfl⟩ := g; exact h.mono
theorem Ex.vrs {α α' : List Addr} (g : Ex α α') {a : List AV} {v : List Value} (h : VRs α a v) : VRs α' a v := by obtain ⟨β, rfl⟩ := g; exact h.mono
theorem Ex.or {α α' : List Addr} (g : Ex α α') {a : AO} {v : Obj} (h : OR α a v) : OR α' a v := by obtain ⟨β, rfl⟩ := g; exact h.mono
theorem Ex.push {α : List Addr} {a : Addr} : Ex α (α ++ [a]) := ⟨_, rfl⟩
section
variable {x : SX} {c : Cx} {α : List Addr} {loc : Loc} {sto : Sto} {s : Shared}
theorem Sat.toks (S : Sat x c α loc sto s) (n : Nat) : Sat x c α loc sto { s with toks := n } := ⟨S.fr, S.hs, S.off, S.os, S.gens, S.cel⟩
theorem Sat.heapK (S : Sat x c α loc sto s) {h' : Heap} {n : Nat} (k : ∀ b o, s.heap.get? b = some o → h'.get? b = some o) : Sat x c α loc sto { s with heap := h', toks := n } := by
 obtain ⟨⟨m, F, l⟩, ⟨ln, nd, ce⟩, off, os, gens, cel⟩ := S
 refine ⟨⟨m, F.k k, l⟩, ⟨ln, nd, fun i o e => ?_⟩, off, os, gens, cel⟩
 obtain ⟨a, ob, h1, h2, h3⟩ := ce i o e
 exact ⟨a, ob, h1, k _ _ h2, h3⟩
theorem Ok.stay (O : Ok x c) {L : Addr} {h : Heap} {m : Str → Option Value} (F : FrX c.fs c.h₀ L h m) : c.base.StaysIn h := fun b o e => (F.keep b o (O.sub b o e)).1 fun q => by rw [O.dis b q] at e; cases e
theorem Sat.stay (S : Sat x c α loc sto s) (O : Ok x c) : c.base.StaysIn s.heap := let ⟨_, F, _⟩ := S.fr; O.stay F
theorem Sat.gnd (S : Sat x c α loc sto s) (O : Ok x c) : (KK x.w.params).In s.heap := O.gnd.keeps (S.stay O)
theorem Sat.push (S : Sat x c α loc sto s) {ao : AO} {o : Obj} {n : Nat} (h : OR α ao o) (hf : o.isFreed = false) :
  Sat x c (α ++ [s.heap.objs.size]) loc (sto ++ [ao]) { s with heap := s.heap.push o, toks := n } := by
 have k : ∀ b o', s.heap.get? b = some o' → (s.heap.push o).get? b = some o' := fun b o' e => q9X _ e
 obtain ⟨⟨m, F, l⟩, ⟨ln, nd, ce⟩, off, os, gens, cel⟩ := S
 have lt : ∀ a ∈ α, a < s.heap.objs.size := fun a ha => by
  obtain ⟨i, hi, e⟩ := q9Y.mp ha
  obtain ⟨a', ob, h1, h2, _⟩ := ce i _ (q9Z (ln ▸ hi))
  rw [q9Z hi, e] at h1; cases h1
  exact v0a h2
 refine ⟨⟨m, F.k k, fun y v e => ?_⟩, ⟨by simp [ln], ?_, fun i o' e => ?_⟩, fun a ha => ?_, os, gens, fun y i e => ?_⟩
 ·obtain ⟨u, h1, h2⟩ := l y v e; exact ⟨u, h1, h2.mono⟩
 ·rw [v0b]
  refine ⟨nd, by simp, fun a ha b hb => ?_⟩
  cases v0c.mp hb
  exact Nat.ne_of_lt (lt a ha)
 ·by_cases hi : i < sto.length
  ·rw [q9V hi] at e
   obtain ⟨a, ob, h1, h2, h3⟩ := ce i o' e
   exact ⟨a, ob, by rw [q9V (by lia)]; exact h1, k _ _ h2, h3.mono⟩
  ·rw [v0d (by lia)] at e
   have : i - sto.length = 0 := by
    cases hq : i - sto.length with
    | zero => rfl
    | succ j => rw [hq] at e; simp at e
   rw [this] at e; cases e
   refine ⟨s.heap.objs.size, o, ?_, v0e _ hf, h.mono⟩
   rw [v0d (by lia), show i - α.length = 0 by lia]; rfl
 ·rcases v0f.mp ha with q | q
  ·exact off a q
  ·cases v0c.mp q
   refine ⟨Nat.ne_of_gt F.ns.lt, ?_⟩
   exact F.keep.none (v0g (v0h _))
 ·obtain ⟨a, h1, h2⟩ := cel y i e
  exact ⟨a, by rw [q9V (q9W.mp h1).1]; exact h1, h2⟩
theorem Sat.upd (S : Sat x c α loc sto s) {i : Nat} {a : Addr} {ao : AO} {f : Obj → Obj} {ob : Obj} {n : Nat} (ha : α[i]? = some a) (ho : s.heap.get? a = some ob) (h : OR α ao (f ob)) (hf : (f ob).isFreed = false) :
  Sat x c α loc (sto.set i ao) { s with heap := s.heap.update a f, toks := n } := by
 obtain ⟨⟨m, F, l⟩, ⟨ln, nd, ce⟩, off, os, gens, cel⟩ := S
 have hm : a ∈ α := v0i ha
 have k : ∀ b o, b ≠ a → s.heap.get? b = some o → (s.heap.update a f).get? b = some o := fun b o n e => (Heap.get?_update_ne _ _ _ _ n).trans e
 refine ⟨⟨m, F.kBut (S := [a]) (fun q => (off a hm).1 (v0c.mp q).symm) (fun b hb => by rw [v0c.mp hb]; exact (off a hm).2) fun b o hb e => k b o (fun q => hb (v0c.mpr q)) e, l⟩, ⟨by simp [ln], nd, fun j o e => ?_⟩, off, os, gens, cel⟩
 ·by_cases hij : i = j
  ·subst hij
   have hl : i < sto.length := by rw [← ln]; exact (q9W.mp ha).1
   rw [v0j hl] at e; cases e
   exact ⟨a, _, ha, v0k _ ho hf, h⟩
  ·rw [v0l hij] at e
   obtain ⟨a', ob', h1, h2, h3⟩ := ce j o e
   refine ⟨a', ob', h1, k _ _ (fun q => hij ?_) h2, h3⟩
   subst q
   obtain ⟨p1, q1⟩ := q9W.mp ha
   obtain ⟨p2, q2⟩ := q9W.mp h1
   exact (v0m nd).mp (q1.trans q2.symm)
theorem Sat.objAt (S : Sat x c α loc sto s) {i : Nat} {a : Addr} {o : AO} (ha : α[i]? = some a) (hs : sto[i]? = some o) : ∃ ob, s.heap.get? a = some ob ∧ OR α o ob := by
 obtain ⟨a, ob, h1, h2⟩ := S.hs.cell i _ hs
 cases ha.symm.trans h1
 exact ⟨ob, h2⟩
theorem Sat.rawAt (S : Sat x c α loc sto s) {i : Nat} {b : Addr} {o : Obj} (ha : α[i]? = some b) (hs : sto[i]? = some (.raw o)) : s.heap.get? b = some o := by
 obtain ⟨ob, h2, h3⟩ := S.objAt ha hs
 cases h3; exact h2
end
noncomputable def lk {β : Type} : List (Str × β) → Str → Option β
 | [], _ => none
 | p :: r, x => match Fast.sEq x p.1 with
  | true => some p.2
  | false => lk r x
theorem W6 (a b : Str) : (a == b) = Fast.sEq a b := by
 cases h : Fast.sEq a b with
 | true => rw [Fast.sEq_iff.mp h]; exact beq_self_eq_true b
 | false =>
  cases q : a == b with
  | false => rfl
  | true => rw [Fast.sEq_iff.mpr (beq_iff_eq.mp q)] at h; cases h
theorem F7 {β : Type} : ∀ (l : List (Str × β)) (x : Str), lk l x = l.lookup x
 | [], _ => rfl
 | (k, b) :: r, x => by
  rw [v0n, lk, W6]
  cases Fast.sEq x k with
  | true => rfl
  | false => exact F7 r x
noncomputable def up : Loc → Str → AV → Loc
 | [], x, a => [(x, a)]
 | p :: r, x, a => match Fast.sEq x p.1 with
  | true => (p.1, a) :: r
  | false => p :: up r x a
theorem Z6 : ∀ (l : Loc) (x : Str) (a : AV) (y : Str), (up l x a).lookup y = if y = x then some a else l.lookup y
 | [], x, a, y => by
  rw [up, v0n]
  by_cases h : y = x
  ·rw [if_pos h, h, beq_self_eq_true]
  ·rw [if_neg h, show (y == x) = false from by simpa using h]
 | (k, b) :: r, x, a, y => by
  rw [up]
  cases q : Fast.sEq x k with
  | true =>
   obtain rfl := Fast.sEq_iff.mp q
   simp only [v0n]
   by_cases h : y = x
   ·rw [if_pos h, h, beq_self_eq_true]
   ·rw [if_neg h, show (y == x) = false from by simpa using h]
  | false =>
   simp only [v0n]
   rw [Z6 r x a y]
   by_cases h : y = x
   ·subst h
    rw [if_pos rfl, if_pos rfl, W6, q]
   ·rw [if_neg h, if_neg h]
def cnd : Bool → Prop → Prop → Prop
 | true, P, _ => P
 | false, _, Q => Q
theorem cnd_iff {b : Bool} {P Q : Prop} : cnd b P Q ↔ (b = true → P) ∧ (b = false → Q) := by cases b <;> simp [cnd]
inductive FL where
 | next | brk | cont | ret (v : AV)
def FR (α : List Addr) : FL → Flow → Prop
 | .next, f => f = .next
 | .brk, f => f = .brk
 | .cont, f => f = .cont
 | .ret v, f => ∃ u, f = .ret u ∧ VR α v u
section
variable (x : SX)
abbrev E0 (c : Cx) (α : List Addr) (loc : Loc) (K : AV → Sto → Prop) (Q : Value → Shared → Prop) : Prop :=
 ∀ v sto' α' s' val, K v sto' → Ex α α' → Sat x c α' loc sto' s' → VR α' v val → Q val s'
def OpS (op : List Value → Sem Value) (as : List AV) (loc : Loc) (sto : Sto) (K : AV → Sto → Prop) : Prop :=
 ∀ c α s vs Q E, Ok x c → Sat x c α loc sto s → VRs α as vs → E0 x c α loc K Q → wpAny (model pw x.w) c.A (op vs) Q E s
def EV (e : Expr) (loc : Loc) (sto : Sto) (K : AV → Sto → Prop) : Prop :=
 ∀ c α s Q E, Ok x c → Sat x c α loc sto s → E0 x c α loc K Q → wpAny (model pw x.w) c.A (eval e c.env) Q E s
def TS (e : Expr) (loc : Loc) (sto : Sto) (K : AV → Sto → Prop) : Prop :=
 ∀ c α s (Q : Bool → Shared → Prop) E, Ok x c → Sat x c α loc sto s → (∀ b sto' α' s', K (.bool b) sto' → Ex α α' → Sat x c α' loc sto' s' → Q b s') →
  wpAny (model pw x.w) c.A (PySem.isTrue e c.env (eval e c.env)) Q E s
def TrS (v : AV) (loc : Loc) (sto : Sto) (K : AV → Sto → Prop) : Prop :=
 ∀ c α s val (Q : Bool → Shared → Prop) E, Ok x c → Sat x c α loc sto s → VR α v val → (∀ b sto' α' s', K (.bool b) sto' → Ex α α' → Sat x c α' loc sto' s' → Q b s') →
  wpAny (model pw x.w) c.A (truthy val) Q E s
def SS (t : Cx → Sem Flow) (loc : Loc) (sto : Sto) (K : FL → Loc → Sto → Prop) : Prop :=
 ∀ c α s Q E, Ok x c → Sat x c α loc sto s → (∀ f loc' sto' α' s' fl, K f loc' sto' → Ex α α' → Sat x c α' loc' sto' s' → FR α' f fl → Q fl s') →
  wpAny (model pw x.w) c.A (t c) Q E s
noncomputable abbrev XS (st : Stmt) := SS x fun c => exec st c.env
noncomputable abbrev XSs (sts : List Stmt) := SS x fun c => execs sts c.env
def StS (y : Str) (v : AV) (loc : Loc) (sto : Sto) (K : Loc → Sto → Prop) : Prop :=
 ∀ c α s val (Q : Unit → Shared → Prop) E, Ok x c → Sat x c α loc sto s → VR α v val → (∀ loc' sto' s', K loc' sto' → Sat x c α loc' sto' s' → Q () s') →
  wpAny (model pw x.w) c.A (storeName c.env y val) Q E s
end
noncomputable abbrev op1 (f : Value → Sem Value) : List Value → Sem Value
 | [a] => f a
 | _ => .unsupported ""
noncomputable abbrev op2 (f : Value → Value → Sem Value) : List Value → Sem Value
 | [a, b] => f a b
 | _ => .unsupported ""
noncomputable def G1 (e : Expr) : Bool := !Nat.beq e.ctorIdx 26
noncomputable def W7 (e : Expr) : Bool := !Nat.beq e.ctorIdx 22
noncomputable def H3 (e : Expr) : Bool := !Nat.beq e.ctorIdx 16 || !(eK e).tail.isEmpty
noncomputable def mOk (o : Expr) (args : List Expr) (apos pos : Pos) : Bool := Nat.blt args.length 30 && Nat.beq apos.endLine pos.line && H3 o && args.all W7
noncomputable def cOk (args : List Expr) (kws : List Keyword) : Bool := args.all W7 && (match kws, args with
 | [], _ => true
 | _, _ :: _ => kws.all fun k => k.arg.isSome
 | _, _ => false)
def B7 (x : SX) (f : Value) : Prop := ∀ h, (KK x.w.params).In h → ∃ k, (k = Keeper.frame ∨ k = Keeper.machine ∨ k = Keeper.boundFrame) ∧ Looks (model pw x.w) h (keeperOf f) k
def CallS (x : SX) (f : Value) (as : List AV) (kws : List (Str × AV)) (loc : Loc) (sto : Sto) (K : AV → Sto → Prop) : Prop :=
 ∀ c α s vs ks Q E, Ok x c → Sat x c α loc sto s → VRs α as vs → VRs α (kws.map (·.2)) ks → E0 x c α loc K Q → wpAny (model pw x.w) c.A (call f vs ((kws.map (·.1)).zip ks)) Q E s
structure Tab where
 bin : Operator → AV → AV → Sto → (AV → Sto → Prop) → Prop
 aug : Operator → AV → AV → Sto → (AV → Sto → Prop) → Prop
 cmp : CmpOp → AV → AV → Sto → (AV → Sto → Prop) → Prop
 una : UnaryOp → AV → Sto → (AV → Sto → Prop) → Prop
 tru : AV → Sto → (AV → Sto → Prop) → Prop
 sub : AV → AV → Sto → (AV → Sto → Prop) → Prop
 get : AV → AV → Sto → (AV → Sto → Prop) → Prop
 cut : AV → AV → AV → Sto → (AV → Sto → Prop) → Prop
 call : Value → List AV → List (Str × AV) → Sto → (AV → Sto → Prop) → Prop
 mid : AV → Sto → Str → Option Value
 set : AV → AV → AV → Sto → (Sto → Prop) → Prop
 glob : Str → Option Value
 att : AV → Str → Sto → (AV → Sto → Prop) → Prop
 seta : AV → Str → AV → Sto → (Sto → Prop) → Prop
structure D8 (x : SX) (T : Tab) : Prop where
 bin : ∀ o a b loc sto K, T.bin o a b sto K → OpS x (op2 (binaryOp o)) [a, b] loc sto K
 aug : ∀ o a b loc sto K, T.aug o a b sto K → OpS x (op2 (inplaceOp o)) [a, b] loc sto K
 cmp : ∀ o a b loc sto K, T.cmp o a b sto K → OpS x (op2 (compareOp o)) [a, b] loc sto K
 una : ∀ o a loc sto K, T.una o a sto K → OpS x (op1 (unaryOp o)) [a] loc sto K
 tru : ∀ a loc sto K, T.tru a sto K → TrS x a loc sto K
 sub : ∀ a b loc sto K, T.sub a b sto K → ∀ v e, G1 e = true → OpS x (op2 (fun o i => subscriptTail v e o i)) [a, b] loc sto K
 get : ∀ a b loc sto K, T.get a b sto K → OpS x (op2 getItem) [a, b] loc sto K
 cut : ∀ a l u loc sto K, T.cut a l u sto K → ∀ v le ue p c α s av lv uv Q E, Ok x c → Sat x c α loc sto s → VR α a av → VR α l lv → VR α u uv → E0 x c α loc K Q →
  wpAny (model pw x.w) c.A (newFields "slice" [lv, uv, .none]) (fun i s' => wpAny (model pw x.w) c.A (subscriptTail v (.Slice le ue none p) av i) Q E s') E s
 call : ∀ f as kws loc sto K, T.call f as kws sto K → B7 x f ∧ CallS x f as kws loc sto K
 mid : ∀ a sto n f, T.mid a sto n = some f → B7 x f ∧ ∀ c α loc s av pl (Q : Value × List Value → Shared → Prop) E, Ok x c → Sat x c α loc sto s → VR α a av → Q (f, [av]) s → wpAny (model pw x.w) c.A (getMethod av n pl) Q E s
 set : ∀ o i v loc sto K, T.set o i v sto K → ∀ c α s ov iv vv (Q : Unit → Shared → Prop) E, Ok x c → Sat x c α loc sto s → VR α o ov → VR α i iv → VR α v vv → (∀ sto' s', K sto' → Sat x c α loc sto' s' → Q () s') → wpAny (model pw x.w) c.A (setItem ov iv vv) Q E s
 setm : ∀ o i v sto (K K' : Sto → Prop), (∀ s, K s → K' s) → T.set o i v sto K → T.set o i v sto K'
 att : ∀ a n loc sto K, T.att a n sto K → ∀ c α s av ex (Q E : Value → Shared → Prop), Ok x c → Sat x c α loc sto s → VR α a av → E0 x c α loc K Q → wpAny (model pw x.w) c.A (getAttr av n ex) Q E s
 seta : ∀ o n v loc sto K, T.seta o n v sto K → ∀ c α s ov vv (Q : Unit → Shared → Prop) E, Ok x c → Sat x c α loc sto s → VR α o ov → VR α v vv → (∀ sto' s', K sto' → Sat x c α loc sto' s' → Q () s') → wpAny (model pw x.w) c.A (setAttr ov n vv) Q E s
 setam : ∀ o n v sto (K K' : Sto → Prop), (∀ s, K s → K' s) → T.seta o n v sto K → T.seta o n v sto K'
 glob : ∀ y v, T.glob y = some v → nsIn (KK x.w.params) mainGlobals y = some (some v) ∨ (nsIn (KK x.w.params) mainGlobals y = some none ∧ bootBuiltins y = some v ∧ y ≠ "__name__")
abbrev KA1 := AV → Sto → Prop
def G8 (ev : Expr → Sto → KA1 → Prop) : List Expr → Sto → (List AV → Sto → Prop) → Prop
 | [], sto, K => K [] sto
 | e :: es, sto, K => match W7 e with
  | true => ev e sto fun v s₁ => G8 ev es s₁ fun vs s₂ => K (v :: vs) s₂
  | false => False
def p7 (ev : Expr → Sto → KA1 → Prop) : List Keyword → Sto → (List (Str × AV) → Sto → Prop) → Prop
 | [], sto, K => K [] sto
 | ⟨some n, e, _⟩ :: es, sto, K => ev e sto fun v s₁ => p7 ev es s₁ fun vs s₂ => K ((n, v) :: vs) s₂
 | _ :: _, _, _ => False
def q0s (ev : Expr → Sto → KA1 → Prop) : Option Expr → Sto → KA1 → Prop
 | none, sto, K => K .none sto
 | some e, sto, K => ev e sto K
def I0 (v : AV) (P Q : Prop) : Prop := match v with
 | .bool b => cnd b P Q
 | _ => False
noncomputable def notV : AV → AV
 | .bool b => .bool (!b)
 | v => v
def q0t (ev : Expr → Sto → KA1 → Prop) (op : BoolOp) : List Expr → Sto → KA1 → Prop
 | [], sto, K => K (.bool (match op with | .And => true | .Or => false)) sto
 | e :: es, sto, K => ev e sto fun v s₁ => match op with
  | .And => I0 v (q0t ev op es s₁ K) (K (.bool false) s₁)
  | .Or => I0 v (K (.bool true) s₁) (q0t ev op es s₁ K)
def X9 (ev : Expr → Sto → KA1 → Prop) (tr : AV → Sto → KA1 → Prop) (op : BoolOp) : List Expr → Sto → KA1 → Prop
 | [], _, _ => False
 | [e], sto, K => ev e sto K
 | e :: es, sto, K => ev e sto fun v s₁ => tr v s₁ fun b s₂ => match op with
  | .And => I0 b (X9 ev tr op es s₂ K) (K v s₂)
  | .Or => I0 b (K v s₂) (X9 ev tr op es s₂ K)
def ew (x : SX) (T : Tab) : Nat → Bool → Expr → Loc → Sto → KA1 → Prop
 | 0, _, _, _, _, _ => False
 | n + 1, true, e, loc, sto, K => match e with
  | .UnaryOp .Not y _ => ew x T n true y loc sto fun v s => K (notV v) s
  | .BoolOp op vs _ => q0t (fun e s K => ew x T n true e loc s K) op vs sto K
  | .Compare l [op] [r] _ => match behindInMarks op r with
   | false => ew x T n false l loc sto fun a s₁ => ew x T n false r loc s₁ fun b s₂ => T.cmp op a b s₂ fun v s₃ => T.tru v s₃ K
   | true => False
  | .Name .. | .Call .. | .Attribute .. | .Subscript .. => ew x T n false e loc sto fun v s => T.tru v s K
  | _ => False
 | n' + 1, false, e, loc, sto, K => match e with
  | .Constant .none _ _ => K .none sto
  | .Constant (.bool b) _ _ => K (.bool b) sto
  | .Constant (.int b) _ _ => K (.int b) sto
  | .Constant (.str b) _ _ => K (.str b.cps.toList) sto
  | .Constant (.bytes b) _ _ => K (.bytes b) sto
  | .Name y _ => match Fast.sEq y "__debug__" with
   | true => False
   | false => match lk x.scope.names y with
    | some .local => match lk loc y with
     | some v => K v sto
     | none => False
    | some .cell => match lk x.cm y with
     | some i => match sto[i]? with
      | some (.cell v) => K v sto
      | _ => False
     | none => False
    | some .free => match Fast.sEq y "__classdict__" with
     | true => False
     | false => match lk x.cm y with
      | some i => match sto[i]? with
       | some (.cell v) => K v sto
       | _ => False
      | none => False
    | some .globalImplicit => match T.glob y with
     | some v => K (.ext v) sto
     | none => False
    | _ => False
  | .BinOp l op r _ => ew x T n' false l loc sto fun a s₁ => ew x T n' false r loc s₁ fun b s₂ => T.bin op a b s₂ K
  | .UnaryOp op y _ => ew x T n' false y loc sto fun a s₁ => T.una op a s₁ K
  | .BoolOp op vs _ => X9 (fun e s K => ew x T n' false e loc s K) T.tru op vs sto K
  | .Compare l [op] [r] _ => match behindInMarks op r with
   | false => ew x T n' false l loc sto fun a s₁ => ew x T n' false r loc s₁ fun b s₂ => T.cmp op a b s₂ K
   | true => False
  | .Subscript v (.Slice l u none _) _ => ew x T n' false v loc sto fun a s₁ => q0s (fun e s K => ew x T n' false e loc s K) l s₁ fun b s₂ => q0s (fun e s K => ew x T n' false e loc s K) u s₂ fun d s₃ => T.cut a b d s₃ K
  | .Subscript v i _ => match G1 i with
   | true => ew x T n' false v loc sto fun a s₁ => ew x T n' false i loc s₁ fun b s₂ => T.sub a b s₂ K
   | false => False
  | .Call (.Attribute o m ap) args [] p => match mOk o args ap p with
   | true => ew x T n' false o loc sto fun a s₁ => match T.mid a s₁ m with
    | some f => G8 (fun e s K => ew x T n' false e loc s K) args s₁ fun vs s₂ => T.call f (a :: vs) [] s₂ K
    | none => False
   | false => False
  | .Call (.Name f p) args kws _ => match cOk args kws with
   | true => ew x T n' false (.Name f p) loc sto fun a s₁ => match a with
    | .ext fv => G8 (fun e s K => ew x T n' false e loc s K) args s₁ fun vs s₂ => p7 (fun e s K => ew x T n' false e loc s K) kws s₂ fun ks s₃ => T.call fv vs ks s₃ K
    | _ => False
   | false => False
  | .Attribute o n _ => match H3 o with
   | true => ew x T n' false o loc sto fun a s₁ => T.att a n s₁ K
   | false => False
  | .List es _ => G8 (fun e s K => ew x T n' false e loc s K) es sto fun vs s₁ => vs.length ≤ sizeLine ∧ K (.ref s₁.length) (s₁ ++ [.lst vs])
  | .Tuple es _ _ => G8 (fun e s K => ew x T n' false e loc s K) es sto fun vs s₁ => vs.length ≤ sizeLine ∧ K (.ref s₁.length) (s₁ ++ [.tup vs])
  | _ => False
section
variable {x : SX} {loc : Loc} {sto : Sto} {K K' : AV → Sto → Prop}
theorem EV.mono {e : Expr} (h : EV x e loc sto K) (k : ∀ v s, K v s → K' v s) : EV x e loc sto K' :=
 fun c α s Q E O S P => h c α s Q E O S fun v sto' α' s' val hv => P v sto' α' s' val (k v sto' hv)
theorem TS.mono {e : Expr} (h : TS x e loc sto K) (k : ∀ v s, K v s → K' v s) : TS x e loc sto K' :=
 fun c α s Q E O S P => h c α s Q E O S fun b sto' α' s' hv => P b sto' α' s' (k _ sto' hv)
theorem EV.constNone {k : Nat} {pos : Pos} (h : K .none sto) : EV x (.Constant .none k pos) loc sto K :=
 fun c α s Q E O S P => wpAny_Constant_none (P _ _ _ _ _ h .refl S rfl)
theorem EV.constBool {b : Bool} {k : Nat} {pos : Pos} (h : K (.bool b) sto) : EV x (.Constant (.bool b) k pos) loc sto K :=
 fun c α s Q E O S P => wpAny_Constant_bool (P _ _ _ _ _ h .refl S rfl)
theorem EV.constInt {b : Int} {k : Nat} {pos : Pos} (h : K (.int b) sto) : EV x (.Constant (.int b) k pos) loc sto K :=
 fun c α s Q E O S P => wpAny_Constant_int (P _ _ _ _ _ h .refl (S.toks _) ⟨_, rfl⟩)
theorem EV.constStr {b : Str} {k : Nat} {pos : Pos} (h : K (.str b.cps.toList) sto) : EV x (.Constant (.str b) k pos) loc sto K :=
 fun c α s Q E O S P => wpAny_Constant_str (P _ _ _ _ _ h .refl (S.toks _) ⟨_, rfl⟩)
theorem EV.constBytes {b : List UInt8} {k : Nat} {pos : Pos} (h : K (.bytes b) sto) : EV x (.Constant (.bytes b) k pos) loc sto K :=
 fun c α s Q E O S P => Constant_bytes (P _ _ _ _ _ h .refl (S.toks _) ⟨_, rfl⟩)
theorem B8 {c : Cx} (O : Ok x c) {y : Str} {k : NameKind} (h : lk x.scope.names y = some k) : c.env.kindOf y = some k := by
 rw [F7] at h
 show c.env.scope.names.lookup y = _
 rw [O.scope]; exact h
theorem G3 {y : Str} (h : Fast.sEq y "__debug__" = false) : (y == ("__debug__" : Str)) = false := by rw [W6]; exact h
theorem EV.local {y : Str} {pos : Pos} {v : AV} (hd : Fast.sEq y "__debug__" = false) (hk : lk x.scope.names y = some .local) (hv : lk loc y = some v) (h : K v sto) : EV x (.Name y pos) loc sto K := by
 intro c α s Q E O S P
 obtain ⟨m, F, l⟩ := S.fr
 obtain ⟨u, hu, hr⟩ := l y v (by rw [← F7]; exact hv)
 exact wpAny_Name (v1d O.kind (B8 O hk) F.ns hu (P _ _ _ _ _ h .refl S hr)) (G3 hd)
theorem Sat.cellAt {c : Cx} {α : List Addr} {s : Shared} (S : Sat x c α loc sto s) {y : Str} {i : Nat} {v : AV} (hc : lk x.cm y = some i) (hs : sto[i]? = some (.cell v)) :
  ∃ (a : Addr) (o : Obj) (u : Value), c.env.cells.lookup y = some a ∧ α[i]? = some a ∧ s.heap.get? a = some o ∧ o.data = .cell (some u) ∧ VR α v u := by
 obtain ⟨a, h1, h2⟩ := S.cel y i (by rw [← F7]; exact hc)
 obtain ⟨o, h4, u, h5, h6⟩ := S.objAt h1 hs
 exact ⟨a, o, u, h2, h1, h4, h5, h6⟩
theorem EV.cell {y : Str} {pos : Pos} {v : AV} {i : Nat} (hd : Fast.sEq y "__debug__" = false) (hk : lk x.scope.names y = some .cell) (hc : lk x.cm y = some i) (hs : sto[i]? = some (.cell v)) (h : K v sto) : EV x (.Name y pos) loc sto K := by
 intro c α s Q E O S P
 obtain ⟨a, o, u, h1, _, h2, h3, h4⟩ := S.cellAt hc hs
 exact wpAny_Name (wpAny_loadName_cell O.kind (B8 O hk) h1 ⟨o, h2, h3⟩ (P _ _ _ _ _ h .refl S h4)) (G3 hd)
theorem EV.free {y : Str} {pos : Pos} {v : AV} {i : Nat} (hd : Fast.sEq y "__debug__" = false) (hd' : Fast.sEq y "__classdict__" = false) (hk : lk x.scope.names y = some .free) (hc : lk x.cm y = some i) (hs : sto[i]? = some (.cell v)) (h : K v sto) : EV x (.Name y pos) loc sto K := by
 intro c α s Q E O S P
 obtain ⟨a, o, u, h1, _, h2, h3, h4⟩ := S.cellAt hc hs
 exact wpAny_Name (wpAny_loadName_free O.kind (B8 O hk) h1 ⟨o, h2, h3⟩ (P _ _ _ _ _ h .refl S h4) (by rw [W6]; exact hd')) (G3 hd)
theorem EV.glob {T : Tab} (TO : D8 x T) {y : Str} {pos : Pos} {v : Value} (hd : Fast.sEq y "__debug__" = false) (hk : lk x.scope.names y = some .globalImplicit) (hg : T.glob y = some v) (h : K (.ext v) sto) : EV x (.Name y pos) loc sto K := by
 intro c α s Q E O S P
 obtain ⟨m, F, l⟩ := S.fr
 obtain ⟨mg, mb, Tp⟩ := O.top
 have Tp := Tp.keeps (O.stay F)
 have X := O.gnd.keeps (O.stay F)
 refine Name_function_global O.kind (B8 O hk) ?_ (G3 hd)
 rcases TO.glob y v hg with e | ⟨e, e', n⟩
 ·exact loadGlobal_global (by rw [O.glob]; exact Tp.g) (mg_of X Tp.g e) (P _ _ _ _ _ h .refl S rfl)
 ·exact loadGlobal_builtin (by rw [O.glob]; exact Tp.g) (mg_none_of X Tp.g e) (by rw [O.bi]; exact Tp.b) ((Tp.builtins y n).trans e') (P _ _ _ _ _ h .refl S rfl)
theorem EV.binop {l r : Expr} {op : Operator} {pos : Pos} (h : EV x l loc sto fun a s₁ => EV x r loc s₁ fun b s₂ => OpS x (op2 (binaryOp op)) [a, b] loc s₂ K) : EV x (.BinOp l op r pos) loc sto K := by
 intro c α s Q E O S P
 refine wpAny_BinOp (h c α s _ E O S fun a s1 α1 t1 va ha g1 S1 r1 => ?_)
 refine ha c α1 t1 _ E O S1 fun b s2 α2 t2 vb hb g2 S2 r2 => ?_
 exact hb c α2 t2 [va, vb] Q E O S2 ⟨g2.vr r1, r2, trivial⟩ fun v s3 α3 t3 val hv g3 S3 r3 => P v s3 α3 t3 val hv ((g1.trans g2).trans g3) S3 r3
theorem EV.compare {l r : Expr} {op : CmpOp} {pos : Pos} (hb : behindInMarks op r = false) (h : EV x l loc sto fun a s₁ => EV x r loc s₁ fun b s₂ => OpS x (op2 (compareOp op)) [a, b] loc s₂ K) : EV x (.Compare l [op] [r] pos) loc sto K := by
 intro c α s Q E O S P
 refine wpAny_Compare1 (h c α s _ E O S fun a s1 α1 t1 va ha g1 S1 r1 => ?_) hb
 refine ha c α1 t1 _ E O S1 fun b s2 α2 t2 vb hb g2 S2 r2 => ?_
 exact hb c α2 t2 [va, vb] Q E O S2 ⟨g2.vr r1, r2, trivial⟩ fun v s3 α3 t3 val hv g3 S3 r3 => P v s3 α3 t3 val hv ((g1.trans g2).trans g3) S3 r3
theorem EV.unary {y : Expr} {op : UnaryOp} {pos : Pos} (h : EV x y loc sto fun a s₁ => OpS x (op1 (unaryOp op)) [a] loc s₁ K) : EV x (.UnaryOp op y pos) loc sto K := by
 intro c α s Q E O S P
 show wpAny _ _ (do let v ← eval y c.env; standAt pos; holding [v] (unaryOp op v)) _ _ _
 refine v1e (h c α s _ E O S fun a s1 α1 t1 va ha g1 S1 r1 => v1e (v1f (v1g ?_)))
 exact ha c α1 t1 [va] Q E O S1 ⟨r1, trivial⟩ fun v s3 α3 t3 val hv g3 S3 r3 => P v s3 α3 t3 val hv (g1.trans g3) S3 r3
theorem TS.compare {l r : Expr} {op : CmpOp} {pos : Pos} (hb : behindInMarks op r = false)
  (h : EV x l loc sto fun a s₁ => EV x r loc s₁ fun b s₂ => OpS x (op2 (compareOp op)) [a, b] loc s₂ fun v s₃ => TrS x v loc s₃ K) : TS x (.Compare l [op] [r] pos) loc sto K := by
 intro c α s Q E O S P
 refine wpAny_isTrue_Compare1 (h c α s _ E O S fun a s1 α1 t1 va ha g1 S1 r1 => ?_) hb
 refine ha c α1 t1 _ E O S1 fun b s2 α2 t2 vb hb g2 S2 r2 => ?_
 refine hb c α2 t2 [va, vb] _ E O S2 ⟨g2.vr r1, r2, trivial⟩ fun v s3 α3 t3 val hv g3 S3 r3 => ?_
 exact hv c α3 t3 val Q E O S3 r3 fun b s4 α4 t4 hb g4 S4 => P b s4 α4 t4 hb (((g1.trans g2).trans g3).trans g4) S4
theorem TS.not {y : Expr} {pos : Pos} (h : TS x y loc sto fun v s => K (notV v) s) : TS x (.UnaryOp .Not y pos) loc sto K := by
 intro c α s Q E O S P
 exact wpAny_isTrue_Not (h c α s _ E O S fun b s1 α1 t1 hb g1 S1 => P (!b) s1 α1 t1 hb g1 S1)
noncomputable def q5w (e : Expr) : Bool := Nat.beq e.ctorIdx 16 || (Nat.beq e.ctorIdx 20 || (Nat.beq e.ctorIdx 21 || Nat.beq e.ctorIdx 23))
theorem TS.value {e : Expr} (hv : q5w e = true) (h : EV x e loc sto fun v s => TrS x v loc s K) : TS x e loc sto K := by
 intro c α s Q E O S P
 refine wpAny_isTrue_value (h c α s _ E O S fun v s1 α1 t1 va ha g1 S1 r1 => ?_) (by cases e <;> first | rfl | exact absurd hv v0o)
 exact ha c α1 t1 va Q E O S1 r1 fun b s2 α2 t2 hb g2 S2 => P b s2 α2 t2 hb (g1.trans g2) S2
theorem TS.all {op : BoolOp} : ∀ {vs : List Expr} {sto : Sto} {ev : Expr → Sto → KA1 → Prop}, (∀ e s K, ev e s K → TS x e loc s K) → q0t ev op vs sto K →
  ∀ c α s (Q : Bool → Shared → Prop) E, Ok x c → Sat x c α loc sto s → (∀ b sto' α' s', K (.bool b) sto' → Ex α α' → Sat x c α' loc sto' s' → Q b s') → wpAny (model pw x.w) c.A (allTrue op vs c.env) Q E s
 | [], sto, ev, _, h, c, α, s, Q, E, O, S, P => by
  cases op
  ·exact wpAny_allTrue_And_nil (P true _ _ _ h .refl S)
  ·exact wpAny_allTrue_Or_nil (P false _ _ _ h .refl S)
 | e :: es, sto, ev, hev, h, c, α, s, Q, E, O, S, P => by
  cases op
  ·refine wpAny_allTrue_And_cons (hev _ _ _ h c α s _ E O S fun b s1 α1 t1 hb g1 S1 => ?_)
   cases b with
   | true => exact TS.all hev hb c α1 t1 Q E O S1 fun b s2 α2 t2 h2 g2 S2 => P b s2 α2 t2 h2 (g1.trans g2) S2
   | false => exact P false _ _ _ hb g1 S1
  ·refine wpAny_allTrue_Or_cons (hev _ _ _ h c α s _ E O S fun b s1 α1 t1 hb g1 S1 => ?_)
   cases b with
   | false => exact TS.all hev hb c α1 t1 Q E O S1 fun b s2 α2 t2 h2 g2 S2 => P b s2 α2 t2 h2 (g1.trans g2) S2
   | true => exact P true _ _ _ hb g1 S1
theorem EV.bools {pos : Pos} {op : BoolOp} {tr : AV → Sto → KA1 → Prop} (htr : ∀ v s K, tr v s K → TrS x v loc s K) : ∀ {vs : List Expr} {sto : Sto} {ev : Expr → Sto → KA1 → Prop}, (∀ e s K, ev e s K → EV x e loc s K) → X9 ev tr op vs sto K →
  ∀ c α s (Q : Value → Shared → Prop) E, Ok x c → Sat x c α loc sto s → E0 x c α loc K Q → wpAny (model pw x.w) c.A (boolOp pos op (evalEach vs c.env)) Q E s
 | [], _, _, _, h, _, _, _, _, _, _, _, _ => h.elim
 | [e], sto, ev, hev, h, c, α, s, Q, E, O, S, P => hev _ _ _ h c α s Q E O S P
 | e :: e' :: es, sto, ev, hev, h, c, α, s, Q, E, O, S, P => by
  show wpAny _ _ (do let v ← eval e c.env; standAt pos; let t ← holding [v] (truthy v); match op, t with | .And, false | .Or, true => pure v | _, _ => boolOp pos op (evalEach (e' :: es) c.env)) Q E s
  refine v1e (hev _ _ _ h c α s _ E O S fun v s1 α1 t1 va hv g1 S1 r1 => v1e (v1f (v1e (v1g ?_))))
  refine htr _ _ _ hv c α1 t1 va _ E O S1 r1 fun b s2 α2 t2 hb g2 S2 => ?_
  have rest : ∀ h' : X9 ev tr op (e' :: es) s2 K, wpAny (model pw x.w) c.A (boolOp pos op (evalEach (e' :: es) c.env)) Q E t2 := fun h' =>
   EV.bools htr hev h' c α2 t2 Q E O S2 fun v s3 α3 t3 val h3 g3 S3 r3 => P v s3 α3 t3 val h3 ((g1.trans g2).trans g3) S3 r3
  cases op <;> cases b
  ·exact v1h (P v s2 α2 t2 va hb (g1.trans g2) S2 (g2.vr r1))
  ·exact rest hb
  ·exact rest hb
  ·exact v1h (P v s2 α2 t2 va hb (g1.trans g2) S2 (g2.vr r1))
theorem N7 : ∀ {es : List Expr} {sto : Sto} {ev : Expr → Sto → KA1 → Prop} {KK : List AV → Sto → Prop}, (∀ e s K, ev e s K → EV x e loc s K) → G8 ev es sto KK →
  ∀ c α s (pos : Pos) (Q : List Value → Shared → Prop) E, Ok x c → Sat x c α loc sto s → (∀ vs sto' α' s' vals, KK vs sto' → Ex α α' → Sat x c α' loc sto' s' → VRs α' vs vals → Q vals s') →
  wpAny (model pw x.w) c.A (spliced (backTo pos (starEach es c.env))) Q E s
 | [], _, _, _, _, h, c, α, s, pos, Q, E, O, S, P => args_nil (P [] _ _ _ [] h .refl S trivial)
 | e :: es, _, ev, KK, hev, h, c, α, s, pos, Q, E, O, S, P => by
  rw [G8] at h
  cases hs : W7 e with
  | false => rw [hs] at h; exact h.elim
  | true =>
   rw [hs] at h
   refine args_cons (hev _ _ _ h c α s _ E O S fun v s1 α1 t1 va hv g1 S1 r1 => ?_) (by cases e <;> first | rfl | exact absurd hs v0o)
   exact N7 hev hv c α1 t1 pos _ E O S1 fun vs s2 α2 t2 vals h2 g2 S2 r2 => P (v :: vs) s2 α2 t2 (va :: vals) h2 (g1.trans g2) S2 ⟨g2.vr r1, r2⟩
theorem EV.list {es : List Expr} {pos : Pos} {ev : Expr → Sto → KA1 → Prop} (hev : ∀ e s K, ev e s K → EV x e loc s K) (h : G8 ev es sto fun vs s₁ => vs.length ≤ sizeLine ∧ K (.ref s₁.length) (s₁ ++ [.lst vs])) : EV x (.List es pos) loc sto K := by
 intro c α s Q E O S P
 refine List_ (N7 hev h c α s pos _ E O S fun vs s1 α1 t1 vals hv g1 S1 r1 => ?_)
 refine v1i (P _ _ _ _ _ hv.2 (g1.trans .push) (S1.push (n := t1.toks) ⟨rfl, ⟨rfl, rfl⟩, _, _, rfl, r1⟩ rfl) ⟨_, ?_, rfl⟩) (by show vals.toArray.size ≤ sizeLine; rw [v0p, ← r1.length]; exact hv.1)
 rw [v0d (by rw [S1.hs.len]; exact v0h _), S1.hs.len, v0q]; rfl
theorem EV.tuple {es : List Expr} {k : Nat} {pos : Pos} {ev : Expr → Sto → KA1 → Prop} (hev : ∀ e s K, ev e s K → EV x e loc s K) (h : G8 ev es sto fun vs s₁ => vs.length ≤ sizeLine ∧ K (.ref s₁.length) (s₁ ++ [.tup vs])) : EV x (.Tuple es k pos) loc sto K := by
 intro c α s Q E O S P
 refine Tuple_ (N7 hev h c α s pos _ E O S fun vs s1 α1 t1 vals hv g1 S1 r1 => ?_)
 refine v1i (P _ _ _ _ _ hv.2 (g1.trans .push) (S1.push (n := t1.toks) ⟨rfl, rfl, _, _, rfl, r1⟩ rfl) ⟨_, ?_, rfl⟩) (by show vals.toArray.size ≤ sizeLine; rw [v0p, ← r1.length]; exact hv.1)
 rw [v0d (by rw [S1.hs.len]; exact v0h _), S1.hs.len, v0q]; rfl
end
section
variable {x : SX} {loc : Loc} {sto : Sto} {K K' : AV → Sto → Prop} {T : Tab}
theorem O7 : ∀ {es : List Expr} {env : Env} {pos : Pos}, es.all W7 = true → ((backTo pos (starEach es env)).any fun x => x.1) = false
 | [], _, _, _ => rfl
 | e :: es, env, pos, h => by
  obtain ⟨h1, h2⟩ := v0r.mp (List.all_cons ▸ h)
  have he : starEach (e :: es) env = (false, eval e env) :: starEach es env := by cases e <;> first | rfl | exact absurd h1 v0o
  rw [he]
  exact O7 (es := es) h2
theorem q0u : ∀ {es : List Expr} {env : Env} {pos : Pos}, es.all W7 = true → ((backTo pos (starEach es env)).all fun x => !x.1) = true
 | [], _, _, _ => rfl
 | e :: es, env, pos, h => by
  obtain ⟨h1, h2⟩ := v0r.mp (List.all_cons ▸ h)
  have he : starEach (e :: es) env = (false, eval e env) :: starEach es env := by cases e <;> first | rfl | exact absurd h1 v0o
  rw [he]
  exact q0u (es := es) h2
theorem q3b : ∀ {ks : List Keyword} {env : Env} {pos : Pos}, (ks.all fun k => k.arg.isSome) = true → (backToKw pos (keywordEach ks env)).all (·.1.isSome) = true
 | [], _, _, _ => rfl
 | ⟨n, e, p⟩ :: es, env, pos, h => by
  obtain ⟨h1, h2⟩ := v0r.mp (List.all_cons ▸ h)
  show (n.isSome && (backToKw pos (keywordEach es env)).all (·.1.isSome)) = true
  rw [q3b h2, show n.isSome = true from h1]; rfl
theorem q3c : ∀ {ks : List Keyword} {env : Env} {pos : Pos}, (ks.all fun k => k.arg.isSome) = true → (backToKw pos (keywordEach ks env)).any (·.1.isNone) = false
 | [], _, _, _ => rfl
 | ⟨n, e, p⟩ :: es, env, pos, h => by
  obtain ⟨h1, h2⟩ := v0r.mp (List.all_cons ▸ h)
  show (n.isNone || (backToKw pos (keywordEach es env)).any (·.1.isNone)) = false
  rw [q3c h2]
  cases n with
  | none => cases h1
  | some n => rfl
theorem w1 : ∀ {ks : List Keyword} {sto : Sto} {ev : Expr → Sto → KA1 → Prop} {KK : List (Str × AV) → Sto → Prop}, (∀ e s K, ev e s K → EV x e loc s K) → p7 ev ks sto KK →
  ∀ c α s (pos : Pos) (Q : List Value → Shared → Prop) E, Ok x c → Sat x c α loc sto s →
   (∀ vs sto' α' s' vals, KK vs sto' → (backToKw pos (keywordEach ks c.env)).filterMap (·.1) = vs.map (·.1) → Ex α α' → Sat x c α' loc sto' s' → VRs α' (vs.map (·.2)) vals → Q vals s') →
  wpAny (model pw x.w) c.A (evalAll ((backToKw pos (keywordEach ks c.env)).map (·.2))) Q E s
 | [], _, _, _, _, h, c, α, s, pos, Q, E, O, S, P => wpAny_evalAll_nil (P [] _ _ _ [] h rfl .refl S trivial)
 | ⟨some n, e, p⟩ :: es, _, ev, KK, hev, h, c, α, s, pos, Q, E, O, S, P => by
  refine wpAny_evalAll_cons (v1e (hev _ _ _ h c α s _ E O S fun v s1 α1 t1 va hv g1 S1 r1 => v1e (v1f (v1h ?_))))
  refine w1 hev hv c α1 t1 pos _ E O S1 fun vs s2 α2 t2 vals h2 hn g2 S2 r2 => P ((n, v) :: vs) s2 α2 t2 (va :: vals) h2 ?_ (g1.trans g2) S2 ⟨g2.vr r1, r2⟩
  show n :: (backToKw pos (keywordEach es c.env)).filterMap (·.1) = _
  rw [hn]; rfl
 | ⟨none, _, _⟩ :: _, _, _, _, _, h, _, _, _, _, _, _, _, _, _ => h.elim
theorem O8 {es : List Expr} {ks : List Keyword} {ev : Expr → Sto → KA1 → Prop} {KK : List AV → List (Str × AV) → Sto → Prop} (hev : ∀ e s K, ev e s K → EV x e loc s K) (h : G8 ev es sto fun vs s => p7 ev ks s fun ks s => KK vs ks s) (hst : cOk es ks = true)
  (c : Cx) (α : List Addr) (s : Shared) (pos : Pos) (f : Value) (Q : Args → Shared → Prop) (E : Value → Shared → Prop) (O : Ok x c) (S : Sat x c α loc sto s)
  (P : ∀ vs ks sto' α' s' vals kvals, KK vs ks sto' → Ex α α' → Sat x c α' loc sto' s' → VRs α' vs vals → VRs α' (ks.map (·.2)) kvals → Q ⟨vals, (ks.map (·.1)).zip kvals⟩ s') :
  wpAny (model pw x.w) c.A (evalArgs f true (backTo pos (starEach es c.env)) (backToKw pos (keywordEach ks c.env))) Q E s := by
 obtain ⟨h1, h2⟩ := v0r.mp hst
 cases es with
 | nil => cases ks with
  | nil => exact PySem.evalArgs_none (P [] [] _ _ _ [] [] h .refl S trivial trivial)
  | cons k ks => cases h2
 | cons e es =>
  obtain ⟨h3, h4⟩ := v0r.mp (List.all_cons ▸ h1)
  have he : starEach (e :: es) c.env = (false, eval e c.env) :: starEach es c.env := by cases e <;> first | rfl | cases h3
  cases ks with
  | nil =>
   have := N7 hev h c α s pos (fun vs s' => Q ⟨vs, []⟩ s') E O S fun vs s1 α1 t1 vals hv g1 S1 r1 => P vs [] s1 α1 t1 vals [] hv g1 S1 r1 trivial
   rw [he] at this ⊢
   exact evalArgs_plain this
  | cons k ks =>
   have := N7 hev h c α s pos (fun vs s₁ => wpAny (model pw x.w) c.A (evalAll ((backToKw pos (keywordEach (k :: ks) c.env)).map (·.2))) (fun kv s₂ => Q ⟨vs, ((backToKw pos (keywordEach (k :: ks) c.env)).filterMap (·.1)).zip kv⟩ s₂) E s₁) E O S
    fun vs s1 α1 t1 vals hv g1 S1 r1 => w1 hev hv c α1 t1 pos _ E O S1 fun kvs s2 α2 t2 kvals h5 hn g2 S2 r2 => by
     rw [hn]; exact P vs kvs s2 α2 t2 vals kvals h5 (g1.trans g2) S2 (g2.vrs r1) r2
   rw [he] at this ⊢
   exact evalArgs_kw (q3b h2) this
theorem EV.call {f : Str} {p pos : Pos} {args : List Expr} {kws : List Keyword} {ev : Expr → Sto → KA1 → Prop} (hev : ∀ e s K, ev e s K → EV x e loc s K) {K2 : Value → List AV → List (Str × AV) → Sto → Prop} (hc : cOk args kws = true)
  (h : EV x (.Name f p) loc sto fun a s₁ => match a with
   | .ext fv => G8 ev args s₁ fun vs s₂ => p7 ev kws s₂ fun ks s₃ => K2 fv vs ks s₃
   | _ => False) (hl : ∀ fv vs ks s, K2 fv vs ks s → B7 x fv ∧ CallS x fv vs ks loc s K) : EV x (.Call (.Name f p) args kws pos) loc sto K := by
 intro c α s Q E O S P
 refine wpAny_Call_Name_kw (h c α s _ E O S fun v s1 α1 t1 va hv g1 S1 r1 => ?_)
 cases v with
 | ext fv =>
  obtain rfl : va = fv := r1
  obtain ⟨hst, hk⟩ := v0r.mp hc
  have kp : ((backTo pos (starEach args c.env)).any (·.1) || (backToKw pos (keywordEach kws c.env)).any (·.1.isNone)) = false := by
   rw [O7 hst, Bool.false_or]
   cases kws with
   | nil => rfl
   | cons k ks => cases args with
    | nil => cases hk
    | cons e es => exact q3c hk
  have fin : wpAny (model pw x.w) c.A (evalArgs va true (backTo pos (starEach args c.env)) (backToKw pos (keywordEach kws c.env))) (fun a s' => B7 x va ∧ (KK x.w.params).In s'.heap ∧ wpAny (model pw x.w) c.A (PySem.call va ([] ++ a.pos) a.kw) Q E s') E t1 :=
   O8 hev hv hc c α1 t1 pos va _ E O S1 fun vs ks s2 α2 t2 vals kvals h2 g2 S2 r2 r3 =>
    ⟨(hl _ _ _ _ h2).1, S2.gnd O, (hl _ _ _ _ h2).2 c α2 t2 vals kvals Q E O S2 r2 r3 fun v s3 α3 t3 val h3 g3 S3 r4 => P v s3 α3 t3 val h3 ((g1.trans g2).trans g3) S3 r4⟩
  refine callWith_of (P := fun h => B7 x va ∧ (KK x.w.params).In h) kp (fun h hh => hh.1 h hh.2) ?_
  exact v1j fin (fun a s' hh => ⟨⟨hh.1, hh.2.1⟩, hh.2.2⟩) fun _ _ e => e
 | _ => exact hv.elim
theorem m3 {o : Expr} {m : Str} {env : Env} {b : Sem Value} (h : H3 o = true) : attributeBase o m env b = b := by
 cases o with
 | Call f args kws pos => cases args with
  | nil => exact absurd h v0o
  | cons a r => cases f <;> rfl
 | _ => rfl
theorem EV.meth {o : Expr} {m : Str} {ap pos : Pos} {args : List Expr} {ev : Expr → Sto → KA1 → Prop} (hev : ∀ e s K, ev e s K → EV x e loc s K) (hm : mOk o args ap pos = true) {K2 : Value → List AV → List (Str × AV) → Sto → Prop} (TO : D8 x T)
  (h : EV x o loc sto fun a s₁ => match T.mid a s₁ m with
    | some f => G8 ev args s₁ fun vs s₂ => K2 f (a :: vs) [] s₂
    | none => False) (hl : ∀ fv vs ks s, K2 fv vs ks s → B7 x fv ∧ CallS x fv vs ks loc s K) : EV x (.Call (.Attribute o m ap) args [] pos) loc sto K := by
 intro c α s Q E O S P
 simp only [mOk, v0s] at hm
 obtain ⟨⟨⟨h1, h2⟩, h3⟩, h4⟩ := hm
 have hbase : attributeBase o m c.env (eval o c.env) = eval o c.env := m3 h3
 rw [arm_eval_Call, hbase]
 refine v1e (h c α s _ E O S fun v s1 α1 t1 va hv g1 S1 r1 => ?_)
 dsimp only at hv
 cases hf : T.mid v s1 m with
 | none => rw [hf] at hv; exact hv.elim
 | some f =>
  rw [hf] at hv
  obtain ⟨kp, gm⟩ := TO.mid v s1 m f hf
  refine v1e (v1f ?_)
  have hform : methodCallForm (args.length + ([] : List Keyword).length) (backTo pos (starEach args c.env)) (backToKw pos (keywordEach [] c.env)) = true := by
   unfold methodCallForm
   have hlt : args.length < 30 := by simpa using h1
   rw [show (backTo pos (starEach args c.env)).all (fun x => !x.1) = true from q0u h4]
   show (true && true && decide (args.length + 0 + 0 < 30)) = true
   simpa using hlt
  have hpos : methodCallPos true o c.env ap pos = pure pos := by
   unfold methodCallPos
   rw [show (ap.endLine == pos.line) = true from by rw [beq_iff_eq]; exact v0t h2]; rfl
  unfold methodCall
  rw [hform]
  refine v1e (v1g ?_)
  show wpAny _ _ (getMethod va m _) _ E t1
  refine gm c α1 loc t1 va _ _ E O S1 r1 ?_
  refine v1e (v1k hpos ?_)
  refine callWith_of (P := fun h => (KK x.w.params).In h) (by rw [O7 h4]; rfl) (fun h hh => kp h hh) ?_
  refine O8 (ks := []) (KK := fun vs ks s => K2 f (v :: vs) ks s) hev hv (by rw [cOk, h4]; rfl) c α1 t1 pos f _ E O S1 fun vs ks s2 α2 t2 vals kvals h5 g2 S2 r2 r3 => ?_
  exact ⟨S2.gnd O, (hl _ _ _ _ h5).2 c α2 t2 (va :: vals) kvals Q E O S2 ⟨g2.vr r1, r2⟩ r3 fun v s3 α3 t3 val h3 g3 S3 r4 => P v s3 α3 t3 val h3 ((g1.trans g2).trans g3) S3 r4⟩
theorem EV.sub {v i : Expr} {pos : Pos} (hn : G1 i = true) (h : EV x v loc sto fun a s₁ => EV x i loc s₁ fun b s₂ => ∀ v e, G1 e = true → OpS x (op2 (fun o i => subscriptTail v e o i)) [a, b] loc s₂ K) : EV x (.Subscript v i pos) loc sto K := by
 intro c α s Q E O S P
 refine Subscript_ (h c α s _ E O S fun a s1 α1 t1 va ha g1 S1 r1 => ?_)
 refine ha c α1 t1 _ E O S1 fun b s2 α2 t2 vb hb g2 S2 r2 => ?_
 exact hb v i hn c α2 t2 [va, vb] Q E O S2 ⟨g2.vr r1, r2, trivial⟩ fun v s3 α3 t3 val hv g3 S3 r3 => P v s3 α3 t3 val hv ((g1.trans g2).trans g3) S3 r3
theorem w2 {e : Option Expr} {ev : Expr → Sto → KA1 → Prop} (hev : ∀ e s K, ev e s K → EV x e loc s K) (h : q0s ev e sto K) (c : Cx) (α : List Addr) (s : Shared) (Q E : Value → Shared → Prop) (O : Ok x c) (S : Sat x c α loc sto s) (P : E0 x c α loc K Q) :
  wpAny (model pw x.w) c.A (valueOrNone (evalOpt e c.env)) Q E s := by
 cases e with
 | none => exact v1h (P _ _ _ _ _ h .refl S rfl)
 | some e => exact hev _ _ _ h c α s Q E O S P
theorem EV.slice {v : Expr} {l u : Option Expr} {pos p : Pos} {ev : Expr → Sto → KA1 → Prop} {K2 : AV → AV → AV → Sto → Prop} (hev : ∀ e s K, ev e s K → EV x e loc s K)
  (h : EV x v loc sto fun a s₁ => q0s ev l s₁ fun b s₂ => q0s ev u s₂ fun d s₃ => K2 a b d s₃)
  (hl : ∀ a b d s₃, K2 a b d s₃ → ∀ v le ue p c α s av lv uv Q E, Ok x c → Sat x c α loc s₃ s → VR α a av → VR α b lv → VR α d uv → E0 x c α loc K Q →
   wpAny (model pw x.w) c.A (newFields "slice" [lv, uv, .none]) (fun i s' => wpAny (model pw x.w) c.A (subscriptTail v (.Slice le ue none p) av i) Q E s') E s) : EV x (.Subscript v (.Slice l u none p) pos) loc sto K := by
 intro c α s Q E O S P
 refine Subscript_ (h c α s _ E O S fun a s1 α1 t1 va ha g1 S1 r1 => ?_)
 show wpAny _ _ (do let l ← valueOrNone (evalOpt l c.env); let u ← holding [l] (valueOrNone (evalOpt u c.env)); let s ← holding [l, u] (valueOrNone (evalOpt none c.env)); newFields "slice" [l, u, s]) _ _ _
 refine v1e (w2 hev ha c α1 t1 _ E O S1 fun b s2 α2 t2 vb hb g2 S2 r2 => ?_)
 refine v1e (v1g (w2 hev hb c α2 t2 _ E O S2 fun d s3 α3 t3 vd hd g3 S3 r3 => ?_))
 refine v1e (v1g (v1h ?_))
 exact (hl _ _ _ _ hd v l u p c α3 t3 va vb vd Q E O S3 (g3.vr (g2.vr r1)) (g3.vr r2) r3 fun v s4 α4 t4 val hv g4 S4 r4 => P v s4 α4 t4 val hv (((g1.trans g2).trans g3).trans g4) S4 r4)
theorem EV.attr {o : Expr} {m : Str} {pos : Pos} (hp : H3 o = true) (TO : D8 x T) (h : EV x o loc sto fun a s₁ => T.att a m s₁ K) : EV x (.Attribute o m pos) loc sto K := by
 intro c α s Q E O S P
 have hbase : attributeBase o m c.env (eval o c.env) = eval o c.env := m3 hp
 refine Attribute_any_ (h c α s _ E O S fun v s1 α1 t1 va hv g1 S1 r1 => ?_) (by rw [arm_eval_Attribute, hbase])
 exact TO.att v m loc s1 K hv c α1 t1 va true Q E O S1 r1 fun v s3 α3 t3 val h3 g3 S3 r4 => P v s3 α3 t3 val h3 (g1.trans g3) S3 r4
theorem A4 (TO : D8 x T) : ∀ (n : Nat) (t : Bool) (e : Expr) (loc : Loc) (sto : Sto) (K : AV → Sto → Prop), ew x T n t e loc sto K → (match t with | true => TS x e loc sto K | false => EV x e loc sto K) := by
 intro n
 induction n with
 | zero => intro t e loc sto K h; exact (show False from h).elim
 | succ n ih =>
  intro t e loc sto K h
  have ihV : ∀ e s K, ew x T n false e loc s K → EV x e loc s K := fun e s K h => ih false e loc s K h
  have ihT : ∀ e s K, ew x T n true e loc s K → TS x e loc s K := fun e s K h => ih true e loc s K h
  cases t with
  | true =>
   show TS x e loc sto K
   have val : q5w e = true → ew x T n false e loc sto (fun v s => T.tru v s K) → TS x e loc sto K := fun hv h => TS.value hv ((ihV _ _ _ h).mono fun v s h => TO.tru _ loc _ _ h)
   cases e with
   | UnaryOp op y p => cases op with
    | Not => exact TS.not (ihT y sto (fun v s => K (notV v) s) h)
    | _ => exact (show False from h).elim
   | BoolOp op vs p => exact fun c α s Q E O S P => wpAny_isTrue_BoolOp (TS.all ihT (show q0t (fun e s K => ew x T n true e loc s K) op vs sto K from h) c α s Q E O S P)
   | Compare l ops rs p =>
    cases ops with
    | nil => exact (show False from h).elim
    | cons op ops => cases ops with
     | cons _ _ => exact (show False from h).elim
     | nil => cases rs with
      | nil => exact (show False from h).elim
      | cons r rs => cases rs with
       | cons _ _ => exact (show False from h).elim
       | nil =>
        have h : (match behindInMarks op r with
         | false => ew x T n false l loc sto fun a s₁ => ew x T n false r loc s₁ fun b s₂ => T.cmp op a b s₂ fun v s₃ => T.tru v s₃ K
         | true => False) := h
        cases hb : behindInMarks op r with
        | true => rw [hb] at h; exact h.elim
        | false =>
         rw [hb] at h
         exact TS.compare hb ((ihV _ _ _ h).mono fun a s h => (ihV _ _ _ h).mono fun b s h c α t vs Q E O S r P => TO.cmp _ _ _ loc _ _ h c α t vs Q E O S r fun v s' α' t' val hv => P v s' α' t' val (TO.tru _ loc _ _ hv))
   | Name y p => exact val rfl h
   | Call f a k p => exact val rfl h
   | Attribute v a p => exact val rfl h
   | Subscript v i p => exact val rfl h
   | _ => exact (show False from h).elim
  | false =>
   show EV x e loc sto K
   cases e with
   | Constant v k p => cases v with
    | none => exact EV.constNone h
    | bool b => exact EV.constBool h
    | int b => exact EV.constInt h
    | str b => exact EV.constStr h
    | bytes b => exact EV.constBytes h
    | _ => exact (show False from h).elim
   | Name y p =>
    have h : (match Fast.sEq y "__debug__" with
     | true => False
     | false => match lk x.scope.names y with
      | some .local => (match lk loc y with
       | some v => K v sto
       | none => False)
      | some .cell => (match lk x.cm y with
       | some i => (match sto[i]? with
        | some (.cell v) => K v sto
        | _ => False)
       | none => False)
      | some .free => (match Fast.sEq y "__classdict__" with
       | true => False
       | false => match lk x.cm y with
        | some i => (match sto[i]? with
         | some (.cell v) => K v sto
         | _ => False)
        | none => False)
      | some .globalImplicit => (match T.glob y with
       | some v => K (.ext v) sto
       | none => False)
      | _ => False : Prop) := h
    cases hd : Fast.sEq y "__debug__" with
    | true => rw [hd] at h; exact h.elim
    | false =>
     rw [hd] at h
     have cellGo : ∀ {P : Prop}, (match lk x.cm y with
       | some i => (match sto[i]? with
        | some (.cell v) => K v sto
        | _ => False)
       | none => False : Prop) → (∀ i v, lk x.cm y = some i → sto[i]? = some (.cell v) → K v sto → P) → P := fun {P} h f => by
      cases hc : lk x.cm y with
      | none => rw [hc] at h; exact h.elim
      | some i =>
       rw [hc] at h
       cases hs : sto[i]? with
       | none => simp only [hs] at h
       | some o => cases o with
        | cell v => simp only [hs] at h; exact f i v hc hs h
        | _ => simp only [hs] at h
     cases hk : lk x.scope.names y with
     | none => rw [hk] at h; exact h.elim
     | some k =>
      rw [hk] at h
      cases k with
      | «local» =>
       cases hv : lk loc y with
       | none => simp only [hv] at h
       | some v => simp only [hv] at h; exact EV.local hd hk hv h
      | cell => exact cellGo h fun i v hc hs h => EV.cell hd hk hc hs h
      | free =>
       cases hd' : Fast.sEq y "__classdict__" with
       | true => simp only [hd'] at h
       | false => exact cellGo (by simpa only [hd'] using h) fun i v hc hs h => EV.free hd hd' hk hc hs h
      | globalImplicit =>
       cases hg : T.glob y with
       | none => simp only [hg] at h
       | some v => simp only [hg] at h; exact EV.glob TO hd hk hg h
      | globalExplicit => exact (show False from h).elim
   | BinOp l op r p => exact EV.binop ((ihV l sto (fun a s₁ => ew x T n false r loc s₁ fun b s₂ => T.bin op a b s₂ K) h).mono fun a s h => (ihV _ _ _ h).mono fun b s h => TO.bin _ _ _ loc _ _ h)
   | UnaryOp op y p => exact EV.unary ((ihV y sto (fun a s₁ => T.una op a s₁ K) h).mono fun a s h => TO.una _ _ loc _ _ h)
   | BoolOp op vs p => exact fun c α s Q E O S P => EV.bools (fun v s K h => TO.tru v loc s K h) ihV (show X9 (fun e s K => ew x T n false e loc s K) T.tru op vs sto K from h) c α s Q E O S P
   | Compare l ops rs p =>
    cases ops with
    | nil => exact (show False from h).elim
    | cons op ops => cases ops with
     | cons _ _ => exact (show False from h).elim
     | nil => cases rs with
      | nil => exact (show False from h).elim
      | cons r rs => cases rs with
       | cons _ _ => exact (show False from h).elim
       | nil =>
        have h : (match behindInMarks op r with
         | false => ew x T n false l loc sto fun a s₁ => ew x T n false r loc s₁ fun b s₂ => T.cmp op a b s₂ K
         | true => False) := h
        cases hb : behindInMarks op r with
        | true => rw [hb] at h; exact h.elim
        | false =>
         rw [hb] at h
         exact EV.compare hb ((ihV _ _ _ h).mono fun a s h => (ihV _ _ _ h).mono fun b s h => TO.cmp _ _ _ loc _ _ h)
   | Attribute o m p =>
    have h : (match H3 o with
     | true => ew x T n false o loc sto fun a s₁ => T.att a m s₁ K
     | false => False) := h
    cases hb : H3 o with
    | false => rw [hb] at h; exact h.elim
    | true => rw [hb] at h; exact EV.attr hb TO (ihV _ _ _ h)
   | List es p => exact EV.list (ev := fun e s K => ew x T n false e loc s K) ihV h
   | Tuple es k p => exact EV.tuple (ev := fun e s K => ew x T n false e loc s K) ihV h
   | Subscript v i p =>
    have plain : G1 i = true → (ew x T n false v loc sto fun a s₁ => ew x T n false i loc s₁ fun b s₂ => T.sub a b s₂ K) → EV x (.Subscript v i p) loc sto K := fun hs h =>
     EV.sub hs ((ihV _ _ _ h).mono fun a s h => (ihV _ _ _ h).mono fun b s h => TO.sub _ _ loc _ _ h)
    cases i with
    | Slice l u st q => cases st with
     | some _ => exact (show False from h).elim
     | none => exact EV.slice (ev := fun e s K => ew x T n false e loc s K) (K2 := fun a b d s => T.cut a b d s K) ihV (ihV _ _ _ h) fun a b d s h => TO.cut a b d loc s K h
    | _ => exact plain rfl h
   | Call f args kws p =>
    cases f with
    | Attribute o m ap => cases kws with
     | cons _ _ => exact (show False from h).elim
     | nil =>
      have h : (match mOk o args ap p with
       | true => ew x T n false o loc sto fun a s₁ => match T.mid a s₁ m with
        | some f => G8 (fun e s K => ew x T n false e loc s K) args s₁ fun vs s₂ => T.call f (a :: vs) [] s₂ K
        | none => False
       | false => False : Prop) := h
      cases hm : mOk o args ap p with
      | false => rw [hm] at h; exact h.elim
      | true =>
       rw [hm] at h
       exact EV.meth (ev := fun e s K => ew x T n false e loc s K) (K2 := fun f as ks s => T.call f as ks s K) ihV hm TO (ihV _ _ _ h) fun f vs ks s h => TO.call f vs ks loc s K h
    | Name g q =>
     have h : (match cOk args kws with
      | true => ew x T n false (.Name g q) loc sto fun a s₁ => match a with
       | .ext fv => G8 (fun e s K => ew x T n false e loc s K) args s₁ fun vs s₂ => p7 (fun e s K => ew x T n false e loc s K) kws s₂ fun ks s₃ => T.call fv vs ks s₃ K
       | _ => False
      | false => False : Prop) := h
     cases hc : cOk args kws with
     | false => rw [hc] at h; exact h.elim
     | true =>
      rw [hc] at h
      exact EV.call (ev := fun e s K => ew x T n false e loc s K) (K2 := fun f as ks s => T.call f as ks s K) ihV hc (ihV _ _ _ h) fun f vs ks s h => TO.call f vs ks loc s K h
    | _ => exact (show False from h).elim
   | _ => exact (show False from h).elim
end
abbrev KF := FL → Loc → Sto → Prop
section
variable {x : SX} {loc : Loc} {sto : Sto} {K K' : KF} {T : Tab}
noncomputable def F4 (e : Expr) : Bool := !(Nat.ble 8 e.ctorIdx && Nat.ble e.ctorIdx 10)
theorem T9 {v : Expr} {t : Option Expr} {n : Nat} {env : Env} (h : F4 v = true) : swapsWith v t n env = pure false := by
 cases v <;> first | rfl | exact absurd h v0o
def stW (x : SX) (y : Str) (v : AV) (loc : Loc) (sto : Sto) (K : Loc → Sto → Prop) : Prop :=
 match lk x.scope.names y with
 | some .local => K (up loc y v) sto
 | some .cell => match lk x.cm y with
  | some i => match sto[i]? with
   | some (.cell _) => K loc (sto.set i (.cell v))
   | _ => False
  | none => False
 | _ => False
def ldW (x : SX) (y : Str) (loc : Loc) (sto : Sto) (K : AV → Sto → Prop) : Prop :=
 match lk x.scope.names y with
 | some .local => match lk loc y with
  | some v => K v sto
  | none => False
 | some .cell => match lk x.cm y with
  | some i => match sto[i]? with
   | some (.cell v) => K v sto
   | _ => False
  | none => False
 | _ => False
theorem q4s {y : Str} {K : AV → Sto → Prop} (h : ldW x y loc sto K) (c : Cx) (α : List Addr) (s : Shared) (Q E : Value → Shared → Prop) (O : Ok x c) (S : Sat x c α loc sto s) (P : E0 x c α loc K Q) : wpAny (model pw x.w) c.A (loadName c.env y) Q E s := by
 unfold ldW at h
 split at h
 ·rename_i hk
  split at h
  ·rename_i v hv
   obtain ⟨m, F, l⟩ := S.fr
   obtain ⟨u, hu, hr⟩ := l y v (by rw [← F7]; exact hv)
   exact v1d O.kind (B8 O hk) F.ns hu (P _ _ _ _ _ h .refl S hr)
  ·exact h.elim
 ·rename_i hk
  split at h
  ·rename_i i hc
   split at h
   ·rename_i v hs
    obtain ⟨a, o, u, h1, _, h2, h3, h4⟩ := S.cellAt hc hs
    exact wpAny_loadName_cell O.kind (B8 O hk) h1 ⟨o, h2, h3⟩ (P _ _ _ _ _ h .refl S h4)
   ·exact h.elim
  ·exact h.elim
 ·exact h.elim
theorem LR.up {α : List Addr} {m : Str → Option Value} {y : Str} {v : AV} {u : Value} (h : LR α loc m) (r : VR α v u) : LR α (up loc y v) (fun z => if z = y then some u else m z) := by
 intro z w e
 rw [Z6] at e
 by_cases q : z = y
 ·rw [if_pos q] at e; cases e
  exact ⟨u, by simp [q], r⟩
 ·rw [if_neg q] at e
  obtain ⟨u', h1, h2⟩ := h z w e
  exact ⟨u', by simp [q, h1], h2⟩
theorem Sat.setLoc {c : Cx} {α : List Addr} {s : Shared} (S : Sat x c α loc sto s) {y : Str} {v : AV} {u : Value} (r : VR α v u) {h' : Heap} {m : Str → Option Value} {n : Nat} (F : FrX c.fs c.h₀ c.env.locals s.heap m) (l : LR α loc m)
  (hn : h'.Ns c.env.locals fun z => if z = y then some u else m z) (hs : Heap.SameBut c.env.locals s.heap h') : Sat x c α (up loc y v) sto { s with heap := h', toks := n } :=
 ⟨⟨_, F.set hn hs, l.up r⟩, ⟨S.hs.len, S.hs.nd, fun i o e => by
  obtain ⟨a, ob, h1, h2, h3⟩ := S.hs.cell i o e
  exact ⟨a, ob, h1, (hs.2 a (S.off a (v0i h1)).1).trans h2, h3⟩⟩, S.off, S.os, S.gens, S.cel⟩
theorem M7 {y : Str} {v : AV} {K : Loc → Sto → Prop} (h : stW x y v loc sto K) : StS x y v loc sto K := by
 intro c α s val Q E O S r P
 unfold stW at h
 split at h
 ·rename_i hk
  obtain ⟨m, F, l⟩ := S.fr
  refine v1l (B8 O hk) F.ns (fun h' hn hs => P _ _ _ h (S.setLoc r F l hn hs)) ?_
  rw [O.kind]; rfl
 ·rename_i hk
  split at h
  ·rename_i i hc
   split at h
   ·rename_i v₀ hs
    obtain ⟨a, o, u, h1, h2, h3, h4, h5⟩ := S.cellAt hc hs
    refine wpAny_storeName_cell O.kind (B8 O hk) h1 ⟨o, h3, h4⟩ fun h' hv hsb => ?_
    obtain ⟨o', ho', hd'⟩ := hv
    obtain ⟨m, F, l⟩ := S.fr
    have hm : a ∈ α := v0i h2
    refine P _ _ _ h ⟨⟨m, ⟨F.ns.sameBut hsb (Ne.symm (S.off a hm).1), F.keep.then fun b ob ⟨_, e⟩ d => (hsb.2 b fun q => by rw [q, (S.off a hm).2] at e; cases e).trans d, F.off⟩, l⟩, ⟨by simp [S.hs.len], S.hs.nd, fun j ob e => ?_⟩, S.off, S.os, S.gens, S.cel⟩
    ·by_cases hij : i = j
     ·subst hij
      rw [v0j (q9W.mp hs).1] at e; cases e
      exact ⟨a, o', h2, ho', val, hd', r⟩
     ·rw [v0l hij] at e
      obtain ⟨a', ob', p1, p2, p3⟩ := S.hs.cell j ob e
      refine ⟨a', ob', p1, (hsb.2 a' fun q => hij ?_).trans p2, p3⟩
      subst q
      obtain ⟨q1, e1⟩ := q9W.mp h2
      obtain ⟨q2, e2⟩ := q9W.mp p1
      exact (v0m S.hs.nd).mp (e1.trans e2.symm)
   ·exact h.elim
  ·exact h.elim
 ·exact h.elim
noncomputable def U0 (e : Expr) : Option Str := dite _ (fun h => @Expr.Name.elim (fun _ => Option Str) e h fun y _ => some y) fun _ => none
noncomputable def c6 (e : Expr) : Bool := Nat.beq e.ctorIdx 19
theorem i4 {e : Expr} {y : Str} (h : U0 e = some y) : ∃ p, e = .Name y p := by
 cases e with
 | Name a b => exact ⟨b, congrArg (fun z => Expr.Name z b) (Option.some.inj h)⟩
 | _ => cases (show (none : Option Str) = some y from h)
theorem q0v {e : Expr} (h : c6 e = true) : ∃ k kk p, e = .Constant k kk p := by
 cases e <;> first | exact ⟨_, _, _, rfl⟩ | exact absurd h v0o
def xw (x : SX) (T : Tab) : Nat → List Stmt → Loc → Sto → KF → Prop
 | 0, _, _, _, _ => False
 | _ + 1, [], loc, sto, K => K .next loc sto
 | n + 1, st :: r, loc, sto, K => match st with
  | .Assign ts v _ => match ts with
   | [] => False
   | [t] => match F4 v with
    | true => match t with
     | .Name y _ => ew x T n false v loc sto fun a s₁ => stW x y a loc s₁ fun loc' s₂ => xw x T n r loc' s₂ K
     | .Subscript o i _ => ew x T n false v loc sto fun a s₁ => ew x T n false o loc s₁ fun b s₂ => ew x T n false i loc s₂ fun d s₃ => T.set b d a s₃ fun s₄ => xw x T n r loc s₄ K
     | .Attribute o m _ => ew x T n false v loc sto fun a s₁ => ew x T n false o loc s₁ fun b s₂ => T.seta b m a s₂ fun s₄ => xw x T n r loc s₄ K
     | _ => False
    | false => False
   | [t, t'] => match U0 t, U0 t', c6 v with
    | some y, some z, true => ew x T n false v loc sto fun a s₁ => stW x y a loc s₁ fun l' s₂ => stW x z a l' s₂ fun loc' s₃ => xw x T n r loc' s₃ K
    | _, _, _ => False
   | _ => False
  | .AugAssign (.Name y _) op v _ => ldW x y loc sto fun a s₁ => ew x T n false v loc s₁ fun b s₂ => T.aug op a b s₂ fun d s₃ => stW x y d loc s₃ fun loc' s₄ => xw x T n r loc' s₄ K
  | .AugAssign (.Attribute o m _) op v _ => ew x T n false o loc sto fun a s₁ => T.att a m s₁ fun d s₃ => ew x T n false v loc s₃ fun e s₄ => T.aug op d e s₄ fun f s₅ => T.seta a m f s₅ fun s₆ => xw x T n r loc s₆ K
  | .AugAssign (.Subscript o i _) op v _ => match G1 i with
   | true => ew x T n false o loc sto fun a s₁ => ew x T n false i loc s₁ fun b s₂ => T.get a b s₂ fun d s₃ => ew x T n false v loc s₃ fun e s₄ => T.aug op d e s₄ fun f s₅ => T.set a b f s₅ fun s₆ => xw x T n r loc s₆ K
   | false => False
  | .Return none _ => K (.ret .none) loc sto
  | .Return (some e) _ => ew x T n false e loc sto fun a s₁ => K (.ret a) loc s₁
  | .Expr e _ => match F4 e with
   | true => ew x T n false e loc sto fun a s₁ => xw x T n r loc s₁ K
   | false => False
  | .If t a b _ => ew x T n true t loc sto fun v s₁ => I0 v
    (xw x T n a loc s₁ fun f l' s' => match f with | .next => xw x T n r l' s' K | f => K f l' s')
    (xw x T n b loc s₁ fun f l' s' => match f with | .next => xw x T n r l' s' K | f => K f l' s')
  | .Pass _ => xw x T n r loc sto K
  | .Break _ => K .brk loc sto
  | .Continue _ => K .cont loc sto
  | _ => False
theorem XSs.cons {st : Stmt} {r : List Stmt} (h : XS x st loc sto fun f l' s' => match f with | .next => XSs x r l' s' K | f => K f l' s') : XSs x (st :: r) loc sto K := by
 intro c α s Q E O S P
 refine v1m (h c α s _ E O S fun f l1 s1 α1 t1 fl hf g1 S1 r1 => ?_)
 cases f with
 | next =>
  obtain rfl : fl = .next := r1
  exact hf c α1 t1 Q E O S1 fun f l2 s2 α2 t2 fl h2 g2 S2 r2 => P f l2 s2 α2 t2 fl h2 (g1.trans g2) S2 r2
 | brk => obtain rfl : fl = .brk := r1; exact P .brk l1 s1 α1 t1 _ hf g1 S1 rfl
 | cont => obtain rfl : fl = .cont := r1; exact P .cont l1 s1 α1 t1 _ hf g1 S1 rfl
 | ret v => obtain ⟨u, rfl, hu⟩ := r1; exact P (.ret v) l1 s1 α1 t1 _ hf g1 S1 ⟨u, rfl, hu⟩
theorem SS.mono {t : Cx → Sem Flow} (h : SS x t loc sto K) (k : ∀ f l s, K f l s → K' f l s) : SS x t loc sto K' :=
 fun c α s Q E O S P => h c α s Q E O S fun f l s' α' t' fl hf => P f l s' α' t' fl (k f l s' hf)
theorem XSs.nil (h : K .next loc sto) : XSs x [] loc sto K := fun c α s Q E O S P => v1n (P .next _ _ _ _ _ h .refl S rfl)
theorem E4 : ∀ (a b : List Stmt) (env : Env), execs (a ++ b) env = (do match ← execs a env with | .next => execs b env | f => pure f)
 | [], b, env => rfl
 | st :: a, b, env => by
  show execs (st :: (a ++ b)) env = _
  rw [execs_cons, execs_cons, bind_assoc]
  refine congrArg (fun k => exec st env >>= k) (funext fun f => ?_)
  cases f with
  | next => exact E4 a b env
  | _ => rfl
theorem XSs.append {a b : List Stmt} (h : XSs x a loc sto fun f l' s' => match f with | .next => XSs x b l' s' K | f => K f l' s') : XSs x (a ++ b) loc sto K := by
 intro c α s Q E O S P
 show wpAny _ _ (execs (a ++ b) c.env) _ _ _
 rw [E4]
 refine v1e (h c α s _ E O S fun f l1 s1 α1 t1 fl hf g1 S1 r1 => ?_)
 cases f with
 | next =>
  obtain rfl : fl = .next := r1
  exact hf c α1 t1 Q E O S1 fun f l2 s2 α2 t2 fl h2 g2 S2 r2 => P f l2 s2 α2 t2 fl h2 (g1.trans g2) S2 r2
 | brk => obtain rfl : fl = .brk := r1; exact v1h (P .brk l1 s1 α1 t1 _ hf g1 S1 rfl)
 | cont => obtain rfl : fl = .cont := r1; exact v1h (P .cont l1 s1 α1 t1 _ hf g1 S1 rfl)
 | ret v => obtain ⟨u, rfl, hu⟩ := r1; exact v1h (P (.ret v) l1 s1 α1 t1 _ hf g1 S1 ⟨u, rfl, hu⟩)
theorem XS.assign {y : Str} {p pos : Pos} {v : Expr} (hc : F4 v = true) (h : EV x v loc sto fun a s₁ => StS x y a loc s₁ fun l' s₂ => K .next l' s₂) : XS x (.Assign [.Name y p] v pos) loc sto K := by
 intro c α s Q E O S P
 refine wpAny_Assign_Name (h c α s _ E O S fun a s1 α1 t1 va ha g1 S1 r1 => ?_) (T9 hc)
 exact ha c α1 t1 va _ E O S1 r1 fun l' s2 t2 h2 S2 => P .next l' s2 α1 t2 _ h2 g1 S2 rfl
theorem XS.assign2 {y z : Str} {p q pos : Pos} {k : Const} {kk : Nat} {pp : Pos} (h : EV x (.Constant k kk pp) loc sto fun a s₁ => StS x y a loc s₁ fun l' s₂ => StS x z a l' s₂ fun l' s₂ => K .next l' s₂) : XS x (.Assign [.Name y p, .Name z q] (.Constant k kk pp) pos) loc sto K := by
 intro c α s Q E O S P
 refine wpAny_Assign_two (h c α s _ E O S fun a s1 α1 t1 va ha g1 S1 r1 => ?_) rfl rfl
 refine v1o (ha c α1 t1 va _ E O S1 r1 fun l' s2 t2 h2 S2 => ?_)
 exact v1o (h2 c α1 t2 va _ E O S2 r1 fun l' s3 t3 h3 S3 => P .next l' s3 α1 t3 _ h3 g1 S3 rfl)
theorem XS.assignSub {o i v : Expr} {p pos : Pos} (hc : F4 v = true) (TO : D8 x T)
  (h : EV x v loc sto fun a s₁ => EV x o loc s₁ fun b s₂ => EV x i loc s₂ fun d s₃ => T.set b d a s₃ fun s₄ => K .next loc s₄) : XS x (.Assign [.Subscript o i p] v pos) loc sto K := by
 intro c α s Q E O S P
 refine wpAny_Assign_Subscript (h c α s _ E O S fun a s1 α1 t1 va ha g1 S1 r1 => ?_) (T9 hc)
 refine ha c α1 t1 _ E O S1 fun b s2 α2 t2 vb hb g2 S2 r2 => ?_
 refine hb c α2 t2 _ E O S2 fun d s3 α3 t3 vd hd g3 S3 r3 => ?_
 exact TO.set _ _ _ loc _ _ hd c α3 t3 vb vd va _ E O S3 (g3.vr r2) r3 (g3.vr (g2.vr r1)) fun s4 t4 h4 S4 => P .next loc s4 α3 t4 _ h4 ((g1.trans g2).trans g3) S4 rfl
theorem XS.aug {y : Str} {p pos : Pos} {op : Operator} {v : Expr} (h : ldW x y loc sto fun a s₁ => EV x v loc s₁ fun b s₂ => OpS x (op2 (inplaceOp op)) [a, b] loc s₂ fun d s₃ => StS x y d loc s₃ fun l' s₄ => K .next l' s₄) : XS x (.AugAssign (.Name y p) op v pos) loc sto K := by
 intro c α s Q E O S P
 refine wpAny_AugAssign_Name (q4s h c α s _ E O S fun a s1 α1 t1 va ha g1 S1 r1 => ?_)
 refine ha c α1 t1 _ E O S1 fun b s2 α2 t2 vb hb g2 S2 r2 => ?_
 refine hb c α2 t2 [va, vb] _ E O S2 ⟨g2.vr r1, r2, trivial⟩ fun d s3 α3 t3 vd hd g3 S3 r3 => ?_
 exact hd c α3 t3 vd _ E O S3 r3 fun l' s4 t4 h4 S4 => P .next l' s4 α3 t4 _ h4 ((g1.trans g2).trans g3) S4 rfl
theorem XS.augSub {o i v : Expr} {p pos : Pos} {op : Operator} (hn : G1 i = true) (TO : D8 x T)
  (h : EV x o loc sto fun a s₁ => EV x i loc s₁ fun b s₂ => OpS x (op2 getItem) [a, b] loc s₂ fun d s₃ => EV x v loc s₃ fun e s₄ => OpS x (op2 (inplaceOp op)) [d, e] loc s₄ fun f s₅ => T.set a b f s₅ fun s₆ => K .next loc s₆) : XS x (.AugAssign (.Subscript o i p) op v pos) loc sto K := by
 intro c α s Q E O S P
 refine wpAny_AugAssign_SubscriptAny (h c α s _ E O S fun a s1 α1 t1 va ha g1 S1 r1 => ?_) (by intros; cases i <;> first | rfl | cases hn)
 refine ha c α1 t1 _ E O S1 fun b s2 α2 t2 vb hb g2 S2 r2 => ?_
 refine hb c α2 t2 [va, vb] _ E O S2 ⟨g2.vr r1, r2, trivial⟩ fun d s3 α3 t3 vd hd g3 S3 r3 => ?_
 refine hd c α3 t3 _ E O S3 fun e s4 α4 t4 ve he g4 S4 r4 => ?_
 refine he c α4 t4 [vd, ve] _ E O S4 ⟨g4.vr r3, r4, trivial⟩ fun f s5 α5 t5 vf hf g5 S5 r5 => ?_
 have g : Ex α2 α5 := (g3.trans g4).trans g5
 exact TO.set _ _ _ loc _ _ hf c α5 t5 va vb vf _ E O S5 (g.vr (g2.vr r1)) (g.vr r2) r5 fun s6 t6 h6 S6 => P .next loc s6 α5 t6 _ h6 ((g1.trans g2).trans g) S6 rfl
theorem XS.assignAtt {o v : Expr} {m : Str} {p pos : Pos} (hc : F4 v = true) (TO : D8 x T)
  (h : EV x v loc sto fun a s₁ => EV x o loc s₁ fun b s₂ => T.seta b m a s₂ fun s₄ => K .next loc s₄) : XS x (.Assign [.Attribute o m p] v pos) loc sto K := by
 intro c α s Q E O S P
 refine plainObj_wpAny_Assign_Attribute (h c α s _ E O S fun a s1 α1 t1 va ha g1 S1 r1 => ?_) (T9 hc)
 refine ha c α1 t1 _ E O S1 fun b s2 α2 t2 vb hb g2 S2 r2 => ?_
 exact TO.seta _ _ _ loc _ _ hb c α2 t2 vb va _ E O S2 r2 (g2.vr r1) fun s4 t4 h4 S4 => P .next loc s4 α2 t4 _ h4 (g1.trans g2) S4 rfl
theorem XS.augAtt {o v : Expr} {m : Str} {p pos : Pos} {op : Operator} {K2 : AV → AV → AV → Sto → Prop} (TO : D8 x T)
  (h : EV x o loc sto fun a s₁ => T.att a m s₁ fun d s₃ => K2 a a d s₃) (hl : ∀ a b d s, K2 a b d s → EV x v loc s fun e s₄ => OpS x (op2 (inplaceOp op)) [d, e] loc s₄ fun f s₅ => T.seta a m f s₅ fun s₆ => K .next loc s₆) : XS x (.AugAssign (.Attribute o m p) op v pos) loc sto K := by
 intro c α s Q E O S P
 refine wpAny_AugAssign_AttributeAny (h c α s _ E O S fun a s1 α1 t1 va ha g1 S1 r1 => ?_)
 refine TO.att _ _ loc _ _ ha c α1 t1 va true _ E O S1 r1 fun d s3 α3 t3 vd hd g3 S3 r3 => ?_
 refine hl _ _ _ _ hd c α3 t3 _ E O S3 fun e s4 α4 t4 ve he g4 S4 r4 => ?_
 refine he c α4 t4 [vd, ve] _ E O S4 ⟨g4.vr r3, r4, trivial⟩ fun f s5 α5 t5 vf hf g5 S5 r5 => ?_
 exact TO.seta _ _ _ loc _ _ hf c α5 t5 va vf _ E O S5 (((g3.trans g4).trans g5).vr r1) r5 fun s6 t6 h6 S6 => P .next loc s6 α5 t6 _ h6 (g1.trans ((g3.trans g4).trans g5)) S6 rfl
theorem XS.ret {e : Expr} {pos : Pos} (h : EV x e loc sto fun a s₁ => K (.ret a) loc s₁) : XS x (.Return (some e) pos) loc sto K :=
 fun c α s Q E O S P => wpAny_Return_some (h c α s _ E O S fun a s1 α1 t1 va ha g1 S1 r1 => P (.ret a) loc s1 α1 t1 _ ha g1 S1 ⟨va, rfl, r1⟩)
theorem XS.ret0 {pos : Pos} (h : K (.ret .none) loc sto) : XS x (.Return none pos) loc sto K :=
 fun c α s Q E O S P => wpAny_Return_none (P (.ret .none) loc _ _ _ _ h .refl S ⟨_, rfl, rfl⟩)
theorem XS.expr {e : Expr} {pos : Pos} (hc : F4 e = true) (h : EV x e loc sto fun a s₁ => K .next loc s₁) : XS x (.Expr e pos) loc sto K :=
 fun c α s Q E O S P => wpAny_Expr_any (h c α s _ E O S fun a s1 α1 t1 va ha g1 S1 r1 => P .next loc s1 α1 t1 _ ha g1 S1 rfl) (by unfold interactive; rw [O.kind]; rfl) (T9 hc)
theorem XS.if_ {t : Expr} {a b : List Stmt} {pos : Pos} (h : TS x t loc sto fun v s₁ => I0 v (XSs x a loc s₁ K) (XSs x b loc s₁ K)) : XS x (.If t a b pos) loc sto K := by
 intro c α s Q E O S P
 refine wpAny_If (h c α s _ E O S fun v s1 α1 t1 hv g1 S1 => ?_)
 cases v with
 | true => rw [if_pos rfl]; exact hv c α1 t1 Q E O S1 fun f l2 s2 α2 t2 fl h2 g2 S2 r2 => P f l2 s2 α2 t2 fl h2 (g1.trans g2) S2 r2
 | false => rw [if_neg v0o]; exact hv c α1 t1 Q E O S1 fun f l2 s2 α2 t2 fl h2 g2 S2 r2 => P f l2 s2 α2 t2 fl h2 (g1.trans g2) S2 r2
theorem OpS.mono {op : List Value → Sem Value} {as : List AV} {K K' : AV → Sto → Prop} (h : OpS x op as loc sto K) (k : ∀ l s, K l s → K' l s) : OpS x op as loc sto K' :=
 fun c α s vs Q E O S r P => h c α s vs Q E O S r fun v s' α' t' val hk => P v s' α' t' val (k v s' hk)
theorem Y0 {y : Str} {v : AV} {K K' : Loc → Sto → Prop} (h : stW x y v loc sto K) (k : ∀ l s, K l s → K' l s) : stW x y v loc sto K' := by
 unfold stW at h ⊢
 split at h
 ·exact k _ _ h
 ·split at h
  ·split at h
   ·exact k _ _ h
   ·exact h.elim
  ·exact h.elim
 ·exact h.elim
theorem q4t {y : Str} {K K' : AV → Sto → Prop} (h : ldW x y loc sto K) (k : ∀ l s, K l s → K' l s) : ldW x y loc sto K' := by
 unfold ldW at h ⊢
 split at h
 ·split at h
  ·exact k _ _ h
  ·exact h.elim
 ·split at h
  ·split at h
   ·exact k _ _ h
   ·exact h.elim
  ·exact h.elim
 ·exact h.elim
theorem w3 {v : AV} {P P' Q Q' : Prop} (h : I0 v P Q) (p : P → P') (q : Q → Q') : I0 v P' Q' := by
 unfold I0 at h ⊢
 split at h
 ·rename_i b; cases b
  ·exact q h
  ·exact p h
 ·exact h.elim
theorem A1 (TO : D8 x T) : ∀ (n : Nat) (sts : List Stmt) (loc : Loc) (sto : Sto) (K : KF), xw x T n sts loc sto K → XSs x sts loc sto K := by
 intro n
 induction n with
 | zero => intro sts loc sto K h; exact (show False from h).elim
 | succ n ih =>
  intro sts loc sto K h
  have ihX : ∀ {sts loc sto K}, xw x T n sts loc sto K → XSs x sts loc sto K := fun h => ih _ _ _ _ h
  have ihV : ∀ {e loc s K}, ew x T n false e loc s K → EV x e loc s K := fun h => A4 TO n false _ _ _ _ h
  have ihT : ∀ {e loc s K}, ew x T n true e loc s K → TS x e loc s K := fun h => A4 TO n true _ _ _ _ h
  cases sts with
  | nil => exact XSs.nil h
  | cons st r =>
   cases st with
   | Assign ts v p =>
    cases ts with
    | nil => exact (show False from h).elim
    | cons t ts => cases ts with
     | nil =>
      cases hc : F4 v with
      | false => exact (show (match F4 v with | true => _ | false => False : Prop) → False from fun h => by rw [hc] at h; exact h) h |>.elim
      | true => cases t with
       | Name y q =>
        have h : (match F4 v with
         | true => ew x T n false v loc sto fun a s₁ => stW x y a loc s₁ fun loc' s₂ => xw x T n r loc' s₂ K
         | false => False : Prop) := h
        rw [hc] at h
        exact XSs.cons (XS.assign hc ((ihV h).mono fun a s h => M7 (Y0 h fun l s h => ihX h)))
       | Subscript o i q =>
        have h : (match F4 v with
         | true => ew x T n false v loc sto fun a s₁ => ew x T n false o loc s₁ fun b s₂ => ew x T n false i loc s₂ fun d s₃ => T.set b d a s₃ fun s₄ => xw x T n r loc s₄ K
         | false => False : Prop) := h
        rw [hc] at h
        exact XSs.cons (XS.assignSub hc TO ((ihV h).mono fun a s h => (ihV h).mono fun b s h => (ihV h).mono fun d s h => TO.setm _ _ _ _ _ _ (fun s h => ihX h) h))
       | Attribute o m q =>
        have h : (match F4 v with
         | true => ew x T n false v loc sto fun a s₁ => ew x T n false o loc s₁ fun b s₂ => T.seta b m a s₂ fun s₄ => xw x T n r loc s₄ K
         | false => False : Prop) := h
        rw [hc] at h
        exact XSs.cons (XS.assignAtt hc TO ((ihV h).mono fun a s h => (ihV h).mono fun b s h => TO.setam _ _ _ _ _ _ (fun s h => ihX h) h))
       | _ =>
        have h : (match F4 v with
         | true => False
         | false => False : Prop) := h
        rw [hc] at h; exact h.elim
     | cons t' ts => cases ts with
      | cons _ _ => exact (show False from h).elim
      | nil =>
       have h : (match U0 t, U0 t', c6 v with
        | some y, some z, true => ew x T n false v loc sto fun a s₁ => stW x y a loc s₁ fun l' s₂ => stW x z a l' s₂ fun loc' s₃ => xw x T n r loc' s₃ K
        | _, _, _ => False : Prop) := h
       cases e1 : U0 t with
       | none => rw [e1] at h; exact h.elim
       | some y => cases e2 : U0 t' with
        | none => rw [e1, e2] at h; exact h.elim
        | some z => cases e3 : c6 v with
         | false => rw [e1, e2, e3] at h; exact h.elim
         | true =>
          rw [e1, e2, e3] at h
          obtain ⟨p1, rfl⟩ := i4 e1
          obtain ⟨p2, rfl⟩ := i4 e2
          obtain ⟨k, kk, pp, rfl⟩ := q0v e3
          exact XSs.cons (XS.assign2 ((ihV h).mono fun a s h => (M7 (Y0 h fun l s h => M7 (Y0 h fun l s h => ihX h)))))
   | AugAssign t op v p => cases t with
    | Name y q => exact XSs.cons (XS.aug (q4t (show ldW x y loc sto fun a s₁ => ew x T n false v loc s₁ fun b s₂ => T.aug op a b s₂ fun d s₃ => stW x y d loc s₃ fun loc' s₄ => xw x T n r loc' s₄ K from h) fun a s h => (ihV h).mono fun b s h => (TO.aug _ _ _ _ _ _ h).mono fun d s h => M7 (Y0 h fun l s h => ihX h)))
    | Attribute o m q =>
     exact XSs.cons (XS.augAtt TO ((ihV (show ew x T n false o loc sto fun a s₁ => T.att a m s₁ fun d s₃ => ew x T n false v loc s₃ fun e s₄ => T.aug op d e s₄ fun f s₅ => T.seta a m f s₅ fun s₆ => xw x T n r loc s₆ K from h)).mono fun a s h => h) fun a b d s h => ((ihV h).mono fun e s h => (TO.aug _ _ _ loc _ _ h).mono fun f s h => TO.setam _ _ _ _ _ _ (fun s h => ihX h) h))
    | Subscript o i q =>
     have h : (match G1 i with
      | true => ew x T n false o loc sto fun a s₁ => ew x T n false i loc s₁ fun b s₂ => T.get a b s₂ fun d s₃ => ew x T n false v loc s₃ fun e s₄ => T.aug op d e s₄ fun f s₅ => T.set a b f s₅ fun s₆ => xw x T n r loc s₆ K
      | false => False : Prop) := h
     cases hn : G1 i with
     | false => rw [hn] at h; exact h.elim
     | true => rw [hn] at h; exact XSs.cons (XS.augSub hn TO ((ihV h).mono fun a s h => (ihV h).mono fun b s h => (TO.get _ _ loc _ _ h).mono fun d s h => (ihV h).mono fun e s h => (TO.aug _ _ _ loc _ _ h).mono fun f s h => TO.setm _ _ _ _ _ _ (fun s h => ihX h) h))
    | _ => exact (show False from h).elim
   | Return e p => cases e with
    | none => exact XSs.cons (XS.ret0 h)
    | some e => exact XSs.cons (XS.ret ((ihV (e := e) (K := fun a s₁ => K (.ret a) loc s₁) h).mono fun a s h => h))
   | Expr e p =>
    have h : (match F4 e with
     | true => ew x T n false e loc sto fun a s₁ => xw x T n r loc s₁ K
     | false => False : Prop) := h
    cases hc : F4 e with
    | false => rw [hc] at h; exact h.elim
    | true => rw [hc] at h; exact XSs.cons (XS.expr hc ((ihV h).mono fun a s h => ihX h))
   | If t a b p =>
    exact XSs.cons (XS.if_ ((ihT (e := t) (K := fun v s₁ => I0 v
     (xw x T n a loc s₁ fun f l' s' => match f with | .next => xw x T n r l' s' K | f => K f l' s')
     (xw x T n b loc s₁ fun f l' s' => match f with | .next => xw x T n r l' s' K | f => K f l' s')) h).mono fun v s h => w3 h
     (fun h => (ihX h).mono fun f l s h => by cases f <;> first | exact ihX h | exact h)
     (fun h => (ihX h).mono fun f l s h => by cases f <;> first | exact ihX h | exact h)))
   | Pass p => exact XSs.cons (fun c α s Q E O S P => wpAny_Pass (P .next _ _ _ _ _ (ihX h) .refl S rfl))
   | Break p => exact XSs.cons (fun c α s Q E O S P => wpAny_Break (P .brk _ _ _ _ _ h .refl S rfl))
   | Continue p => exact XSs.cons (fun c α s Q E O S P => wpAny_Continue (P .cont _ _ _ _ _ h .refl S rfl))
   | _ => exact (show False from h).elim
end
def AV.Lt (k : Nat) : AV → Prop
 | .ref i => i < k
 | _ => True
def AO.Lt (k : Nat) : AO → Prop
 | .lst xs => ∀ a ∈ xs, a.Lt k
 | .tup xs => ∀ a ∈ xs, a.Lt k
 | .cell v => v.Lt k
 | .inst _ j => j < k
 | .attrs l => ∀ p ∈ l, p.2.Lt k
 | .jtab => 0 < k
 | _ => True
def P9 (k : Nat) (loc : Loc) : Prop := ∀ p ∈ loc, p.2.Lt k
def C2 (k : Nat) (sto : Sto) : Prop := ∀ o ∈ sto, o.Lt k
noncomputable def AV.ltB (k : Nat) : AV → Bool
 | .ref i => Nat.blt i k
 | _ => true
noncomputable def AO.ltB (k : Nat) : AO → Bool
 | .lst xs => xs.all (AV.ltB k)
 | .tup xs => xs.all (AV.ltB k)
 | .cell v => v.ltB k
 | .inst _ j => Nat.blt j k
 | .attrs l => l.all fun p => p.2.ltB k
 | .jtab => Nat.blt 0 k
 | _ => true
theorem AV.lt_of {k : Nat} {a : AV} (h : a.ltB k = true) : a.Lt k := by
 cases a <;> first | exact trivial | exact Nat.lt_of_lt_of_le (Nat.lt_of_lt_of_eq (v0u _) rfl) (v0v h)
theorem AO.lt_of {k : Nat} {a : AO} (h : a.ltB k = true) : a.Lt k := by
 cases a with
 | lst xs => exact fun v hv => AV.lt_of (v0w.mp h v hv)
 | tup xs => exact fun v hv => AV.lt_of (v0w.mp h v hv)
 | cell v => exact AV.lt_of (a := v) h
 | inst C j => exact v0v h
 | attrs l => exact fun p hp => AV.lt_of (v0w.mp h p hp)
 | jtab => exact v0v h
 | _ => exact trivial
theorem A7 {k : Nat} {s : Sto} (h : s.all (AO.ltB k) = true) : C2 k s := fun o ho => AO.lt_of (v0w.mp h o ho)
theorem B9 {k : Nat} {l : Loc} (h : (l.all fun p => p.2.ltB k) = true) : P9 k l := fun p hp => AV.lt_of (v0w.mp h p hp)
theorem C7 {n : Nat} {as : List AV} (h : as.all (AV.ltB n) = true) : ∀ a ∈ as, a.Lt n := fun a ha => AV.lt_of (v0w.mp h a ha)
theorem AV.Lt.mono {k j : Nat} {a : AV} (h : a.Lt k) (l : k ≤ j) : a.Lt j := by cases a <;> first | trivial | exact Nat.lt_of_lt_of_le h l
theorem AO.Lt.mono {k j : Nat} {a : AO} (h : a.Lt k) (l : k ≤ j) : a.Lt j := by
 cases a with
 | lst xs => exact fun a ha => (h a ha).mono l
 | tup xs => exact fun a ha => (h a ha).mono l
 | cell v => exact AV.Lt.mono (a := v) h l
 | inst C i => exact Nat.lt_of_lt_of_le h l
 | attrs q => exact fun p hp => (h p hp).mono l
 | jtab => exact Nat.lt_of_lt_of_le h l
 | _ => trivial
theorem VR.cut {α β : List Addr} {a : AV} {v : Value} (h : VR (α ++ β) a v) (l : a.Lt α.length) : VR α a v := by
 cases a <;> try exact h
 obtain ⟨x, hx, e⟩ := h
 exact ⟨x, by rw [q9V l] at hx; exact hx, e⟩
theorem VRs.cut {α β : List Addr} {as : List AV} {vs : List Value} (h : VRs (α ++ β) as vs) (l : ∀ a ∈ as, a.Lt α.length) : VRs α as vs :=
 VRs.ind (P := fun as vs => (∀ a ∈ as, a.Lt α.length) → VRs α as vs) (fun _ => trivial) (fun _ _ _ _ r _ ih l => ⟨r.cut (l _ v0x), ih fun a ha => l a (v0y _ ha)⟩) as vs h l
theorem LRep.cut {α β : List Addr} {xs : List AV} {o : Obj} (h : LRep (α ++ β) xs o) (l : ∀ a ∈ xs, a.Lt α.length) : LRep α xs o := by
 obtain ⟨c, z, vs, n, d, r⟩ := h; exact ⟨c, z, vs, n, d, r.cut l⟩
theorem ER.cut {α β : List Addr} {l : List (Str × AV)} : ∀ {es : List DictEntry}, ER (α ++ β) l es → (∀ p ∈ l, p.2.Lt α.length) → ER α l es := by
 induction l with
 | nil => intro es h _; cases es with
  | nil => exact trivial
  | cons _ _ => exact h.elim
 | cons p l ih => intro es h q; cases es with
  | nil => exact h.elim
  | cons e es => exact ⟨h.1, h.2.1.cut (q _ v0x), ih h.2.2 fun a ha => q a (v0y _ ha)⟩
theorem OR.cut {α β : List Addr} {a : AO} {o : Obj} (h : OR (α ++ β) a o) (l : a.Lt α.length) : OR α a o := by
 cases a with
 | lst xs => exact LRep.cut h l
 | lsS xs => exact LRep.cut h fun a ha => by obtain ⟨_, _, rfl⟩ := v0z.mp ha; trivial
 | lsI xs => exact LRep.cut h fun a ha => by obtain ⟨_, _, rfl⟩ := v0z.mp ha; trivial
 | lsB xs => exact LRep.cut h fun a ha => by obtain ⟨_, _, rfl⟩ := v0z.mp ha; trivial
 | tup xs => obtain ⟨c, z, vs, n, d, r⟩ := h; exact ⟨c, z, vs, n, d, r.cut l⟩
 | cell v => obtain ⟨u, d, r⟩ := h; exact ⟨u, d, r.cut l⟩
 | raw o => exact h
 | rng a b c => exact h
 | inst C j => obtain ⟨a, e, r⟩ := h; exact ⟨a, by rw [q9V l] at e; exact e, r⟩
 | attrs q => obtain ⟨es, n, e, r⟩ := h; exact ⟨es, n, e, r.cut l⟩
 | jtab => exact ⟨by have := h.1; rw [q9V l] at this; exact this, h.2⟩
section
variable {x : SX} {c : Cx} {α β : List Addr} {loc : Loc} {sto : Sto} {s : Shared}
theorem Sat.addRaw (S : Sat x c α loc sto s) {I : Addr} {o : Obj} (hI : I ∉ α) (hL : I ≠ c.env.locals) (h₀ : c.h₀.get? I = none) (ho : s.heap.get? I = some o) : Sat x c (α ++ [I]) loc (sto ++ [.raw o]) s := by
 obtain ⟨⟨m, F, l⟩, ⟨ln, nd, ce⟩, off, os, gens, cel⟩ := S
 refine ⟨⟨m, F, fun y v e => ?_⟩, ⟨by simp [ln], ?_, fun i o' e => ?_⟩, fun a ha => ?_, os, gens, fun y i e => ?_⟩
 ·obtain ⟨u, h1, h2⟩ := l y v e; exact ⟨u, h1, h2.mono⟩
 ·rw [v0b]
  refine ⟨nd, by simp, fun a ha b hb => ?_⟩
  cases v0c.mp hb
  exact fun q => hI (q ▸ ha)
 ·by_cases hi : i < sto.length
  ·rw [q9V hi] at e
   obtain ⟨a, ob, h1, h2, h3⟩ := ce i o' e
   exact ⟨a, ob, by rw [q9V (by lia)]; exact h1, h2, h3.mono⟩
  ·rw [v0d (by lia)] at e
   have : i - sto.length = 0 := by
    cases hq : i - sto.length with
    | zero => rfl
    | succ j => rw [hq] at e; simp at e
   rw [this] at e; cases e
   refine ⟨I, o, ?_, ho, rfl⟩
   rw [v0d (by lia), show i - α.length = 0 by lia]; rfl
 ·rcases v0f.mp ha with q | q
  ·exact off a q
  ·cases v0c.mp q; exact ⟨hL, h₀⟩
 ·obtain ⟨a, h1, h2⟩ := cel y i e
  exact ⟨a, by rw [q9V (q9W.mp h1).1]; exact h1, h2⟩
theorem Sat.trunc {s2 rest : Sto} (S : Sat x c (α ++ β) loc (s2 ++ rest) s) (hl : s2.length = α.length) (lt : P9 α.length loc) (st : C2 α.length s2) (cm : ∀ (y : Str) (i : Nat), x.cm.lookup y = some i → i < α.length) : Sat x c α loc s2 s := by
 obtain ⟨⟨m, F, l⟩, ⟨ln, nd, ce⟩, off, os, gens, cel⟩ := S
 refine ⟨⟨m, F, fun y v e => ?_⟩, ⟨hl.symm, (v0b.mp nd).1, fun i o e => ?_⟩, fun a ha => off a (List.mem_append_left _ ha), os, gens, fun y i e => ?_⟩
 ·obtain ⟨u, h1, h2⟩ := l y v e
  refine ⟨u, h1, h2.cut ?_⟩
  have : ∀ {loc : Loc}, P9 α.length loc → loc.lookup y = some v → v.Lt α.length := by
   intro loc
   induction loc with
   | nil => intro _ e; cases e
   | cons p r ih =>
    intro lt e
    rw [show p = (p.1, p.2) from rfl, v0n] at e
    split at e
    ·cases e; exact lt p v0x
    ·exact ih (fun q hq => lt q (v0y _ hq)) e
  exact this lt e
 ·have hi := (q9W.mp e).1
  obtain ⟨a, ob, h1, h2, h3⟩ := ce i o (by rw [q9V hi]; exact e)
  exact ⟨a, ob, by rw [q9V (by lia)] at h1; exact h1, h2, h3.cut (st o (v0i e))⟩
 ·obtain ⟨a, h1, h2⟩ := cel y i e
  exact ⟨a, by rw [q9V (cm y i e)] at h1; exact h1, h2⟩
theorem Sat.cmLt (S : Sat x c α loc sto s) : ∀ (y : Str) (i : Nat), x.cm.lookup y = some i → i < α.length := fun y i e => by
 obtain ⟨a, h1, _⟩ := S.cel y i e
 exact (q9W.mp h1).1
theorem Sat.forget (S : Sat x c α loc sto s) {loc' : Loc} (h : ∀ y v, loc'.lookup y = some v → loc.lookup y = some v) : Sat x c α loc' sto s :=
 let ⟨m, F, l⟩ := S.fr; ⟨⟨m, F, fun y v e => l y v (h y v e)⟩, S.hs, S.off, S.os, S.gens, S.cel⟩
theorem Sat.retype (S : Sat x c α loc sto s) {j : Nat} {o : Obj} {ao : AO} (h : sto[j]? = some (.raw o)) (r : OR α ao o) : Sat x c α loc (sto.set j ao) s := by
 refine ⟨S.fr, ⟨by simp [S.hs.len], S.hs.nd, fun i ob e => ?_⟩, S.off, S.os, S.gens, S.cel⟩
 by_cases hij : j = i
 ·subst hij
  rw [v0j (q9W.mp h).1] at e; cases e
  obtain ⟨a, ob, h1, h2, h3⟩ := S.hs.cell j _ h
  obtain rfl : ob = o := h3
  exact ⟨a, ob, h1, h2, r⟩
 ·rw [v0l hij] at e
  exact S.hs.cell i ob e
theorem Sat.freeze (S : Sat x c α loc sto s) {j : Nat} {ao : AO} (h : sto[j]? = some ao) : ∃ (a : Addr) (o : Obj), α[j]? = some a ∧ s.heap.get? a = some o ∧ OR α ao o ∧ Sat x c α loc (sto.set j (.raw o)) s := by
 obtain ⟨a, o, h1, h2, h3⟩ := S.hs.cell j _ h
 refine ⟨a, o, h1, h2, h3, S.fr, ⟨by simp [S.hs.len], S.hs.nd, fun i ob e => ?_⟩, S.off, S.os, S.gens, S.cel⟩
 by_cases hij : j = i
 ·subst hij
  rw [v0j (q9W.mp h).1] at e; cases e
  exact ⟨a, o, h1, h2, rfl⟩
 ·rw [v0l hij] at e
  exact S.hs.cell i ob e
end
noncomputable def q2j (Inv : Loc → Sto → Prop) (K : KF) (k : Nat) (o : Obj) : KF := fun f loc' sto' => match f with
 | .brk => K .next loc' sto'
 | .ret v => K (.ret v) loc' sto'
 | _ => ∃ loc₂ s₂ junk, (∀ y v, loc₂.lookup y = some v → loc'.lookup y = some v) ∧ sto' = s₂ ++ .raw o :: junk ∧ s₂.length = k ∧ P9 k loc₂ ∧ C2 k s₂ ∧ Inv loc₂ s₂
theorem Sat.but {x : SX} {c : Cx} {α : List Addr} {loc : Loc} {sto : Sto} {s : Shared} (S : Sat x c α loc sto s) {I : Addr} (hI : I ∉ α) (hL : I ≠ c.env.locals) (h₀ : c.h₀.get? I = none) {h₁ : Heap} {tk : Nat} (hk : ∀ b o, b ∉ [I] → s.heap.get? b = some o → h₁.get? b = some o) : Sat x c α loc sto { s with heap := h₁, toks := tk } := by
 obtain ⟨m, F, l⟩ := S.fr
 refine ⟨⟨m, F.kBut (S := [I]) (fun q => hL (v0c.mp q).symm) (fun b hb => by rw [v0c.mp hb]; exact h₀) hk, l⟩, ⟨S.hs.len, S.hs.nd, fun j o e => ?_⟩, S.off, S.os, S.gens, S.cel⟩
 obtain ⟨a, ob, h1, h2, h3⟩ := S.hs.cell j o e
 exact ⟨a, ob, h1, hk a ob (fun q => hI (v0c.mp q ▸ v0i h1)) h2, h3⟩
def FJ (x : SX) (c : Cx) (α : List Addr) (St : Nat → Heap → Prop) (Inv : Nat → Loc → Sto → Prop) (n k : Nat) (s : Shared) : Prop := ∃ i loc sto, k = n + 1 - i ∧ i ≤ n ∧ Sat x c α loc sto s ∧ St i s.heap ∧ Inv i loc sto
theorem q3d {x : SX} {c : Cx} {α : List Addr} {loc : Loc} {sto : Sto} {s : Shared} {y : Str} {p : Pos} {body : List Stmt} {K : KF} {I : Addr} {fp : List Addr} {n : Nat} {P : Nat → Value → Prop} {St : Nat → Heap → Prop} {el : Nat → AV} {R : Result → Shared → Prop}
  (O : Ok x c) (S : Sat x c α loc sto s) (hy : lk x.scope.names y = some .local) (W : Walks (pw) x.w c.A I fp [I] n P St) (hst : St 0 s.heap) (hIo : ∀ i h, St i h → ∃ o, h.get? I = some o)
  (hI : I ∉ α) (hL : I ≠ c.env.locals) (h₀ : c.h₀.get? I = none) (hP : ∀ i v, i < n → P i v → VR α (el i) v) (fz : List (Nat × Obj)) (hfp : ∀ b ∈ fp, b = I ∨ ∃ p ∈ fz, α[p.1]? = some b)
  (Inv : Nat → Loc → Sto → Prop) (hfz : ∀ i loc sto, Inv i loc sto → ∀ p ∈ fz, sto[p.1]? = some (.raw p.2)) (h0 : Inv 0 loc sto)
  (step : ∀ i loc sto o, i < n → sto.length = α.length → Inv i loc sto → XSs x body (up loc y (el i)) (sto ++ [.raw o]) (q2j (Inv (i + 1)) K α.length o))
  (done : ∀ loc sto, sto.length = α.length → Inv n loc sto → K .next loc sto)
  (hR : ∀ f loc' sto' α' s' fl, K f loc' sto' → Ex α α' → Sat x c α' loc' sto' s' → FR α' f fl → R (.ok fl) s') :
  codeAny (model pw x.w) c.A (.forLoop (.Name y p) (.ref I) body [] c.env) R s := by
 have cm := S.cmLt
 refine codeAny_forLoop (FJ x c α St Inv n) ?_ (n + 1) ⟨0, loc, sto, rfl, Nat.zero_le _, S, hst, h0⟩
 intro k s' hJ
 refine small fun G hG => ?_
 obtain ⟨i, loc, sto, rfl, hi, S, hst, hInv⟩ := hJ
 refine hG ?_
 clear hG
 by_cases hlt : i < n
 ·refine W.item i s' _ _ hlt hst fun v h₁ tk hPv hst₁ hk => ?_
  have S₁ : Sat x c α loc sto { s' with heap := h₁, toks := tk } := S.but hI hL h₀ hk
  obtain ⟨m, F₁, l⟩ := S₁.fr
  have rv := hP i v hlt hPv
  refine v1o (v1l (B8 O hy) F₁.ns (fun h₂ hn hs => ?_) (by rw [O.kind]; rfl))
  have S₂ : Sat x c α (up loc y (el i)) sto { s' with heap := h₂, toks := tk + 1 } := S₁.setLoc rv F₁ l hn hs
  obtain ⟨oI, hoI⟩ := hIo _ _ hst₁
  have hoI₂ : h₂.get? I = some oI := (hs.2 I hL).trans hoI
  have S₃ := S₂.addRaw hI hL h₀ hoI₂
  refine step i loc sto oI hlt S.hs.len.symm hInv c _ _ _ _ O S₃ fun f loc' sto' α' s₃ fl hf hx S₄ r => ?_
  obtain ⟨β, rfl⟩ := hx
  have turn : (∃ loc₂ s₂ junk, (∀ y v, loc₂.lookup y = some v → loc'.lookup y = some v) ∧ sto' = s₂ ++ .raw oI :: junk ∧ s₂.length = α.length ∧ P9 α.length loc₂ ∧ C2 α.length s₂ ∧ Inv (i + 1) loc₂ s₂) →
    ∃ m, m < n + 1 - i ∧ FJ x c α St Inv n m s₃ := by
   rintro ⟨loc₂, s₂, junk, hsub, rfl, hl, lt, st, hInv₂⟩
   have S₅ : Sat x c α loc₂ s₂ s₃ := Sat.trunc (β := I :: β) (rest := .raw oI :: junk) (by simpa using S₄.forget hsub) hl lt st cm
   refine ⟨n + 1 - (i + 1), by lia, i + 1, loc₂, s₂, rfl, hlt, S₅, ?_, hInv₂⟩
   refine W.frame _ _ _ hst₁ fun b hb o e => ?_
   rcases hfp b hb with rfl | ⟨q, hq, hqa⟩
   ·refine Eq.trans ?_ (hoI.symm.trans e)
    exact S₄.rawAt (i := α.length) (by rw [q9V (by simp), v0d (v0h _), v0q]; rfl) (by rw [v0d (by lia), hl, v0q]; rfl)
   ·exact (S₅.rawAt hqa (hfz _ _ _ hInv₂ q hq)).trans ((S₁.rawAt hqa (hfz _ _ _ hInv q hq)).symm.trans e)
  have ex : Ex α (α ++ [I] ++ β) := ⟨[I] ++ β, by simp⟩
  cases f with
  | next => obtain rfl : fl = .next := r; exact turn hf
  | cont => obtain rfl : fl = .cont := r; exact turn hf
  | brk => obtain rfl : fl = .brk := r; exact hR .next loc' sto' _ s₃ _ hf ex S₄ rfl
  | ret v => obtain ⟨u, rfl, hu⟩ := r; exact hR (.ret v) loc' sto' _ s₃ _ hf ex S₄ ⟨u, rfl, hu⟩
 ·obtain rfl : i = n := by lia
  refine W.done s' _ _ hst fun h₁ tk hk => v1n ?_
  exact hR .next loc sto α _ _ (done loc sto S.hs.len.symm hInv) .refl (S.but hI hL h₀ hk) rfl
noncomputable def O9 (env : Env) (names : List (Str × NameKind)) (cs : List (Str × Addr)) : List (Str × Addr) := names.foldl (fun cs p => if p.2 == .free then (p.1, (env.cells.lookup p.1).getD 0) :: cs else cs) cs
noncomputable def addI (cm : List (Str × Nat)) (names : List (Str × NameKind)) (cs : List (Str × Nat)) : List (Str × Nat) := names.foldl (fun cs p => if p.2 == .free then (p.1, (lk cm p.1).getD 0) :: cs else cs) cs
noncomputable def q2k (sc scope : Scope) : Scope :=
 { scope with names := scope.names.map fun p => if (p.2 == .free && sc.kind == .function && lk sc.names p.1 == some .cell) then (p.1, .cell) else p }
noncomputable def cx (x : SX) (scope : Scope) : SX := { w := x.w, fr := x.fr, d := x.d, scope := q2k x.scope scope, cm := addI x.cm scope.names [] }
theorem q4u {x : SX} {c : Cx} (O : Ok x c) (scope : Scope) : relabel scope c.env = q2k x.scope scope := by
 unfold relabel q2k
 congr 1
 refine List.map_congr_left fun p _ => ?_
 obtain ⟨n, k⟩ := p
 show (if (k == .free && c.env.scope.kind == .function && c.env.scope.names.lookup n == some .cell) = true then (n, NameKind.cell) else (n, k)) = _
 rw [O.scope, ← F7]
theorem m4 {env : Env} : ∀ (names : List (Str × NameKind)) (cs : List (Str × Addr)), (∀ p ∈ names, p.2 = .free → (env.cells.lookup p.1).isSome = true) →
  (forIn names cs fun (x : Str × NameKind) (r : List (Str × Addr)) => (if (x.2 == .free) = true then do let a ← cellOf env x.1; pure (ForInStep.yield ((x.1, a) :: r)) else pure (ForInStep.yield r) : Sem _)) = pure (O9 env names cs)
 | [], cs, _ => rfl
 | (n, k) :: r, cs, h => by
  rw [List.forIn_cons]
  have ih := m4 (env := env) r
  by_cases hk : (k == .free) = true
  ·simp only [hk, if_true]
   have hs := h (n, k) v0x (by simpa using hk)
   obtain ⟨a, ha⟩ := v0A.mp hs
   have hc : cellOf env n = pure a := by unfold cellOf; rw [ha]
   rw [hc]
   simp only [pure_bind]
   rw [ih _ fun p hp => h p (v0y _ hp)]
   unfold O9
   rw [v0B, if_pos hk, ha]; rfl
  ·simp only [hk]
   simp only [v0C, if_false, pure_bind]
   rw [ih _ fun p hp => h p (v0y _ hp)]
   unfold O9
   rw [v0B, if_neg hk]
theorem y8 {env : Env} {scope : Scope} (h : ∀ p ∈ scope.names, p.2 = .free → (env.cells.lookup p.1).isSome = true) : closureFor scope env = pure (O9 env scope.names []) := by
 have := m4 scope.names [] h
 unfold closureFor
 show (forIn scope.names ([] : List (Str × Addr)) _ >>= fun r => pure r) = _
 rw [bind_pure]
 refine Eq.trans ?_ this
 congr 1
theorem q5x {env : Env} {α : List Addr} {cm : List (Str × Nat)} (hc : ∀ (y : Str) (i : Nat), cm.lookup y = some i → ∃ a : Addr, α[i]? = some a ∧ env.cells.lookup y = some a) : ∀ (names : List (Str × NameKind)) (cs : List (Str × Addr)) (is : List (Str × Nat)),
  (∀ p ∈ names, p.2 = .free → (lk cm p.1).isSome = true) → (∀ (y : Str) (i : Nat), is.lookup y = some i → ∃ a : Addr, α[i]? = some a ∧ cs.lookup y = some a) →
  ∀ (y : Str) (i : Nat), (addI cm names is).lookup y = some i → ∃ a : Addr, α[i]? = some a ∧ (O9 env names cs).lookup y = some a
 | [], cs, is, _, h => h
 | (n, k) :: r, cs, is, hf, h => by
  have ih := q5x hc r
  unfold addI O9
  rw [v0B, v0B]
  by_cases hk : (k == .free) = true
  ·rw [if_pos hk, if_pos hk]
   refine ih _ _ (fun p hp => hf p (v0y _ hp)) fun y i e => ?_
   have hs := hf (n, k) v0x (by simpa using hk)
   obtain ⟨j, hj⟩ := v0A.mp hs
   obtain ⟨a, ha1, ha2⟩ := hc n j (by rw [← F7]; exact hj)
   rw [v0n] at e ⊢
   cases q : y == n with
   | true =>
    simp only [q] at e ⊢
    dsimp only at hj
    rw [hj] at e; cases e
    exact ⟨a, ha1, by rw [ha2]; rfl⟩
   | false => simp only [q] at e ⊢; exact h y i e
  ·rw [if_neg hk, if_neg hk]
   exact ih _ _ (fun p hp => hf p (v0y _ hp)) h
def p8 (x : SX) (scope : Scope) : Prop := (∀ p ∈ scope.names, p.2 = .free → (lk x.cm p.1).isSome = true) ∧ (∀ p ∈ scope.names, p.2 ≠ .cell) ∧ scope.kind = .function ∧ (∀ p ∈ scope.names, p.2 = .local → scope.names.lookup p.1 = some .local)
theorem U1 (o : Obj) (f : Array Value → Array Value) : (o.mapSeq f).slots = o.slots := by obtain ⟨c, d, dt, sl⟩ := o; cases dt <;> rfl
theorem W0 (o : Obj) (f : Array Value → Array Value) : (o.mapSeq f).dict = o.dict := by obtain ⟨c, d, dt, sl⟩ := o; cases dt <;> rfl
theorem q2l {prog : Program} {w : World} {A : Around} {E : Value → Shared → Prop} {s : Shared} {l : Addr} {o : Obj} {items : Array Value} {n : Nat} {v : Value} {Q : Value → Shared → Prop} (ho : s.heap.get? l = some o) (hc : o.cls = .type "list") (hd : o.data = .seq items n)
  (hsz : items.size ≤ sizeLine) (hQ : Q .none { s with heap := s.heap.update l (Obj.mapSeq (·.push v)) }) : wpAny (model prog w) A (call (.builtin "list.append") [.ref l, v]) Q E s := by
 refine wpAny_call_entry slot_list_append (Heap.IsList.typeIs ⟨o, ho, hc, n, hd⟩) entry_list_append ?_ (args_list_append _ _)
 show wpAny _ _ (updateSeq l (·.push v) >>= fun _ => ret .none) _ _ s
 refine v1e ?_
 exact v1p ho hd (v1h ⟨.none, rfl, hQ⟩)
theorem m5 {x : SX} {c : Cx} {α : List Addr} {loc : Loc} {sto : Sto} {s : Shared} {E : Value → Shared → Prop} {Q : Value → Shared → Prop} {i : Nat} {l : Addr} {xs : List AV} {a : AV} {v : Value} (S : Sat x c α loc sto s) (hi : sto[i]? = some (.lst xs)) (hl : α[i]? = some l) (r : VR α a v) (hsz : xs.length ≤ sizeLine)
  (P : ∀ s', Sat x c α loc (sto.set i (.lst (xs ++ [a]))) s' → (∀ b o, b ≠ l → s.heap.get? b = some o → s'.heap.get? b = some o) → s'.toks = s.toks → Q .none s') : wpAny (model pw x.w) c.A (call (.builtin "list.append") [.ref l, v]) Q E s := by
 obtain ⟨o, h2, h3, h4, vs, n, h5, h6⟩ := S.objAt hl hi
 obtain ⟨n', hd'⟩ := Obj.data_mapSeq h5 (·.push v)
 refine q2l h2 h3 h5 (by rw [← v0D, ← h6.length]; exact hsz) (P _ (S.upd (n := s.toks) hl h2 (ao := .lst (xs ++ [a])) ⟨(Obj.cls_mapSeq ..).trans h3, ⟨(W0 ..).trans h4.1, (U1 ..).trans h4.2⟩, _, _, hd', ?_⟩ (Obj.isFreed_of_seq hd')) (fun b ob nb e => (Heap.get?_update_ne _ _ _ _ nb).trans e) rfl)
 rw [Array.toList_push]
 exact h6.append ⟨r, trivial⟩
def V6 (Inv : List AV → Sto → Prop) (ys : List AV) (k : Nat) (o : Obj) : AV → Sto → Prop := fun v s' => ∃ s₂ junk, s' = s₂ ++ .lst ys :: .raw o :: junk ∧ s₂.length = k ∧ v.Lt k ∧ C2 k s₂ ∧ Inv (ys ++ [v]) s₂
def CJ (x : SX) (c : Cx) (αD : List Addr) (St : Nat → Heap → Prop) (Inv : Nat → List AV → Sto → Prop) (n k : Nat) (m : Nat) (s : Shared) : Prop :=
 ∃ i ys sto, m = n + 1 - i ∧ i ≤ n ∧ Sat x c αD [] (sto ++ [.lst ys]) s ∧ sto.length = k ∧ C2 k sto ∧ ys.length ≤ i ∧ (∀ a ∈ ys, a.Lt k) ∧ St i s.heap ∧ Inv i ys sto
theorem q2m {x : SX} {c : Cx} {α : List Addr} {loc : Loc} {sto : Sto} {s : Shared} {y : Str} {px pos : Pos} {elt iter : Expr} {ifs : List Expr} {scope : Scope} {I : Addr} {fp : List Addr} {n : Nat} {P : Nat → Value → Prop} {St : Nat → Heap → Prop} {el : Nat → AV}
  {E : Value → Shared → Prop} {RR : Value → Addr → Result → Shared → Prop}
  (O : Ok x c) (S : Sat x c α loc sto s) (fo : p8 x scope) (hy : scope.names.lookup y = some .local) (W : Walks (pw) x.w c.A I fp [I] n P St) (hst : St 0 s.heap) (hIo : ∀ i h, St i h → ∃ o, h.get? I = some o)
  (hI : I ∉ α) (hL : I ≠ c.env.locals) (h₀ : c.h₀.get? I = none) (hIs : I < s.heap.objs.size) (hP : ∀ i v, i < n → P i v → VR α (el i) v) (fz : List (Nat × Obj)) (hfp : ∀ b ∈ fp, b = I ∨ ∃ p ∈ fz, α[p.1]? = some b)
  (Inv : Nat → List AV → Sto → Prop) (hfz : ∀ i ys sto, Inv i ys sto → ∀ p ∈ fz, sto[p.1]? = some (.raw p.2)) (h0 : Inv 0 [] sto) (hs0 : C2 α.length sto) (hn : n ≤ sizeLine)
  (step : ∀ i ys sto o, i < n → sto.length = α.length → Inv i ys sto → match ifs with
   | [] => EV (cx x scope) elt [(y, el i)] (sto ++ [.lst ys, .raw o]) (V6 (Inv (i + 1)) ys α.length o)
   | [t] => TS (cx x scope) t [(y, el i)] (sto ++ [.lst ys, .raw o]) fun b s' => s' = sto ++ [.lst ys, .raw o] ∧ I0 b (EV (cx x scope) elt [(y, el i)] (sto ++ [.lst ys, .raw o]) (V6 (Inv (i + 1)) ys α.length o)) (Inv (i + 1) ys sto)
   | _ => False)
  (hR : ∀ D C ys sto' s', Inv n ys sto' → sto'.length = α.length → Sat x c (α ++ [D]) loc (sto' ++ [.lst ys]) s' → (∃ m, s'.heap.Ns C m) → C ∉ α ++ [D] → C ≠ c.env.locals → c.h₀.get? C = none → RR (.ref D) C (.ok .next) s') :
  wpAny (model pw x.w) c.A (newList []) (fun acc s₃ => wpAny (model pw x.w) c.A (newFunctionEnv scope c.env.globals (O9 c.env scope.names []) [] c.env.qual none .none (some c.env)) (fun cenv s₄ =>
   codeAny (model pw x.w) c.A (.compStart (.ListComp elt [⟨.Name y px, iter, ifs, 0⟩] scope pos) 0 (.ref I) acc { cenv with scope := relabel scope c.env }) (RR acc cenv.locals) s₄) E s₃) E s := by
 obtain ⟨fo1, fo2, fo3, fo4⟩ := fo
 refine v1i (wpAny_newFunctionEnv fo2 (by intro y hy; simp at hy) (fun h₁ hns₁ hsb₁ => ?_) fo3)
 dsimp only at hns₁ hsb₁ ⊢
 generalize hH2 : s.heap.push { cls := .type "list", dict := none, data := .seq ([] : List Value).toArray } = H2 at hns₁ hsb₁ ⊢
 have hC : H2.objs.size = s.heap.objs.size + 1 := by rw [← hH2, v0E]
 have hsz : ∀ b, b < s.heap.objs.size → b ≠ H2.objs.size ∧ b ≠ s.heap.objs.size := fun b hb => ⟨by rw [hC]; exact Nat.ne_of_lt (Nat.lt_succ_of_lt hb), Nat.ne_of_lt hb⟩
 have hDC : s.heap.objs.size ≠ H2.objs.size := by rw [hC]; exact Nat.ne_of_lt (v0u _)
 have old : ∀ b o, s.heap.get? b = some o → h₁.get? b = some o := fun b o e => hsb₁.extBut b o (hsz b (v0a e)).1 (q9X _ (hH2 ▸ q9X _ e))
 have hacc : h₁.get? s.heap.objs.size = some { cls := .type "list", dict := none, data := .seq ([] : List Value).toArray } := hsb₁.extBut _ _ hDC (q9X _ (hH2 ▸ v0e _ rfl))
 have αlt : ∀ a ∈ α, a < s.heap.objs.size := fun a ha => by
  obtain ⟨i, hi, e⟩ := q9Y.mp ha
  obtain ⟨ob, h2, _⟩ := S.objAt ((q9Z hi).trans (congrArg _ e)) (q9Z (S.hs.len ▸ hi))
  exact v0a h2
 have cle : ∀ b, s.heap.objs.size ≤ b → c.h₀.get? b = none := fun b hb => by
  obtain ⟨m, F, l⟩ := S.fr
  exact F.keep.none (v0g hb)
 have hC₀ : c.h₀.get? H2.objs.size = none := cle _ (by rw [hC]; exact Nat.le_succ _)
 have hD₀ : c.h₀.get? s.heap.objs.size = none := cle _ (v0h _)
 obtain ⟨m, F, l⟩ := S.fr
 have Llt : c.env.locals < s.heap.objs.size := F.ns.lt
 generalize hCd : H2.objs.size = C at hC hDC hns₁ hsb₁ hC₀ hsz ⊢
 generalize hDd : s.heap.objs.size = D at hC hDC hIs hsz hacc αlt cle hD₀ Llt ⊢
 have hCα : C ∉ α := fun q => (hsz C (αlt C q)).1 rfl
 have hDα : D ∉ α := fun q => (hsz D (αlt D q)).2 rfl
 have hCL : C ≠ c.env.locals := fun q => (hsz _ Llt).1 q.symm
 have hDL : D ≠ c.env.locals := fun q => (hsz _ Llt).2 q.symm
 have hCI : I ≠ C := (hsz I hIs).1
 have hDI : I ≠ D := (hsz I hIs).2
 obtain ⟨oL, eL, pL, hoL, rL⟩ := F.ns
 generalize hg : hideAll h₁ (C :: D :: I :: α) = g
 have gget : ∀ b o, h₁.get? b = some o → b ∉ C :: D :: I :: α → g.get? b = some o := fun b o e n => hg ▸ hideAll_get _ e n
 have gnone : ∀ b, b ∈ C :: D :: I :: α → g.get? b = none := fun b e => hg ▸ hideAll_none _ e
 have gof : ∀ b o, g.get? b = some o → h₁.get? b = some o := fun b o e => of_hideAll _ (hg ▸ e)
 have gL : g.get? c.env.locals = some oL := gget _ _ (old _ _ hoL) fun q => by
  simp only [v0F] at q
  rcases q with q | q | q | q
  ·exact hCL q.symm
  ·exact hDL q.symm
  ·exact hL q.symm
  ·exact (S.off _ q).1 rfl
 have g₀ : ∀ b o, (∃ o₀, c.h₀.get? b = some o₀) → s.heap.get? b = some o → g.get? b = some o := fun b o ⟨_, e⟩ d => gget _ _ (old _ _ d) fun q => by
  simp only [v0F] at q
  rcases q with q | q | q | q
  ·rw [q, hC₀] at e; cases e
  ·rw [q, hD₀] at e; cases e
  ·rw [q, h₀] at e; cases e
  ·rw [(S.off _ q).2] at e; cases e
 have back : ∀ h m', FrX c.fs g C h m' → FrX c.fs c.h₀ c.env.locals h m := fun h m' F' => ⟨let ⟨_, sl, d⟩ := F'.keep _ _ gL; ⟨{ oL with slots := sl }, eL, pL, d, rL⟩, F.keep.comp fun b o q e => F'.keep _ _ (g₀ b o q e), F.off⟩
 let c' : Cx := { c with h₀ := g, env := compEnvC scope (O9 c.env scope.names []) C c.env }
 have O' : Ok (cx x scope) c' := ⟨fun q => ⟨(O.below q).1, (O.below q).2.1, fun h m' F' => (O.below q).2.2 h m (back h m' F')⟩, fun b o e => g₀ b o ⟨o, O.sub b o e⟩ (S.stay O b o e), O.dis, fun b hb => .inr ((O.fd b hb).elim (fun q => ⟨oL, q ▸ gL⟩) fun ⟨o, e⟩ => let ⟨o', e'⟩ := F.keep.get e; ⟨o', g₀ b o' ⟨o, e⟩ e'⟩), O.gnd, O.top, O.hh, O.dep, O.units, fo3, q4u O scope, O.glob, O.bi⟩
 have hy' : c'.env.kindOf y = some .local := lookup_relabel_local hy
 have ci : ∀ (y : Str) (i : Nat), (addI x.cm scope.names []).lookup y = some i → ∃ a : Addr, α[i]? = some a ∧ (O9 c.env scope.names []).lookup y = some a := q5x S.cel scope.names [] [] fo1 fun y i e => by cases e
 have αn : (α ++ [D]).Nodup := by
  rw [v0b]
  exact ⟨S.hs.nd, by simp, fun a ha b hb q => by cases v0c.mp hb; exact hDα (q ▸ ha)⟩
 have in1 : ∀ {sto' : Sto} {ys : List AV} {s' : Shared} {m' : Str → Option Value} {loc' : Loc}, FrX c.fs g C s'.heap m' → LR (α ++ [D]) loc' m' → sto'.length = α.length →
   (∀ (i : Nat) (o : AO), sto'[i]? = some o → ∃ (a : Addr) (ob : Obj), α[i]? = some a ∧ s'.heap.get? a = some ob ∧ OR (α ++ [D]) o ob) → (∃ ob, s'.heap.get? D = some ob ∧ OR (α ++ [D]) (.lst ys) ob) → s'.os = s.os → q3a x.fr s'.gens s'.drawn c.gd →
   Sat (cx x scope) c' (α ++ [D]) loc' (sto' ++ [.lst ys]) s' := fun {sto' ys s' m' loc'} F' L' ln ce de os ge => by
  refine ⟨⟨m', F', L'⟩, ⟨by simp [ln], αn, fun i o e => ?_⟩, fun a ha => ?_, os.trans S.os, ge, fun y i e => ?_⟩
  ·by_cases hi : i < sto'.length
   ·rw [q9V hi] at e
    obtain ⟨a, ob, h1, h2, h3⟩ := ce i o e
    exact ⟨a, ob, by rw [q9V (by lia)]; exact h1, h2, h3⟩
   ·rw [v0d (by lia)] at e
    have : i - sto'.length = 0 := by
     cases hq : i - sto'.length with
     | zero => rfl
     | succ j => rw [hq] at e; simp at e
    rw [this] at e; cases e
    obtain ⟨ob, h2, h3⟩ := de
    exact ⟨D, ob, by rw [v0d (by lia), show i - α.length = 0 by lia]; rfl, h2, h3⟩
  ·rcases v0f.mp ha with q | q
   ·exact ⟨fun z => hCα ((show a = C from z) ▸ q), gnone a (by simp [q])⟩
   ·cases v0c.mp q
    exact ⟨hDC, gnone _ (by simp)⟩
  ·obtain ⟨a, h1, h2⟩ := ci y i e
   exact ⟨a, by rw [q9V (q9W.mp h1).1]; exact h1, h2⟩
 have S0 : Sat (cx x scope) c' (α ++ [D]) [] (sto ++ [.lst []]) { s with heap := h₁, toks := s.toks + ([] : List (Str × Value)).length } :=
  in1 (m' := fun x => List.lookup x ([] : List (Str × Value)).reverse) ⟨hns₁, .of gof, gnone _ (by simp)⟩ (fun y v e => by cases e) S.hs.len.symm
   (fun i o e => by obtain ⟨a, ob, h1, h2, h3⟩ := S.hs.cell i o e; exact ⟨a, ob, h1, old _ _ h2, h3.mono⟩) ⟨_, hacc, rfl, ⟨rfl, rfl⟩, _, _, rfl, trivial⟩ rfl S.gens
 have loop : ∀ s₃ : Shared, s₃ = { s with heap := h₁, toks := s.toks + ([] : List (Str × Value)).length } →
   codeAny (model pw x.w) c.A (.compLoop (.ListComp elt [⟨.Name y px, iter, ifs, 0⟩] scope pos) 0 (.ref I) (.ref D) (compEnvC scope (O9 c.env scope.names []) C c.env)) (RR (.ref D) C) s₃ := by
  rintro s₃ rfl
  refine codeAny_compLoop_tests (CJ (cx x scope) c' (α ++ [D]) St Inv n α.length) ?_ (n + 1)
   ⟨0, [], sto, rfl, Nat.zero_le _, S0, S.hs.len.symm, hs0, v0h _, by simp, W.frame _ _ _ hst fun b _ o e => old b o e, h0⟩
  intro k s' hJ
  refine small fun G hG => ?_
  obtain ⟨i, ys, sto', rfl, hi, S', ln, sl, yl, ylt, hst', hInv⟩ := hJ
  refine hG ?_
  clear hG
  have cm := S'.cmLt
  obtain ⟨m', F', L'⟩ := S'.fr
  have stores : ∀ {h₂ : Heap} {tk : Nat}, (∀ b o, b ∉ [I] → s'.heap.get? b = some o → h₂.get? b = some o) → ∀ {loc' : Loc} {m₂ : Str → Option Value} {h₃ : Heap}, h₃.Ns C m₂ → LR (α ++ [D]) loc' m₂ → (∀ b o, b ≠ C → h₂.get? b = some o → h₃.get? b = some o) →
    Sat (cx x scope) c' (α ++ [D]) loc' (sto' ++ [.lst ys]) { s' with heap := h₃, toks := tk } := fun {h₂ tk} hk {loc' m₂ h₃} hn hl hk₂ => by
   refine ⟨⟨m₂, ⟨hn, F'.keep.then fun b o ⟨_, e⟩ d => hk₂ b o (fun q => by rw [q] at e; rw [show c'.h₀ = g from rfl, gnone C (by simp)] at e; cases e) (hk b o (fun q => by rw [v0c.mp q] at e; rw [show c'.h₀ = g from rfl, gnone I (by simp)] at e; cases e) d), F'.off⟩, hl⟩, ⟨S'.hs.len, S'.hs.nd, fun j o e => ?_⟩, S'.off, S'.os, S'.gens, S'.cel⟩
   obtain ⟨a, ob, h1, h2, h3⟩ := S'.hs.cell j o e
   have ha : a ∈ α ++ [D] := v0i h1
   refine ⟨a, ob, h1, hk₂ a ob (S'.off a ha).1 (hk a ob (fun q => ?_) h2), h3⟩
   rcases v0f.mp ha with z | z
   ·exact hI (v0c.mp q ▸ z)
   ·exact hDI ((v0c.mp q).symm.trans (v0c.mp z))
  by_cases hlt : i < n
  ·refine W.item i s' _ _ hlt hst' fun v h₂ tk hPv hst₂ hk => ?_
   have rv := hP i v hlt hPv
   refine v1o (v1l hy' (F'.ns.at' fun o e => hk _ o (fun q => hCI (v0c.mp q).symm) e) (fun h₃ hn hs => ?_) (by simp [compEnvC, relabel, fo3]))
   have S₃ : Sat (cx x scope) c' (α ++ [D]) [(y, el i)] (sto' ++ [.lst ys]) { s' with heap := h₃, toks := tk + 1 } := stores hk hn (fun z w e => by
    rw [v0n] at e
    cases q : z == y with
    | true => simp only [q] at e; cases e; exact ⟨v, by simp [beq_iff_eq.mp q], rv.mono⟩
    | false => simp only [q] at e; cases e) fun b o nb e => hs.extBut b o nb e
   obtain ⟨oI, hoI⟩ := hIo _ _ hst₂
   have hoI₃ : h₃.get? I = some oI := hs.extBut I oI hCI hoI
   have S₄ := S₃.addRaw (I := I) (o := oI) (by
    simp only [v0f, v0c]
    rintro (q | q)
    ·exact hI q
    ·exact hDI q) hCI (gnone I (by simp)) hoI₃
   have S₄ : Sat (cx x scope) c' (α ++ [D] ++ [I]) [(y, el i)] (sto' ++ [.lst ys, .raw oI]) { s' with heap := h₃, toks := tk + 1 } := by simpa using S₄
   have st := step i ys sto' oI hlt ln hInv
   have hstf : ∀ {s₅ : Shared} {β : List Addr} {loc' : Loc} {s₂ junk : Sto} {ys' : List AV}, Sat (cx x scope) c' (α ++ [D] ++ [I] ++ β) loc' (s₂ ++ .lst ys' :: .raw oI :: junk) s₅ → s₂.length = α.length → ∀ {i' ys''}, Inv i' ys'' s₂ → St (i + 1) s₅.heap := fun {s₅ β loc' s₂ junk ys'} S₅ hl {i' ys''} hv => by
    refine W.frame _ _ _ hst₂ fun b hb o e => ?_
    rcases hfp b hb with rfl | ⟨q, hq, hqa⟩
    ·refine (S₅.rawAt (i := α.length + 1) ?_ ?_).trans (hoI.symm.trans e)
     ·rw [q9V (by simp), v0d (by simp), show α.length + 1 - (α ++ [D]).length = 0 by simp]; rfl
     ·rw [v0d (by lia), hl, show α.length + 1 - α.length = 1 by lia]; rfl
    ·have lq := (q9W.mp hqa).1
     have f1 := hfz _ _ _ hInv q hq
     have f2 := hfz _ _ _ hv q hq
     refine (S₅.rawAt (i := q.1) ?_ ((q9V (q9W.mp f2).1).trans f2)).trans ((S₃.rawAt (i := q.1) ((q9V lq).trans hqa) ((q9V (q9W.mp f1).1).trans f1)).symm.trans (hs.extBut b o (fun z => hCα ((show b = C from z) ▸ v0i hqa)) e))
     rw [q9V (by simp; lia), q9V (by simp; lia), q9V lq, hqa]
   have turn : ∀ {s₅ : Shared} {α' : List Addr}, Ex (α ++ [D] ++ [I]) α' → ∀ {sto₅ : Sto} {w : AV} {val : Value}, V6 (Inv (i + 1)) ys α.length oI w sto₅ → Sat (cx x scope) c' α' [(y, el i)] sto₅ s₅ → VR α' w val → ∀ E', wpAny (model pw x.w) c.A (call (.builtin "list.append") [.ref D, val])
     (fun _ s₆ => ∃ m, m < n + 1 - i ∧ CJ (cx x scope) c' (α ++ [D]) St Inv n α.length m s₆) E' s₅ := by
    rintro s₅ α' ⟨β, rfl⟩ sto₅ w val ⟨s₂, junk, rfl, hl, wl, stl, hv⟩ S₅ rw' E'
    have iD : (s₂ ++ AO.lst ys :: AO.raw oI :: junk)[α.length]? = some (.lst ys) := by rw [v0d (by lia), hl, v0q]; rfl
    have aD : (α ++ [D] ++ [I] ++ β)[α.length]? = some D := by rw [q9V (by simp), q9V (by simp), v0d (v0h _), v0q]; rfl
    refine m5 (x := cx x scope) (c := c') S₅ iD aD rw' (by lia) fun s₆ S₆ hk₆ _ => ?_
    have e₆ : (s₂ ++ AO.lst ys :: AO.raw oI :: junk).set α.length (.lst (ys ++ [w])) = (s₂ ++ [.lst (ys ++ [w])]) ++ (.raw oI :: junk) := by
     rw [List.set_append_right _ _ (by lia), hl, v0q]; simp
    rw [e₆] at S₆
    have S₇ : Sat (cx x scope) c' (α ++ [D]) [] (s₂ ++ [.lst (ys ++ [w])]) s₆ := by
     refine Sat.trunc (β := [I] ++ β) (rest := .raw oI :: junk) (by simpa using S₆.forget (loc' := []) (fun y v e => by cases e)) (by simp [hl]) (fun p hp => by cases hp) ?_ cm
     intro o ho
     rcases v0f.mp ho with q | q
     ·exact (stl o q).mono (by simp)
     ·cases v0c.mp q
      intro a ha
      rcases v0f.mp ha with z | z
      ·exact (ylt a z).mono (by simp)
      ·cases v0c.mp z; exact wl.mono (by simp)
    refine ⟨n + 1 - (i + 1), by lia, i + 1, ys ++ [w], s₂, rfl, hlt, S₇, hl, stl, by simp; lia, ?_, ?_, hv⟩
    ·intro a ha
     rcases v0f.mp ha with q | q
     ·exact ylt a q
     ·cases v0c.mp q; exact wl
    ·exact hstf (ys' := ys ++ [w]) (junk := junk) (loc' := [(y, el i)]) (by simpa using S₆) hl hv
   have elt_ : ∀ {s₅ : Shared} E', EV (cx x scope) elt [(y, el i)] (sto' ++ [.lst ys, .raw oI]) (V6 (Inv (i + 1)) ys α.length oI) → Sat (cx x scope) c' (α ++ [D] ++ [I]) [(y, el i)] (sto' ++ [.lst ys, .raw oI]) s₅ →
     wpAny (model pw x.w) c.A (eval elt (compEnvC scope (O9 c.env scope.names []) C c.env)) (fun x₁ s₄ => wpAny (model pw x.w) c.A (call (.builtin "list.append") [.ref D, x₁]) (fun _ s₆ => ∃ m, m < n + 1 - i ∧ CJ (cx x scope) c' (α ++ [D]) St Inv n α.length m s₆) E' s₄) E' s₅ := fun {s₅} E' h S₅ =>
    h c' _ _ _ _ O' S₅ fun v s' α' t' val hv gx S₆ r => turn gx hv S₆ r E'
   cases ifs with
   | nil => exact wpAny_tests_nil (by simp only [if_true]; exact elt_ _ st S₄)
   | cons t r => cases r with
    | nil =>
     refine wpAny_tests_one (st c' _ _ _ _ O' S₄ fun b s5 α5 t5 hb gx S5 => ?_)
     obtain ⟨rfl, hb⟩ := hb
     cases b with
     | true =>
      simp only [if_true]
      obtain ⟨β, rfl⟩ := gx
      have hb0 : β = [] := by
       have e1 := S5.hs.len
       have e2 := S₄.hs.len
       rw [← e2] at e1
       simp only [v0G] at e1
       exact List.length_eq_zero_iff.mp (by lia)
      subst hb0
      rw [v0H] at S5
      exact elt_ _ hb S5
     | false =>
      simp only [v0C, if_false]
      obtain ⟨β, rfl⟩ := gx
      have S6 : Sat (cx x scope) c' (α ++ [D]) [] (sto' ++ [.lst ys]) t5 := by
       refine Sat.trunc (β := [I] ++ β) (rest := [.raw oI]) (by simpa using S5.forget (loc' := []) (fun y v e => by cases e)) (by simp [ln]) (fun p hp => by cases hp) ?_ cm
       intro o ho
       rcases v0f.mp ho with q | q
       ·exact (sl o q).mono (by simp)
       ·cases v0c.mp q
        exact fun a ha => (ylt a ha).mono (by simp)
      exact ⟨n + 1 - (i + 1), by lia, i + 1, ys, sto', rfl, hlt, S6, ln, sl, by lia, ylt, hstf (ys' := ys) (junk := []) (loc' := [(y, el i)]) S5 ln hb, hb⟩
    | cons t' r' => exact st.elim
  ·obtain rfl : i = n := by lia
   refine W.done s' _ _ hst' fun h₂ tk hk => ?_
   have S₃ := stores (h₃ := h₂) (tk := tk) hk (F'.ns.at' fun o e => hk _ o (fun q => hCI (v0c.mp q).symm) e) L' fun b o _ e => e
   refine hR D C ys sto' _ hInv ln ?_ ⟨m', F'.ns.at' fun o e => hk _ o (fun q => hCI (v0c.mp q).symm) e⟩ (by
    simp only [v0f, v0c]
    rintro (q | q)
    ·exact hCα q
    ·exact hDC q.symm) hCL hC₀
   obtain ⟨m₃, F₃, _⟩ := S₃.fr
   refine ⟨⟨m, back _ _ F₃, fun y v e => ?_⟩, S₃.hs, fun a ha => ?_, S₃.os, S₃.gens, fun y i e => ?_⟩
   ·obtain ⟨u, h1, h2⟩ := l y v e; exact ⟨u, h1, h2.mono⟩
   ·rcases v0f.mp ha with q | q
    ·exact S.off a q
    ·cases v0c.mp q; exact ⟨hDL, hD₀⟩
   ·obtain ⟨a, h1, h2⟩ := S.cel y i e
    exact ⟨a, by rw [q9V (q9W.mp h1).1]; exact h1, h2⟩
 exact codeAny_compStart_list (loop _ rfl) (W.self 0 _ _ _ (W.frame _ _ _ hst fun b _ o e => old b o e) (loop _ rfl))
noncomputable def frz (z : Option (Nat × AO)) (o : Obj) (sto : Sto) : Sto := match z with
 | none => sto
 | some (j, _) => sto.set j (.raw o)
noncomputable def fzl (z : Option (Nat × AO)) (o : Obj) : List (Nat × Obj) := match z with
 | none => []
 | some (j, _) => [(j, o)]
noncomputable def unf (z : Option (Nat × AO)) (sto : Sto) : Sto := match z with
 | none => sto
 | some (j, ao) => sto.set j ao
inductive SrcIs (sto : Sto) : AV → Nat → (Nat → AV) → Option (Nat × AO) → Prop
 | range {j : Nat} {p q : Int} {n : Nat} (h : sto[j]? = some (.rng p q 1)) (hs : Builtin.Range.small p q 1 = true) (hn : Builtin.Range.rangeSize p q 1 = (n : Int)) : SrcIs sto (.ref j) n (fun i => .int (p + (i : Int))) none
 | gen {j n : Nat} {ao : AO} {xs : List AV} {el : Nat → AV} (h : sto[j]? = some ao) (e : ao.items = some xs) (hn : n = xs.length) (hel : ∀ i, i < xs.length → xs.getD i .none = el i) : SrcIs sto (.ref j) n el (some (j, ao))
 | bytes {l : List UInt8} : SrcIs sto (.bytes l) l.length (fun i => .int ((l.getD i 0).toNat : Int)) none
theorem SrcIs.list {sto : Sto} {j : Nat} {ao : AO} {xs : List AV} (h : sto[j]? = some ao) (e : ao.items = some xs) : SrcIs sto (.ref j) xs.length (fun i => xs.getD i .none) (some (j, ao)) := .gen h e rfl fun _ _ => rfl
theorem Z7 {β : Type} (f : β → AV) (ls : List β) (d : β) (i : Nat) (h : i < (ls.map f).length) : (ls.map f).getD i .none = f (ls.getD i d) := by
 rw [v0I] at h
 simp [v0J, h]
theorem SrcIs.lsS {sto : Sto} {j : Nat} {ls : List (List Nat)} (h : sto[j]? = some (.lsS ls)) : SrcIs sto (.ref j) ls.length (fun i => .str (ls.getD i [])) (some (j, .lsS ls)) := .gen h rfl (v0I ..).symm (Z7 AV.str ls [])
theorem SrcIs.lsI {sto : Sto} {j : Nat} {ls : List Int} (h : sto[j]? = some (.lsI ls)) : SrcIs sto (.ref j) ls.length (fun i => .int (ls.getD i 0)) (some (j, .lsI ls)) := .gen h rfl (v0I ..).symm (Z7 AV.int ls 0)
theorem SrcIs.lsB {sto : Sto} {j : Nat} {ls : List (List UInt8)} (h : sto[j]? = some (.lsB ls)) : SrcIs sto (.ref j) ls.length (fun i => .bytes (ls.getD i [])) (some (j, .lsB ls)) := .gen h rfl (v0I ..).symm (Z7 AV.bytes ls [])
section
variable {x : SX} {c : Cx} {α : List Addr} {loc : Loc} {sto : Sto} {s : Shared}
theorem Sat.fresh (S : Sat x c α loc sto s) : s.heap.objs.size ∉ α ∧ s.heap.objs.size ≠ c.env.locals ∧ c.h₀.get? s.heap.objs.size = none := by
 refine ⟨fun ha => ?_, ?_, ?_⟩
 ·obtain ⟨i, hi, e⟩ := q9Y.mp ha
  obtain ⟨ob, h2, _⟩ := S.objAt ((q9Z hi).trans (congrArg _ e)) (q9Z (S.hs.len ▸ hi))
  exact Nat.lt_irrefl _ (v0a h2)
 ·obtain ⟨m, F, l⟩ := S.fr
  exact Nat.ne_of_gt F.ns.lt
 ·obtain ⟨m, F, l⟩ := S.fr
  exact F.keep.none (v0g (v0h _))
def SrcK (x : SX) (c : Cx) (α : List Addr) (loc : Loc) (sto : Sto) (n : Nat) (el : Nat → AV) (z : Option (Nat × AO)) (Q : Value → Shared → Prop) : Prop := ∀ I fp P St o s₁, Walks (pw) x.w c.A I fp [I] n P St → St 0 s₁.heap → (∀ i h, St i h → ∃ o, h.get? I = some o) → I ∉ α → I ≠ c.env.locals → c.h₀.get? I = none → I < s₁.heap.objs.size → (∀ i v, i < n → P i v → VR α (el i) v) →
   (∀ b ∈ fp, b = I ∨ ∃ p ∈ fzl z o, α[p.1]? = some b) → Sat x c α loc (frz z o sto) s₁ → (∀ p ∈ fzl z o, (frz z o sto)[p.1]? = some (.raw p.2)) →
   (∀ {α' loc' sto' s'}, Ex α α' → Sat x c α' loc' sto' s' → (∀ p ∈ fzl z o, sto'[p.1]? = some (.raw p.2)) → Sat x c α' loc' (unf z sto') s') → Q (.ref I) s₁
theorem Z8 (O : Ok x c) (S : Sat x c α loc sto s) {a : AV} {val : Value} (r : VR α a val) {n : Nat} {el : Nat → AV} {z : Option (Nat × AO)} (h : SrcIs sto a n el z) {Q E : Value → Shared → Prop}
  (k : SrcK x c α loc sto n el z Q) : wpAny (model pw x.w) c.A (pyIter val) Q E s := by
 obtain ⟨f1, f2, f3⟩ := S.fresh
 have kp : ∀ (o' : Obj) b ob, s.heap.get? b = some ob → (s.heap.push o').get? b = some ob := fun o' b ob e => q9X _ e
 cases h with
 | range h hs hn =>
  obtain ⟨a, rfl', rfl⟩ := r
  obtain ⟨ob, h2, t, u, v, rfl⟩ := S.objAt rfl' h
  rename_i p q
  have W := Walks.range (prog := pw) (w := x.w) (A := c.A) O.hh s.heap.objs.size p 1 n
  refine wpAny_pyIter_range h2 hs (k _ _ _ _ default _ W ?_ (fun i h st => ⟨_, st⟩) f1 f2 f3 (by show _ < (s.heap.push _).objs.size; rw [v0E]; exact v0u _) (fun i v _ hv => ?_) (fun b hb => .inl (v0c.mp hb)) (S.heapK (kp _)) (fun p hp => by cases hp) fun _ S _ => S)
  ·show IsRangeIter _ _ _ _ _
   rw [hn]; simpa using v0e _ rfl
  ·obtain ⟨t, rfl⟩ := hv
   exact ⟨t, by simp⟩
 | gen hso he hn hel =>
  rename_i j ao xs
  obtain ⟨a, ha, rfl⟩ := r
  obtain ⟨a', o, h1, h2, h3, S'⟩ := S.freeze hso
  have ea : a' = a := Option.some.inj (h1.symm.trans ha)
  rw [ea] at h2
  obtain ⟨p1, p2, vs, m, p3, p4⟩ := h3.rep he
  have hl : s.heap.IsList a vs := ⟨o, h2, p1, m, p3⟩
  have W := Walks.list (prog := pw) (w := x.w) (A := c.A) O.hh s.heap.objs.size a (fun q => f1 (q ▸ v0i ha)) vs
  rw [show vs.size = n by rw [← v0D, ← p4.length, hn]] at W
  refine wpAny_pyIter_list hl (k _ _ _ _ o _ W ⟨⟨_, v0e _ rfl, rfl, rfl⟩, hl.push _⟩ (fun i h st => by obtain ⟨o, e, _⟩ := st.1; exact ⟨o, e⟩) f1 f2 f3
   (by show _ < (s.heap.push _).objs.size; rw [v0E]; exact v0u _) (fun i v hi hv => ?_) (fun b hb => ?_) (S'.heapK (kp _)) (fun p hp => ?_) ?_)
  ·rw [hn] at hi
   obtain ⟨u, e1, e2⟩ := p4.at (show xs[i]? = some (xs.getD i .none) by rw [v0J, q9Z hi]; rfl)
   rw [← Array.getElem?_toList, e1] at hv
   rw [hel i hi, Option.some.inj hv] at e2
   exact e2
  ·exact (v0F.mp hb).imp_right fun hb => ⟨(j, o), v0c.mpr rfl, by rw [v0c.mp hb]; exact ha⟩
  ·rw [v0c.mp hp]
   exact v0j (q9W.mp hso).1
  ·intro α' loc' sto' s' ex S'' hz
   exact S''.retype (hz (j, o) (v0c.mpr rfl)) (ex.or (a := ao) h3)
 | bytes =>
  rename_i l
  obtain ⟨t, rfl⟩ := r
  have W := KBw.walks (prog := pw) (w := x.w) (A := c.A) O.hh s.heap.objs.size l.toArray t
  rw [show l.toArray.size = l.length from rfl] at W
  refine KBw.pyIter_bytes (k _ _ _ _ default _ W ⟨_, v0e _ rfl, rfl, rfl⟩ (fun i h st => by obtain ⟨o, e, _⟩ := st; exact ⟨o, e⟩) f1 f2 f3 (by show _ < (s.heap.push _).objs.size; rw [v0E]; exact v0u _) (fun i v hi hv => ?_) (fun b hb => .inl (v0c.mp hb)) (S.heapK (kp _)) (fun p hp => by cases hp) fun _ S _ => S)
  obtain ⟨b, u, e, rfl⟩ := hv
  refine ⟨u, ?_⟩
  have e' : l[i]? = some b := by simpa using e
  rw [v0J, e']; rfl
theorem XS.for_ {K : KF} {y : Str} {p pos : Pos} {iter : Expr} {body : List Stmt} (hy : lk x.scope.names y = some .local) (hf : ∀ env v, foldedSetIterable iter env v = pure v)
  (h : EV x iter loc sto fun a s₁ => ∃ n el z, SrcIs s₁ a n el z ∧ ∀ o, ∃ Inv : Nat → Loc → Sto → Prop, (∀ i loc sto, Inv i loc sto → ∀ p ∈ fzl z o, sto[p.1]? = some (.raw p.2)) ∧ Inv 0 loc (frz z o s₁) ∧
   (∀ i loc sto o', i < n → sto.length = s₁.length → Inv i loc sto → XSs x body (up loc y (el i)) (sto ++ [.raw o']) (q2j (Inv (i + 1)) K s₁.length o')) ∧
   (∀ loc sto, sto.length = s₁.length → Inv n loc sto → K .next loc (unf z sto))) : XS x (.For (.Name y p) iter body [] pos) loc sto K := by
 intro c α s Q E O S P
 refine wpAny_For (h c α s _ E O S fun a s1 α1 t1 va ha g1 S1 r1 => ?_) (hf _)
 obtain ⟨n, el, z, hsrc, hI⟩ := ha
 refine Z8 O S1 r1 hsrc fun I fp PP St o s₂ W hst hIo hIα hIL hI₀ _ hP hfp S₂ hz0 un => ?_
 obtain ⟨Inv, hfz, h0, step, done⟩ := hI o
 have ln : α1.length = s1.length := S1.hs.len
 refine q3d (K := fun f l s => (f = .next → (∃ l' s', (∀ p ∈ fzl z o, s'[p.1]? = some (.raw p.2)) ∧ l = l' ∧ s = s' ∧ K .next l (unf z s')) ∨ K .next l s) ∧ (f ≠ .next → K f l s)) O S₂ hy W hst hIo hIα hIL hI₀ hP (fzl z o) hfp Inv hfz h0 (fun i l s o' hi hl hv => ?_) (fun l s hl hv => ⟨fun _ => .inl ⟨l, s, hfz _ _ _ hv, rfl, rfl, done l s (hl.trans ln) hv⟩, fun q => absurd rfl q⟩) fun f l' s' α' t' fl hf ex S' r => ?_
 ·refine (step i l s o' hi (hl.trans ln) hv).mono fun f l' s' hk => ?_
  rw [ln]
  cases f with
  | next => exact hk
  | cont => exact hk
  | brk => exact ⟨fun _ => .inr hk, fun q => absurd rfl q⟩
  | ret v => exact ⟨fun q => (nomatch q), fun _ => hk⟩
 ·cases f with
  | next =>
   rcases hf.1 rfl with ⟨l₂, s₂', hz, rfl, rfl, hk⟩ | hk
   ·exact P .next _ _ _ _ _ hk (g1.trans ex) (un ex S' hz) r
   ·exact P .next _ _ _ _ _ hk (g1.trans ex) S' r
  | brk => exact P .brk _ _ _ _ _ (hf.2 (by simp)) (g1.trans ex) S' r
  | cont => exact P .cont _ _ _ _ _ (hf.2 (by simp)) (g1.trans ex) S' r
  | ret v => exact P (.ret v) _ _ _ _ _ (hf.2 (by simp)) (g1.trans ex) S' r
theorem Sat.sameBut (S : Sat x c α loc sto s) {C : Addr} (h1 : C ∉ α) (h2 : C ≠ c.env.locals) (h3 : c.h₀.get? C = none) {h' : Heap} {n : Nat} (hs : Heap.SameBut C s.heap h') : Sat x c α loc sto { s with heap := h', toks := n } := by
 obtain ⟨⟨m, F, l⟩, ⟨ln, nd, ce⟩, off, os, gens, cel⟩ := S
 refine ⟨⟨m, ⟨F.ns.sameBut hs h2.symm, F.keep.then fun b o ⟨_, e⟩ d => hs.extBut b o (fun q => by rw [q, h3] at e; cases e) d, F.off⟩, l⟩, ⟨ln, nd, fun i o e => ?_⟩, off, os, gens, cel⟩
 obtain ⟨a, ob, p1, p2, p3⟩ := ce i o e
 exact ⟨a, ob, p1, hs.extBut a ob (fun q => h1 (q ▸ v0i p1)) p2, p3⟩
theorem q3e (S : Sat x c α loc sto s) {scope : Scope} (fo : p8 x scope) : closureFor scope c.env = pure (O9 c.env scope.names []) :=
 y8 fun p hp hk => by
  obtain ⟨j, hj⟩ := v0A.mp (fo.1 p hp hk)
  obtain ⟨a, _, ha⟩ := S.cel p.1 j (by rw [← F7]; exact hj)
  rw [ha]; rfl
def CompS (x : SX) (y : Str) (elt : Expr) (ifs : List Expr) (scope : Scope) (K : AV → Sto → Prop) (a : AV) (s₁ : Sto) : Prop :=
 ∃ n el z, SrcIs s₁ a n el z ∧ n ≤ sizeLine ∧ C2 s₁.length s₁ ∧ ∀ o, ∃ Inv : Nat → List AV → Sto → Prop, (∀ i ys sto, Inv i ys sto → ∀ p ∈ fzl z o, sto[p.1]? = some (.raw p.2)) ∧ Inv 0 [] (frz z o s₁) ∧
  (∀ i ys sto o', i < n → sto.length = s₁.length → Inv i ys sto → match ifs with
   | [] => EV (cx x scope) elt [(y, el i)] (sto ++ [.lst ys, .raw o']) (V6 (Inv (i + 1)) ys s₁.length o')
   | [t] => TS (cx x scope) t [(y, el i)] (sto ++ [.lst ys, .raw o']) fun b s' => s' = sto ++ [.lst ys, .raw o'] ∧ I0 b (EV (cx x scope) elt [(y, el i)] (sto ++ [.lst ys, .raw o']) (V6 (Inv (i + 1)) ys s₁.length o')) (Inv (i + 1) ys sto)
   | _ => False) ∧
  (∀ ys sto, sto.length = s₁.length → Inv n ys sto → K (.ref s₁.length) (unf z sto ++ [.lst ys]))
theorem CompS.intro {x : SX} {y : Str} {elt : Expr} {ifs : List Expr} {scope : Scope} {K : AV → Sto → Prop} {a : AV} {s₁ : Sto} {n : Nat} {el : Nat → AV} {z : Option (Nat × AO)} (F : Nat → List AV) (S₀ : Obj → Sto) (hi : ifs = []) (hs : SrcIs s₁ a n el z) (hn : n ≤ sizeLine) (hl : C2 s₁.length s₁)
  (h1 : ∀ o, ∀ p ∈ fzl z o, (S₀ o)[p.1]? = some (.raw p.2)) (h2 : ∀ o, [] = F 0 ∧ frz z o s₁ = S₀ o) (h3 : ∀ o i o', i < n → (S₀ o).length = s₁.length → EV (cx x scope) elt [(y, el i)] (S₀ o ++ [.lst (F i), .raw o']) (V6 (fun ys s => ys = F (i + 1) ∧ s = S₀ o) (F i) s₁.length o'))
  (h4 : ∀ o, (S₀ o).length = s₁.length → K (.ref s₁.length) (unf z (S₀ o) ++ [.lst (F n)])) : CompS x y elt ifs scope K a s₁ := by
 subst hi
 refine ⟨n, el, z, hs, hn, hl, fun o => ⟨fun i ys s => ys = F i ∧ s = S₀ o, ?_, h2 o, ?_, ?_⟩⟩
 ·rintro i ys s ⟨_, rfl⟩ p hp; exact h1 o p hp
 ·rintro i ys s o' hi hl ⟨rfl, rfl⟩; exact h3 o i o' hi hl
 ·rintro ys s hl ⟨rfl, rfl⟩; exact h4 o hl
theorem q8h {z : Option (Nat × AO)} {o : Obj} {sto : Sto} {k : Nat} (h : C2 k sto) : C2 k (frz z o sto) := by
 cases z with
 | none => exact h
 | some p =>
  intro q hq
  rcases List.mem_or_eq_of_mem_set hq with r | r
  ·exact h q r
  ·subst r; trivial
theorem w4 {y : Str} {px pos : Pos} {elt iter : Expr} {ifs : List Expr} {scope : Scope} {K : AV → Sto → Prop} {a : AV} {val : Value} {E : Value → Shared → Prop} {RR : Value → Addr → Result → Shared → Prop} (O : Ok x c) (S : Sat x c α loc sto s) (r : VR α a val) (fo : p8 x scope) (hy : scope.names.lookup y = some .local) (h : CompS x y elt ifs scope K a sto)
  (hR : ∀ D C α' sto' s', K (.ref sto.length) sto' → Ex α α' → α'[sto.length]? = some D → Sat x c α' loc sto' s' → (∃ m, s'.heap.Ns C m) → C ∉ α' → C ≠ c.env.locals → c.h₀.get? C = none → RR (.ref D) C (.ok .next) s') :
  wpAny (model pw x.w) c.A (pyIter val) (fun it s₂ => wpAny (model pw x.w) c.A (newList []) (fun acc s₃ => wpAny (model pw x.w) c.A (newFunctionEnv scope c.env.globals (O9 c.env scope.names []) [] c.env.qual none .none (some c.env)) (fun cenv s₄ =>
   codeAny (model pw x.w) c.A (.compStart (.ListComp elt [⟨.Name y px, iter, ifs, 0⟩] scope pos) 0 it acc { cenv with scope := relabel scope c.env }) (RR acc cenv.locals) s₄) E s₃) E s₂) E s := by
 obtain ⟨n, el, z, hsrc, hn, hlt, hI⟩ := h
 refine Z8 O S r hsrc fun I fp P St o s₂ W hst hIo hIα hIL hI₀ hIs hP hfp S₂ hz0 un => ?_
 obtain ⟨Inv, hfz, h0, step, done⟩ := hI o
 have ln : α.length = sto.length := S.hs.len
 refine q2m O S₂ fo hy W hst hIo hIα hIL hI₀ hIs hP (fzl z o) hfp Inv hfz h0 (by rw [ln]; exact q8h hlt) hn (fun i ys sto' o' hi hl hv => by rw [ln]; exact step i ys sto' o' hi (hl.trans ln) hv) fun D C ys sto' s' hv hl S' hns h1 h2 h3 => ?_
 refine hR D C (α ++ [D]) (unf z sto' ++ [.lst ys]) s' (done ys sto' (hl.trans ln) hv) .push (by rw [← ln, v0d (v0h _), v0q]; rfl) ?_ hns h1 h2 h3
 have := un .push S' (fun p hp => by
  have e := hfz _ _ _ hv p hp
  rw [q9V (q9W.mp e).1]; exact e)
 cases z with
 | none => exact this
 | some q =>
  obtain ⟨j, ao⟩ := q
  have e := hfz _ _ _ hv (j, o) (v0c.mpr rfl)
  show Sat x c (α ++ [D]) loc (sto'.set j ao ++ [.lst ys]) s'
  rw [← List.set_append_left _ _ (q9W.mp e).1]
  exact this
theorem EV.comp {y : Str} {px pos : Pos} {elt iter : Expr} {ifs : List Expr} {scope : Scope} {K : AV → Sto → Prop} (hf : ∀ env v, foldedSetIterable iter env v = pure v) (fo : p8 x scope) (hy : scope.names.lookup y = some .local) (h : EV x iter loc sto (CompS x y elt ifs scope K)) :
  EV x (.ListComp elt [⟨.Name y px, iter, ifs, 0⟩] scope pos) loc sto K := by
 intro c α s Q E O S P
 rw [eval_ListComp]
 refine wpAny_comprehension_free (use := none) rfl (hf _) (q3e S fo) fo.2.2.1 fo.2.2.2 (h c α s _ E O S fun a s1 α1 t1 va ha g1 S1 r1 => ?_)
 refine w4 O S1 r1 fo hy ha fun D C α' sto' s' hK ex hD S' hns h1 h2 h3 => ?_
 obtain ⟨m, hm⟩ := hns
 exact ⟨m, hm, fun h' hs => P _ _ _ _ _ hK (g1.trans ex) (S'.sameBut (n := s'.toks) h1 h2 h3 hs) ⟨D, hD, rfl⟩⟩
theorem XS.assignComp {K : KF} {y t : Str} {px pt pos spos : Pos} {elt iter : Expr} {ifs : List Expr} {scope : Scope} (hf : ∀ env v, foldedSetIterable iter env v = pure v) (fo : p8 x scope) (hy : scope.names.lookup y = some .local)
  (hk : lk x.scope.names t = some .local) (hsw : ∀ env : Env, env.scope = x.scope → env.scope.kind = .function → swapsWith (.ListComp elt [⟨.Name y px, iter, ifs, 0⟩] scope pos) (some (.Name t pt)) spos.line env = pure true)
  (h : EV x iter loc sto (CompS x y elt ifs scope fun a s₁ => K .next (up loc t a) s₁)) : XS x (.Assign [.Name t pt] (.ListComp elt [⟨.Name y px, iter, ifs, 0⟩] scope pos) spos) loc sto K := by
 intro c α s Q E O S P
 show wpAny _ _ (exec (.Assign [.Name t pt] (.ListComp elt [⟨.Name y px, iter, ifs, 0⟩] scope pos) spos) c.env) _ _ _
 rw [exec_Assign_Name_used _ _ _ _ (hsw c.env O.scope O.kind)]
 refine v1e (v1f (v1e ?_))
 show wpAny _ _ (do let _ ← comprehension (.ListComp elt [⟨.Name y px, iter, ifs, 0⟩] scope pos) scope c.env _ (newList []) false (eval iter c.env) (some (PySem.assign (.Name t pt) c.env))) _ _ s
 refine v1e (v1j (wpAny_comprehension_free (use := some (PySem.assign (.Name t pt) c.env)) (Q := fun _ s' => Q .next s') rfl (hf _) (q3e S fo) fo.2.2.1 fo.2.2.2
  (h c α s _ E O S fun a s1 α1 t1 va ha g1 S1 r1 => ?_)) (fun _ s' hq => v1h (v1h hq)) fun _ _ e => e)
 refine w4 O S1 r1 fo hy ha fun D C α' sto' s' hK ex hD S' hns h1 h2 h3 => ?_
 obtain ⟨m, hm⟩ := hns
 obtain ⟨m', F', l'⟩ := S'.fr
 show wpAny _ _ (PySem.assign (.Name t pt) c.env (.ref D)) _ _ _
 refine v1o (v1l (B8 O hk) F'.ns (fun h₂ hn hs => ?_) (by rw [O.kind]; rfl))
 have S₂ := S'.setLoc (n := s'.toks + 1) (v := .ref s1.length) ⟨D, hD, rfl⟩ F' l' hn hs
 exact ⟨m, hm.sameBut hs h2, fun h' hs' => P _ _ _ _ _ _ hK (g1.trans ex) (S₂.sameBut (n := s'.toks + 1) h1 h2 h3 hs') rfl⟩
end
def BR (α : List Addr) : Loc → List (Str × Value) → Prop
 | [], [] => True
 | (x, a) :: l, (y, v) :: b => y = x ∧ VR α a v ∧ BR α l b
 | _, _ => False
theorem BR.names {α : List Addr} : ∀ {l : Loc} {b : List (Str × Value)}, BR α l b → b.map (·.1) = l.map (·.1)
 | [], [], _ => rfl
 | (_, _) :: _, (_, _) :: _, ⟨h, _, r⟩ => by rw [v0K, v0K, r.names, h]
theorem BR.mem {α : List Addr} : ∀ {l : Loc} {b : List (Str × Value)} {x : Str} {a : AV}, BR α l b → l.lookup x = some a → ∃ v, (x, v) ∈ b ∧ VR α a v
 | [], _, _, _, _, e => by cases e
 | (y, c) :: l, (z, v) :: b, x, a, ⟨h, h1, r⟩, e => by
  rw [v0n] at e
  cases q : x == y with
  | true =>
   simp only [q] at e; cases e
   exact ⟨v, by rw [h, beq_iff_eq.mp q]; exact v0x, h1⟩
  | false =>
   simp only [q] at e
   obtain ⟨u, h2, h3⟩ := r.mem e
   exact ⟨u, v0y _ h2, h3⟩
theorem Z9 {β : Type} : ∀ {b : List (Str × β)} {x : Str} {v : β}, (b.map (·.1)).Nodup → (x, v) ∈ b → b.lookup x = some v
 | (y, u) :: b, x, v, n, h => by
  rw [v0K, List.nodup_cons] at n
  rw [v0n]
  rcases v0F.mp h with q | q
  ·cases q; simp
  ·have : (x == y) = false := by
    cases z : x == y with
    | false => rfl
    | true => exact absurd (v0z.mpr ⟨(x, v), q, beq_iff_eq.mp z⟩) n.1
   simp only [this]
   exact Z9 n.2 q
theorem List.nodup_reverse' {β : Type} {l : List β} (h : l.Nodup) : l.reverse.Nodup := by
 unfold List.Nodup at h ⊢
 rw [List.pairwise_reverse]
 exact h.imp fun q z => q z.symm
theorem BR.lr {α : List Addr} {l : Loc} {b : List (Str × Value)} (h : BR α l b) (n : (l.map (·.1)).Nodup) : LR α l fun x => b.reverse.lookup x := fun x a e => by
 obtain ⟨v, h1, h2⟩ := h.mem e
 refine ⟨v, Z9 ?_ (List.mem_reverse.mpr h1), h2⟩
 rw [List.map_reverse, h.names]; exact List.nodup_reverse' n
def RetK (k : Nat) (K : AV → Sto → Prop) (v : AV) (sto' : Sto) : Prop :=
 (∃ s₁ junk, sto' = s₁ ++ junk ∧ s₁.length = k ∧ v.Lt k ∧ C2 k s₁ ∧ K v s₁) ∨
 (∃ s₁ rest j o, sto' = s₁ ++ rest ∧ s₁.length = k ∧ v = .ref j ∧ k ≤ j ∧ sto'[j]? = some o ∧ o.Lt k ∧ C2 k s₁ ∧ K (.ref k) (s₁ ++ [o])) ∨ K v sto'
noncomputable def BodyK (k : Nat) (K : AV → Sto → Prop) : KF := fun f _ sto' => match f with
 | .ret v => RetK k K v sto'
 | .next => RetK k K .none sto'
 | _ => False
section
variable {x : SX} {c : Cx} {α : List Addr} {loc : Loc} {sto : Sto} {s : Shared}
theorem HS.cut {α β : List Addr} {s₁ junk : Sto} {h : Heap} (H : HS (α ++ β) (s₁ ++ junk) h) (hl : s₁.length = α.length) (st : C2 α.length s₁) : HS α s₁ h := by
 refine ⟨hl.symm, (v0b.mp H.nd).1, fun i o e => ?_⟩
 have hi := (q9W.mp e).1
 obtain ⟨a, ob, h1, h2, h3⟩ := H.cell i o (by rw [q9V hi]; exact e)
 exact ⟨a, ob, by rw [q9V (by lia)] at h1; exact h1, h2, h3.cut (st o (v0i e))⟩
theorem Sat.back (S : Sat x c α loc sto s) {x' : SX} {c' : Cx} {α' α₂ : List Addr} {loc' : Loc} {sto' sto₂ : Sto} {s' : Shared} {g : Heap} (hos : c'.os = s.os) (hg : c'.h₀ = g) (hfs : ∀ b, b ∈ c'.fs → b ∈ c.fs ∨ c.h₀.get? b = none)
  (gL : ∀ o, s.heap.get? c.env.locals = some o → g.get? c.env.locals = some o) (g₀ : ∀ b o, (∃ o₀, c.h₀.get? b = some o₀) → s.heap.get? b = some o → g.get? b = some o)
  (S' : Sat x' c' α' loc' sto' s') (ex : Ex α α₂) (sub : ∀ a ∈ α₂, a ∈ α') (H : HS α₂ sto₂ s'.heap) (hr : x'.fr = x.fr := by rfl) (hgd : c'.gd = c.gd := by rfl) : Sat x c α₂ loc sto₂ s' := by
 subst hg
 obtain ⟨m, F, l⟩ := S.fr
 obtain ⟨m', F', l'⟩ := S'.fr
 obtain ⟨oL, e, p, hoL, r⟩ := F.ns
 refine ⟨⟨m, ⟨let ⟨_, sl, d⟩ := F'.keep _ _ (gL _ hoL); ⟨{ oL with slots := sl }, e, p, d, r⟩, F.keep.comp fun b o q e => let ⟨k1, sl, k2⟩ := F'.keep b o (g₀ b o q e); ⟨fun n => k1 fun z => (hfs b z).elim n fun w => (by obtain ⟨_, w'⟩ := q; rw [w] at w'; cases w'), sl, k2⟩, F.off⟩, fun y v e => ?_⟩, H, fun a ha => ⟨fun q => ?_, ?_⟩, S'.os.trans (hos.trans S.os), by have g := S'.gens; rw [hr, hgd] at g; exact g, fun y i e => ?_⟩
 ·obtain ⟨u, h1, h2⟩ := l y v e; exact ⟨u, h1, ex.vr h2⟩
 ·have := (S'.off a (sub a ha)).2; rw [q, gL _ hoL] at this; cases this
 ·cases e : c.h₀.get? a with
  | none => rfl
  | some o =>
   obtain ⟨o', e'⟩ := F.keep.get e
   have := (S'.off a (sub a ha)).2; rw [g₀ _ _ ⟨o, e⟩ e'] at this; cases this
 ·obtain ⟨a, h1, h2⟩ := S.cel y i e
  obtain ⟨β, rfl⟩ := ex
  exact ⟨a, by rw [q9V (q9W.mp h1).1]; exact h1, h2⟩
theorem Sat.ret (S : Sat x c α loc sto s) {x' : SX} {c' : Cx} {loc' : Loc} {g : Heap} {β : List Addr} {sto' : Sto} {s' : Shared} {K : AV → Sto → Prop} {v : AV} {val : Value} (hos : c'.os = s.os) (hg : c'.h₀ = g) (hfs : ∀ b, b ∈ c'.fs → b ∈ c.fs ∨ c.h₀.get? b = none) (gL : ∀ o, s.heap.get? c.env.locals = some o → g.get? c.env.locals = some o) (g₀ : ∀ b o, (∃ o₀, c.h₀.get? b = some o₀) → s.heap.get? b = some o → g.get? b = some o)
  (S' : Sat x' c' (α ++ β) loc' sto' s') (r : VR (α ++ β) v val) (h : RetK α.length K v sto') {Q : Value → Shared → Prop} (P : E0 x c α loc K Q) (hr : x'.fr = x.fr := by rfl) (hgd : c'.gd = c.gd := by rfl) : Q val s' := by
 rcases h with ⟨s₁, junk, rfl, hl, vl, st, hK⟩ | ⟨s₁, rest, j, o, rfl, hl, rfl, hj, ho, ol, st, hK⟩ | hK
 ·exact P _ _ _ _ _ hK .refl (S.back hos hg hfs gL g₀ S' .refl (fun a ha => List.mem_append_left _ ha) (S'.hs.cut hl st) hr hgd) (r.cut vl)
 ·obtain ⟨a, hα, rfl⟩ := r
  obtain ⟨ob, h2, h3⟩ := S'.objAt hα ho
  have ha : a ∉ α := fun q => by
   obtain ⟨i, hi, e⟩ := q9Y.mp q
   obtain ⟨p1, q1⟩ := q9W.mp hα
   have e' : (α ++ β)[i]'(by simp; lia) = a := by rw [List.getElem_append_left hi]; exact e
   have := (v0m S'.hs.nd).mp (e'.trans q1.symm)
   lia
  have H := S'.hs.cut hl st
  refine P _ _ (α ++ [a]) _ _ hK .push (S.back hos hg hfs gL g₀ S' .push (fun b hb => ?_) ⟨by simp [hl], ?_, fun i o' e => ?_⟩ hr hgd) ⟨a, ?_, rfl⟩
  ·rcases v0f.mp hb with q | q
   ·exact List.mem_append_left _ q
   ·cases v0c.mp q; exact v0i hα
  ·rw [v0b]
   exact ⟨H.nd, by simp, fun b hb d hd q => by cases v0c.mp hd; exact ha (q ▸ hb)⟩
  ·by_cases hi : i < s₁.length
   ·rw [q9V hi] at e
    obtain ⟨b, ob', p1, p2, p3⟩ := H.cell i o' e
    exact ⟨b, ob', by rw [q9V (by lia)]; exact p1, p2, p3.mono⟩
   ·rw [v0d (by lia)] at e
    have : i - s₁.length = 0 := by
     cases hq : i - s₁.length with
     | zero => rfl
     | succ j => rw [hq] at e; simp at e
    rw [this] at e; cases e
    exact ⟨a, ob, by rw [v0d (by lia), show i - α.length = 0 by lia]; rfl, h2, (h3.cut ol).mono⟩
  ·rw [v0d (v0h _), v0q]; rfl
 ·exact P _ _ _ _ _ hK ⟨β, rfl⟩ (S.back hos hg hfs gL g₀ S' ⟨β, rfl⟩ (fun a ha => ha) S'.hs hr hgd) r
noncomputable def inC (c : Cx) (s : Shared) (α : List Addr) (env : Env) : Cx := { A := c.A.deeper env, base := c.base, fs := s.heap.objs.size :: c.env.locals :: c.fs, h₀ := hideAll s.heap α, outer := env :: c.outer, env := env, os := s.os, gd := c.gd }
theorem V7 (S : Sat x c α loc sto s) : ∀ b o, (∃ o₀, c.h₀.get? b = some o₀) → s.heap.get? b = some o → (hideAll s.heap α).get? b = some o := fun b o ⟨_, e⟩ d => hideAll_get _ d fun q => by rw [(S.off b q).2] at e; cases e
theorem V8 (S : Sat x c α loc sto s) : ∀ o, s.heap.get? c.env.locals = some o → (hideAll s.heap α).get? c.env.locals = some o := fun o e => hideAll_get _ e fun q => (S.off _ q).1 rfl
theorem c7 (S : Sat x c α loc sto s) {env : Env} : ∀ b, b ∈ (inC c s α env).fs → b ∈ c.fs ∨ c.h₀.get? b = none := fun b hb => by
 obtain ⟨m, F, l⟩ := S.fr
 rcases v0F.mp hb with rfl | hb
 ·exact .inr (F.keep.none (v0g (v0h _)))
 ·rcases v0F.mp hb with rfl | hb
  ·exact .inr F.off
  ·exact .inl hb
theorem q3f (O : Ok x c) {b : Addr} (e : c.h₀.get? b = none) : c.base.get? b = none := by
 cases q : c.base.get? b with
 | none => rfl
 | some o => rw [O.sub b o q] at e; cases e
theorem q0w (O : Ok x c) (S : Sat x c α loc sto s) {x' : SX} {env : Env} (hL : env.locals = s.heap.objs.size) (hf : env.frame = some env.locals) (hw : x'.w = x.w) (hr : x'.fr = x.fr) (hd : 1 ≤ x.d) (hd' : x'.d = x.d - 1) (hs : env.scope = x'.scope) (hk : env.scope.kind = .function) (hg : env.globals = mainGlobals) (hbi : env.builtins = builtinsNs) : Ok x' (inC c s α env) := by
 obtain ⟨m, F, l⟩ := S.fr
 have none_ : (hideAll s.heap α).get? s.heap.objs.size = none := by
  cases e : (hideAll s.heap α).get? s.heap.objs.size with
  | none => rfl
  | some o => exact absurd (v0a (of_hideAll _ e)) (Nat.lt_irrefl _)
 have Fg : FrX c.fs c.h₀ c.env.locals (hideAll s.heap α) m := by
  obtain ⟨oL, e, p, hoL, r⟩ := F.ns
  exact ⟨⟨oL, e, p, V8 S _ hoL, r⟩, F.keep.then (V7 S), F.off⟩
 refine ⟨fun q => ?_, fun b o e => V7 S b o ⟨o, O.sub b o e⟩ (S.stay O b o e), fun b hb => ?_, fun b hb => ?_, hw ▸ O.gnd, O.top, O.hh, ?_, ?_, hk, hs, hg, hbi⟩
 ·obtain ⟨p1, p2, p3⟩ := O.below (hr ▸ q)
  refine ⟨Around.frames_deeper p1, fun b hb => ?_, fun h m' F' => ?_⟩
  ·rw [show (inC c s α env).outer = env :: c.outer from rfl, List.filterMap_cons, hf] at hb
   rcases v0F.mp hb with rfl | hb
   ·rw [hL]; exact v0x
   ·exact v0y _ (v0y _ (p2 b hb))
  ·refine .cons (by rw [hk]; decide) hf F'.ns ?_ ((p3 _ _ Fg).of_keeps fun b o e _ => ?_)
   ·show c.base.get? env.locals = none
    cases q : c.base.get? env.locals with
    | none => rfl
    | some o => have := v0a (S.stay O _ _ q); rw [hL] at this; exact absurd this (Nat.lt_irrefl _)
   ·obtain ⟨_, sl, d⟩ := F'.keep b o e
    exact ⟨_, d, rfl⟩
 ·rcases c7 S b hb with hb | hb
  ·exact O.dis b hb
  ·exact q3f O hb
 ·rcases v0F.mp hb with rfl | hb
  ·exact .inl hL.symm
  ·rcases v0F.mp hb with rfl | hb
   ·obtain ⟨oL, e, p, hoL, r⟩ := F.ns
    exact .inr ⟨oL, V8 S _ hoL⟩
   ·rcases O.fd b hb with rfl | ⟨o, e⟩
    ·obtain ⟨oL, e, p, hoL, r⟩ := F.ns
     exact .inr ⟨oL, V8 S _ hoL⟩
    ·obtain ⟨o', e'⟩ := F.keep.get e
     exact .inr ⟨o', V7 S b o' ⟨o, e⟩ e'⟩
 ·have := O.dep; show c.A.depth + 1 + x'.d < _; lia
 ·have := O.units; show c.A.units + 3 + 5 * x'.d + 200 < _; lia
noncomputable def retV : Flow → Value
 | .ret v => v
 | _ => .none
theorem U2 {as : List AV} {kws : List (Str × AV)} {f : Addr} {o : Obj} {fd : FuncData} {body : List Stmt} {scope : Scope} {loc₀ : Loc} {x' : SX}
  (ho : (KK x.w.params).lookup f = some o) (hod : o.data = .func fd) (hbd : fd.body = .stmts body) (hs : fd.scope = scope) (hg : fd.globals = mainGlobals) (hbi : fd.builtins = builtinsNs) (hcd : codeIn (KK x.w.params) fd.code fd.qualname = true) (hcell : ∀ y ∈ scope.names, y.2 ≠ .cell)
  (hb : ∀ α vs ks, VRs α as vs → VRs α (kws.map (·.2)) ks → ∃ binds, (∀ S, peek (KK x.w.params) S (bindArgs fd ⟨vs, (kws.map (·.1)).zip ks⟩) = some binds) ∧ BR α loc₀ binds)
  (hloc : (loc₀.all fun p => match lk scope.names p.1 with | some .local => true | _ => false) = true) (hnd : (loc₀.map (·.1)).Nodup) (hd : 1 ≤ x.d) (hx : x' = { w := x.w, fr := x.fr, d := x.d - 1, scope := scope, cm := [] })
  (hco : scope.isCoroutine = false) (hgen : scope.isGenerator = false) (hk : scope.kind = .function) {vs ks : List Value} {R : Result → Shared → Prop} (O : Ok x c) (S : Sat x c α loc sto s) (rv : VRs α as vs) (rk : VRs α (kws.map (·.2)) ks)
  (h : ∀ s₁, loc₀.length ≤ s₁.toks → Ok x' (inC c s α (callEnv fd s.heap.objs.size f)) → Sat x' (inC c s α (callEnv fd s.heap.objs.size f)) α loc₀ sto s₁ → wpAny (model pw x.w) (inC c s α (callEnv fd s.heap.objs.size f)).A (execs body (callEnv fd s.heap.objs.size f)) (fun fl s' => R (.ok (.ret (retV fl))) s')
   (fun e s' => wpAny (model pw x.w) (inC c s α (callEnv fd s.heap.objs.size f)).A (leaving (callEnv fd s.heap.objs.size f) e) (fun _ s'' => R (.error e) s'') (fun e' s'' => R (.error e') s'') s') s₁) :
  codeAny (model pw x.w) c.A (.call (.ref f) ⟨vs, (kws.map (·.1)).zip ks⟩) R s := by
 subst hs hx
 obtain ⟨binds, hpk, hbr⟩ := hb α vs ks rv rk
 have X := S.gnd O
 obtain ⟨mg, mb, Tp⟩ := O.top
 have Tp' := Tp.keeps (S.stay O)
 have none_ : (hideAll s.heap α).get? s.heap.objs.size = none := by
  cases e : (hideAll s.heap α).get? s.heap.objs.size with
  | none => rfl
  | some o => exact absurd (v0a (of_hideAll _ e)) (Nat.lt_irrefl _)
 refine codeAny_call_def (fd := fd) (body := body) (binds := binds) (by have := O.dep; lia) (X _ _ ho) hod Tp'.nolimit (codeRec_of X hcd) hbd (kp_binds X hpk) hcell (fun y hy => ?_) (fun h₁ hns hk₁ => ?_) hco hgen hk
 ·have := v0w.mp hloc
  have hm : y.1 ∈ loc₀.map (·.1) := by rw [← hbr.names]; exact List.mem_map_of_mem hy
  obtain ⟨p, hp, e⟩ := v0z.mp hm
  have h2 := this p hp
  rw [e, F7] at h2
  split at h2
  ·assumption
  ·cases h2
 ·have lb : binds.length = loc₀.length := by rw [← v0I (f := (·.1)), hbr.names, v0I]
  refine v1j (h _ (by show _ ≤ s.toks + binds.length; lia) (q0w O S rfl rfl rfl rfl hd rfl rfl hk hg hbi) ⟨⟨_, ⟨hns, .of fun b o e => hk₁ b o (of_hideAll _ e), none_⟩, hbr.lr hnd⟩, ⟨S.hs.len, S.hs.nd, fun i o e => ?_⟩, fun a ha => ⟨fun q => S.fresh.1 ((show a = s.heap.objs.size from q) ▸ ha), hideAll_none _ ha⟩, rfl, S.gens, fun y i e => by cases e⟩) (fun fl s' q => by cases fl <;> exact q) fun _ _ e => e
  obtain ⟨a, ob, h1, h2, h3⟩ := S.hs.cell i o e; exact ⟨a, ob, h1, hk₁ _ _ h2, h3⟩
def CodeS (x : SX) (f : Value) (as : List AV) (kws : List (Str × AV)) (loc : Loc) (sto : Sto) (K : AV → Sto → Prop) : Prop :=
 ∀ c α s vs ks (R : Result → Shared → Prop), Ok x c → Sat x c α loc sto s → VRs α as vs → VRs α (kws.map (·.2)) ks → (∀ v sto' α' s' val, K v sto' → Ex α α' → Sat x c α' loc sto' s' → VR α' v val → R (.ok (.ret val)) s') →
  codeAny (model pw x.w) c.A (.call f ⟨vs, (kws.map (·.1)).zip ks⟩) R s
theorem CodeS.call {f : Value} {as : List AV} {kws : List (Str × AV)} {K : AV → Sto → Prop} (h : CodeS x f as kws loc sto K) : CallS x f as kws loc sto K := fun c α s vs ks Q E O S rv rk P => v1q (h c α s vs ks _ O S rv rk P)
theorem Sat.bodyEnd (S : Sat x c α loc sto s) {x' : SX} {env : Env} {K : AV → Sto → Prop} {R : Result → Shared → Prop} (P : ∀ v sto' α' s' val, K v sto' → Ex α α' → Sat x c α' loc sto' s' → VR α' v val → R (.ok (.ret val)) s')
  {f' : FL} {l' : Loc} {s' : Sto} {α' : List Addr} {t' : Shared} {fl : Flow} (hf : BodyK sto.length K f' l' s') (ex : Ex α α') (S₂ : Sat x' (inC c s α env) α' l' s' t') (r : FR α' f' fl) (hr : x'.fr = x.fr := by rfl) : R (.ok (.ret (retV fl))) t' := by
 obtain ⟨β, rfl⟩ := ex
 have hl := S.hs.len
 rw [← hl] at hf
 cases f' with
 | next => obtain rfl : fl = .next := r; exact S.ret (Q := fun v s => R (.ok (.ret v)) s) (v := .none) (val := .none) rfl rfl (c7 S) (V8 S) (V7 S) S₂ (show VR _ .none .none from rfl) hf P hr
 | brk => exact hf.elim
 | cont => exact hf.elim
 | ret v => obtain ⟨u, rfl, hu⟩ := r; exact S.ret (Q := fun v s => R (.ok (.ret v)) s) rfl rfl (c7 S) (V8 S) (V7 S) S₂ hu hf P hr
theorem q3g {as : List AV} {kws : List (Str × AV)} {K : AV → Sto → Prop} {f : Addr} {o : Obj} {fd : FuncData} {body : List Stmt} {scope : Scope} {loc₀ : Loc}
  (ho : (KK x.w.params).lookup f = some o) (hod : o.data = .func fd) (hbd : fd.body = .stmts body) (hs : fd.scope = scope) (hg : fd.globals = mainGlobals) (hbi : fd.builtins = builtinsNs) (hcd : codeIn (KK x.w.params) fd.code fd.qualname = true) (hcell : ∀ y ∈ scope.names, y.2 ≠ .cell)
  (hb : ∀ α vs ks, VRs α as vs → VRs α (kws.map (·.2)) ks → ∃ binds, (∀ S, peek (KK x.w.params) S (bindArgs fd ⟨vs, (kws.map (·.1)).zip ks⟩) = some binds) ∧ BR α loc₀ binds)
  (hloc : (loc₀.all fun p => match lk scope.names p.1 with | some .local => true | _ => false) = true) (hnd : (loc₀.map (·.1)).Nodup) (hd : 1 ≤ x.d)
  (h : XSs { w := x.w, fr := x.fr, d := x.d - 1, scope := scope, cm := [] } body loc₀ sto (BodyK sto.length K))
  (hco : scope.isCoroutine = false := by rfl) (hgen : scope.isGenerator = false := by rfl) (hk : scope.kind = .function := by rfl) : CodeS x (.ref f) as kws loc sto K := by
 intro c α s vs ks R O S rv rk P
 exact U2 ho hod hbd hs hg hbi hcd hcell hb hloc hnd hd rfl hco hgen hk O S rv rk fun s₁ _ O' S' => h _ α _ _ _ O' S' fun f' l' s' α' t' fl hf ex S₂ r => S.bodyEnd P hf ex S₂ r
theorem q0d {as : List AV} {kws : List (Str × AV)} {K : AV → Sto → Prop} {f : Addr} {o : Obj} {fd : FuncData} {body : List Stmt} {scope : Scope} {loc₀ : Loc}
  (ho : (KK x.w.params).lookup f = some o) (hod : o.data = .func fd) (hbd : fd.body = .stmts body) (hs : fd.scope = scope) (hg : fd.globals = mainGlobals) (hbi : fd.builtins = builtinsNs) (hcd : codeIn (KK x.w.params) fd.code fd.qualname = true) (hcell : ∀ y ∈ scope.names, y.2 ≠ .cell)
  (hb : ∀ α vs ks, VRs α as vs → VRs α (kws.map (·.2)) ks → ∃ binds, (∀ S, peek (KK x.w.params) S (bindArgs fd ⟨vs, (kws.map (·.1)).zip ks⟩) = some binds) ∧ BR α loc₀ binds)
  (hloc : (loc₀.all fun p => match lk scope.names p.1 with | some .local => true | _ => false) = true) (hnd : (loc₀.map (·.1)).Nodup) (hd : 1 ≤ x.d)
  (h : XSs { w := x.w, fr := x.fr, d := x.d - 1, scope := scope, cm := [] } body loc₀ sto (BodyK sto.length K))
  (hco : scope.isCoroutine = false := by rfl) (hgen : scope.isGenerator = false := by rfl) (hk : scope.kind = .function := by rfl) : CallS x (.ref f) as kws loc sto K :=
 (q3g ho hod hbd hs hg hbi hcd hcell hb hloc hnd hd h hco hgen hk).call
end
theorem VRs.nil {α : List Addr} {vs : List Value} (h : VRs α [] vs) : vs = [] := by
 cases vs with
 | nil => rfl
 | cons _ _ => exact False.elim h
theorem VRs.cons {α : List Addr} {a : AV} {as : List AV} {vs : List Value} (h : VRs α (a :: as) vs) : ∃ v us, vs = v :: us ∧ VR α a v ∧ VRs α as us := by
 cases vs with
 | nil => exact False.elim h
 | cons v us => exact ⟨v, us, rfl, h.1, h.2⟩
theorem VRs.one {α : List Addr} {a : AV} {vs : List Value} (h : VRs α [a] vs) : ∃ v, vs = [v] ∧ VR α a v := by
 obtain ⟨v, us, rfl, r, h⟩ := h.cons
 cases h.nil; exact ⟨v, rfl, r⟩
theorem VRs.two {α : List Addr} {a b : AV} {vs : List Value} (h : VRs α [a, b] vs) : ∃ v w, vs = [v, w] ∧ VR α a v ∧ VR α b w := by
 obtain ⟨v, us, rfl, r, h⟩ := h.cons
 obtain ⟨w, rfl, q⟩ := h.one; exact ⟨v, w, rfl, r, q⟩
theorem VRs.three {α : List Addr} {a b d : AV} {vs : List Value} (h : VRs α [a, b, d] vs) : ∃ v w u, vs = [v, w, u] ∧ VR α a v ∧ VR α b w ∧ VR α d u := by
 obtain ⟨v, us, rfl, r, h⟩ := h.cons
 obtain ⟨w, u, rfl, q, p⟩ := h.two; exact ⟨v, w, u, rfl, r, q, p⟩
theorem q3h {b : Bool} {P Q : Prop} (h : cnd b P Q) : P ∨ Q := by cases b; exact .inr h; exact .inl h
noncomputable def AV.onB {P : Type} (d : P) (b : AV) (f : Bool → P) : P := AV.casesOn b d f (fun _ => d) (fun _ => d) (fun _ => d) (fun _ => d) fun _ => d
noncomputable def AV.onI {P : Type} (d : P) (b : AV) (f : Int → P) : P := AV.casesOn b d (fun _ => d) f (fun _ => d) (fun _ => d) (fun _ => d) fun _ => d
noncomputable def AV.onS {P : Type} (d : P) (b : AV) (f : List Nat → P) : P := AV.casesOn b d (fun _ => d) (fun _ => d) f (fun _ => d) (fun _ => d) fun _ => d
noncomputable def AV.onY {P : Type} (d : P) (b : AV) (f : List UInt8 → P) : P := AV.casesOn b d (fun _ => d) (fun _ => d) (fun _ => d) f (fun _ => d) fun _ => d
noncomputable def AV.onR {P : Type} (d : P) (b : AV) (f : Nat → P) : P := AV.casesOn b d (fun _ => d) (fun _ => d) (fun _ => d) (fun _ => d) f fun _ => d
noncomputable def AV.onE {P : Type} (d : P) (b : AV) (f : Value → P) : P := AV.casesOn b d (fun _ => d) (fun _ => d) (fun _ => d) (fun _ => d) (fun _ => d) f
theorem AV.onB_of {P : Type} {d : P} {b : AV} {f : Bool → P} : AV.onB d b f = d ∨ ∃ i, b = .bool i := by cases b <;> first | exact .inl rfl | exact .inr ⟨_, rfl⟩
theorem AV.onI_of {P : Type} {d : P} {b : AV} {f : Int → P} : AV.onI d b f = d ∨ ∃ i, b = .int i := by cases b <;> first | exact .inl rfl | exact .inr ⟨_, rfl⟩
theorem AV.onS_of {P : Type} {d : P} {b : AV} {f : List Nat → P} : AV.onS d b f = d ∨ ∃ i, b = .str i := by cases b <;> first | exact .inl rfl | exact .inr ⟨_, rfl⟩
theorem AV.onY_of {P : Type} {d : P} {b : AV} {f : List UInt8 → P} : AV.onY d b f = d ∨ ∃ i, b = .bytes i := by cases b <;> first | exact .inl rfl | exact .inr ⟨_, rfl⟩
theorem AV.onR_of {P : Type} {d : P} {b : AV} {f : Nat → P} : AV.onR d b f = d ∨ ∃ i, b = .ref i := by cases b <;> first | exact .inl rfl | exact .inr ⟨_, rfl⟩
theorem AV.onE_of {P : Type} {d : P} {b : AV} {f : Value → P} : AV.onE d b f = d ∨ ∃ i, b = .ext i := by cases b <;> first | exact .inl rfl | exact .inr ⟨_, rfl⟩
theorem AV.isB {b : AV} {f : Bool → Prop} (h : AV.onB False b f) : ∃ i, b = .bool i ∧ f i := by rcases AV.onB_of (d := False) (b := b) (f := f) with e | ⟨i, rfl⟩; exact (e ▸ h).elim; exact ⟨i, rfl, h⟩
theorem AV.isI {b : AV} {f : Int → Prop} (h : AV.onI False b f) : ∃ i, b = .int i ∧ f i := by rcases AV.onI_of (d := False) (b := b) (f := f) with e | ⟨i, rfl⟩; exact (e ▸ h).elim; exact ⟨i, rfl, h⟩
theorem AV.isS {b : AV} {f : List Nat → Prop} (h : AV.onS False b f) : ∃ i, b = .str i ∧ f i := by rcases AV.onS_of (d := False) (b := b) (f := f) with e | ⟨i, rfl⟩; exact (e ▸ h).elim; exact ⟨i, rfl, h⟩
theorem AV.isY {b : AV} {f : List UInt8 → Prop} (h : AV.onY False b f) : ∃ i, b = .bytes i ∧ f i := by rcases AV.onY_of (d := False) (b := b) (f := f) with e | ⟨i, rfl⟩; exact (e ▸ h).elim; exact ⟨i, rfl, h⟩
theorem AV.isE {b : AV} {f : Value → Prop} (h : AV.onE False b f) : ∃ i, b = .ext i ∧ f i := by rcases AV.onE_of (d := False) (b := b) (f := f) with e | ⟨i, rfl⟩; exact (e ▸ h).elim; exact ⟨i, rfl, h⟩
theorem AV.isR {b : AV} {f : Nat → Prop} (h : AV.onR False b f) : ∃ i, b = .ref i ∧ f i := by rcases AV.onR_of (d := False) (b := b) (f := f) with e | ⟨i, rfl⟩; exact (e ▸ h).elim; exact ⟨i, rfl, h⟩
theorem AV.pick {a : AV} {n : Prop} {fb : Bool → Prop} {fi : Int → Prop} {fs : List Nat → Prop} {fy : List UInt8 → Prop} {fr : Nat → Prop} {fe : Value → Prop} (h : AV.casesOn (motive := fun _ => Prop) a n fb fi fs fy fr fe) {G : Prop} (kn : a = .none → n → G) (kb : ∀ p, a = .bool p → fb p → G) (ki : ∀ p, a = .int p → fi p → G)
  (ks : ∀ p, a = .str p → fs p → G) (ky : ∀ p, a = .bytes p → fy p → G) (kr : ∀ p, a = .ref p → fr p → G) (ke : ∀ p, a = .ext p → fe p → G) : G := by
 cases a with
 | none => exact kn rfl h
 | bool p => exact kb p rfl h
 | int p => exact ki p rfl h
 | str p => exact ks p rfl h
 | bytes p => exact ky p rfl h
 | ref p => exact kr p rfl h
 | ext p => exact ke p rfl h
theorem no1 {β : Sort _} {P : β → Prop} {G : Prop} : ∀ p, P p → False → G := fun _ _ h => h.elim
noncomputable def onO {P : Type} (d : P) (sto : Sto) (i : Nat) (f : AO → P) : P := Option.casesOn sto[i]? d f
theorem q3i {P : Type} {d : P} {sto : Sto} {i : Nat} {f : AO → P} : onO d sto i f = d ∨ ∃ ao, sto[i]? = some ao ∧ onO d sto i f = f ao := by
 unfold onO
 cases sto[i]? with
 | none => exact .inl rfl
 | some ao => exact .inr ⟨ao, rfl, rfl⟩
theorem isO {sto : Sto} {i : Nat} {f : AO → Prop} (h : onO False sto i f) : ∃ ao, sto[i]? = some ao ∧ f ao := by
 rcases q3i (d := False) (sto := sto) (i := i) (f := f) with e | ⟨ao, e, e2⟩
 ·exact (e ▸ h).elim
 ·exact ⟨ao, e, e2 ▸ h⟩
section
variable {x : SX} {loc : Loc} {sto : Sto} {K : AV → Sto → Prop}
theorem Sat.list {c : Cx} {α : List Addr} {s : Shared} (S : Sat x c α loc sto s) {i : Nat} {a : Addr} {ao : AO} {xs : List AV} (h : sto[i]? = some ao) (e : ao.items = some xs) (ha : α[i]? = some a) : ∃ (o : Obj) (vs : Array Value) (n : Nat), s.heap.get? a = some o ∧ o.cls = .type "list" ∧ (o.dict = none ∧ o.slots = #[]) ∧ o.data = .seq vs n ∧ VRs α xs vs.toList ∧ s.heap.IsList a vs ∧ vs.size = xs.length := by
 obtain ⟨o, h2, h3⟩ := S.objAt ha h
 obtain ⟨h3, h4, vs, n, h5, h6⟩ := h3.rep e
 exact ⟨o, vs, n, h2, h3, h4, h5, h6, ⟨o, h2, h3, n, h5⟩, by rw [← v0D, ← h6.length]⟩
theorem m6 {n : Nat} (h : n ≤ sizeLine) : (n : Int) < 2 ^ 63 := Int.lt_of_le_of_lt (Int.ofNat_le.mpr h) (by decide)
def binI (op : Operator) (i j : Int) (KI : Int → Prop) : Prop := match op with
 | .Add => KI (i + j)
 | .Sub => KI (i - j)
 | .Mult => IntMulOk i j ∧ KI (i * j)
 | .FloorDiv => j ≠ 0 ∧ Builtin.divisionGoesByPylong i j = false ∧ KI (i.fdiv j)
 | .Mod => j ≠ 0 ∧ KI (i.fmod j)
 | .Pow => 0 ≤ j ∧ (Builtin.Int.intBits i : Int) * j ≤ 2 ^ 27 ∧ KI (i ^ j.toNat)
 | _ => False
def opA (op : Operator) (P : Prop) : Prop := match op with
 | .Add => P
 | _ => False
def opM (op : Operator) (P : Prop) : Prop := match op with
 | .Sub => P
 | _ => False
theorem q3j {op : Operator} {P : Prop} (h : opA op P) : op = .Add ∧ P := by cases op <;> first | exact ⟨rfl, h⟩ | exact False.elim h
theorem q8i {op : Operator} {P : Prop} (h : opM op P) : op = .Sub ∧ P := by cases op <;> first | exact ⟨rfl, h⟩ | exact False.elim h
def binT (op : Operator) (a b : AV) (sto : Sto) (K : AV → Sto → Prop) : Prop := AV.casesOn a False
 (fun p => b.onB False fun q => opM op (K (.int (b2i p - b2i q)) sto))
 (fun i => b.onI False fun j => binI op i j fun k => K (.int k) sto)
 (fun l => b.onS False fun r => opA op (l.length + r.length ≤ sizeLine ∧ K (.str (l ++ r)) sto))
 (fun _ => False) (fun _ => False) fun _ => False
section
variable {w : World} {A : Around} {s : Shared} {Q E : Value → Shared → Prop} {t u : Tok}
theorem q6i {op : Operator} {i j : Int} {KI : Int → Prop} (h : binI op i j KI) (hh : A.handled = none) (P : ∀ k, KI k → Q (.int k s.toks) { s with toks := s.toks + 1 }) : wpAny (model pw w) A (binaryOp op (.int i t) (.int j u)) Q E s := by
 cases op with
 | Add => exact PySem.P.add_int (P _ h)
 | Sub => exact PySem.P.sub_int (P _ h)
 | Mult => exact PySem.P.mul_int (P _ h.2) h.1
 | FloorDiv => exact floordiv_int h.1 (P _ h.2.2) (.inl h.2.1)
 | Mod => exact mod_int_or hh (fun z => absurd z h.1) fun _ => P _ h.2
 | Pow => exact pow_int h.1 h.2.1 (P _ h.2.2)
 | _ => exact False.elim h
theorem q1F (l r : List Nat) (t : Tok) : Value.str ((⟨l.toArray⟩ : Str) ++ (⟨r.toArray⟩ : Str)) t = .str ⟨(l ++ r).toArray⟩ t := by
 show Value.str (Str.mk (_ ++ _)) t = _
 rw [List.append_toArray]
end
theorem q1G {o : Operator} {a b : AV} (h : binT o a b sto K) : OpS x (op2 (binaryOp o)) [a, b] loc sto K := by
 intro c α s vs Q E O S r P
 obtain ⟨v, w, rfl, r1, r2⟩ := r.two
 refine AV.pick h (fun _ z => z.elim) (fun p e g => ?_) (fun i e g => ?_) (fun l e g => ?_) no1 no1 no1 <;> clear h <;> subst e
 ·obtain ⟨q, e, k⟩ := AV.isB g; clear g; subst e
  obtain ⟨rfl, g⟩ := q8i k
  obtain rfl := r1; obtain rfl := r2
  exact sub_bool (P _ _ _ _ _ g .refl (S.toks _) ⟨_, rfl⟩)
 ·obtain ⟨j, e, k⟩ := AV.isI g; clear g; subst e
  obtain ⟨t, rfl⟩ := r1; obtain ⟨u, rfl⟩ := r2
  exact q6i k O.hh fun _ h => P _ _ _ _ _ h .refl (S.toks _) ⟨_, rfl⟩
 ·obtain ⟨j, e, k⟩ := AV.isS g; clear g; subst e
  obtain ⟨rfl, g⟩ := q3j k
  obtain ⟨t, rfl⟩ := r1; obtain ⟨u, rfl⟩ := r2
  exact PyProof.Rows.add_str (fun t' tk => P _ _ _ _ _ g.2 .refl (S.toks _) ⟨t', q1F _ _ _⟩) g.1
def augT (op : Operator) (a b : AV) (sto : Sto) (K : AV → Sto → Prop) : Prop := opA op (AV.casesOn a False (fun _ => False)
 (fun i => b.onI False fun j => K (.int (i + j)) sto)
 (fun l => b.onS False fun r => l.length + r.length ≤ sizeLine ∧ K (.str (l ++ r)) sto)
 (fun _ => False) (fun _ => False) fun _ => False)
theorem q6j {o : Operator} {a b : AV} (h : augT o a b sto K) : OpS x (op2 (inplaceOp o)) [a, b] loc sto K := by
 intro c α s vs Q E O S r P
 obtain ⟨v, w, rfl, r1, r2⟩ := r.two
 obtain ⟨rfl, h⟩ := q3j h
 refine AV.pick h (fun _ z => z.elim) no1 (fun i e g => ?_) (fun l e g => ?_) no1 no1 no1 <;> clear h <;> subst e
 ·obtain ⟨j, e, k⟩ := AV.isI g; clear g; subst e
  obtain ⟨t, rfl⟩ := r1; obtain ⟨u, rfl⟩ := r2
  exact PySem.P.iadd_int (P _ _ _ _ _ k .refl (S.toks _) ⟨_, rfl⟩)
 ·obtain ⟨j, e, k⟩ := AV.isS g; clear g; subst e
  obtain ⟨t, rfl⟩ := r1; obtain ⟨u, rfl⟩ := r2
  exact PyProof.Rows.iadd_str (fun t' tk => P _ _ _ _ _ k.2 .refl (S.toks _) ⟨t', q1F _ _ _⟩) k.1
noncomputable def N8 (p t : List Nat) : Bool := !(Builtin.Str.occurrences ⟨t.toArray⟩ ⟨p.toArray⟩ 0 t.length 1).isEmpty
def cmpI (op : CmpOp) (i j : Int) (KB : Bool → Prop) : Prop := match op with
 | .Eq => KB (i == j)
 | .NotEq => KB (i != j)
 | .Lt => KB (decide (i < j))
 | .LtE => KB (decide (i ≤ j))
 | .Gt => KB (decide (j < i))
 | .GtE => KB (decide (j ≤ i))
 | _ => False
def cmpS (op : CmpOp) (l r : List Nat) (KB : Bool → Prop) : Prop := match op with
 | .Eq => KB (l == r)
 | .NotEq => KB (l != r)
 | .In => KB (N8 l r)
 | _ => False
def cmpB (op : CmpOp) (p q : Bool) (KB : Bool → Prop) : Prop := match op with
 | .NotEq => KB (p != q)
 | _ => False
def cmpY (op : CmpOp) (l r : List UInt8) (KB : Bool → Prop) : Prop := match op with
 | .Eq => KB (l == r)
 | _ => False
theorem q6k {op : CmpOp} {p q : Bool} {KB : Bool → Prop} (h : cmpB op p q KB) : op = .NotEq ∧ KB (p != q) := by cases op <;> first | exact ⟨rfl, h⟩ | exact False.elim h
theorem q6l {op : CmpOp} {p q : List UInt8} {KB : Bool → Prop} (h : cmpY op p q KB) : op = .Eq ∧ KB (p == q) := by cases op <;> first | exact ⟨rfl, h⟩ | exact False.elim h
def AV.isN (a : AV) (KB : Bool → Prop) : Prop := AV.casesOn a (KB true) (fun _ => False) (fun _ => KB false) (fun _ => KB false) (fun _ => False) (fun _ => KB false) fun _ => False
def cmpN (op : CmpOp) (a b : AV) (KB : Bool → Prop) : Prop := match op with
 | .Is => AV.casesOn b (a.isN KB) (fun _ => False) (fun _ => False) (fun _ => False) (fun _ => False) (fun _ => False) fun v => v = .none ∧ a.isN KB
 | .IsNot => AV.casesOn b (a.isN fun q => KB (!q)) (fun _ => False) (fun _ => False) (fun _ => False) (fun _ => False) (fun _ => False) fun _ => False
 | _ => False
noncomputable def isOp (op : CmpOp) : Bool := match op with
 | .Is => true
 | .IsNot => true
 | _ => false
def p9 (op : CmpOp) (a b : AV) (sto : Sto) (K : AV → Sto → Prop) : Prop := cnd (isOp op) (cmpN op a b fun q => K (.bool q) sto) (AV.casesOn a False
 (fun p => b.onB False fun q => cmpB op p q fun q => K (.bool q) sto)
 (fun i => b.onI False fun j => cmpI op i j fun q => K (.bool q) sto)
 (fun l => b.onS False fun r => cmpS op l r fun q => K (.bool q) sto)
 (fun l => b.onY False fun r => cmpY op l r fun q => K (.bool q) sto)
 (fun _ => False) fun _ => False)
section
variable {w : World} {A : Around} {s : Shared} {Q E : Value → Shared → Prop} {t u : Tok} {KB : Bool → Prop}
theorem q6m {op : CmpOp} {i j : Int} (h : cmpI op i j KB) (P : ∀ q, KB q → Q (.bool q) s) : wpAny (model pw w) A (compareOp op (.int i t) (.int j u)) Q E s := by
 cases op with
 | Eq => exact PySem.P.eq_int (P _ h)
 | NotEq => exact PySem.P.ne_int (P _ h)
 | Lt => exact PySem.P.lt_int (P _ h)
 | LtE => exact PySem.P.le_int (P _ h)
 | Gt => exact PyProof.Rows.gt_int (P _ h)
 | GtE => exact PyProof.Rows.ge_int (P _ h)
 | _ => exact False.elim h
theorem q6n {op : CmpOp} {l r : List Nat} (h : cmpS op l r KB) (P : ∀ q, KB q → Q (.bool q) s) : wpAny (model pw w) A (compareOp op (.str ⟨l.toArray⟩ t) (.str ⟨r.toArray⟩ u)) Q E s := by
 cases op with
 | Eq => exact PySem.P.eq_str (P _ h)
 | NotEq => exact PySem.P.ne_str (P _ h)
 | In => exact PySem.P.in_str (P _ h)
 | _ => exact False.elim h
theorem q3k {α : List Addr} {a : AV} {v : Value} (h : a.isN KB) (r : VR α a v) : KB (v == .none) := by
 cases a <;> first
  | exact False.elim h
  | (obtain rfl := r; exact h)
  | (obtain ⟨t, rfl⟩ := r; exact h)
  | (obtain ⟨t, _, rfl⟩ := r; exact h)
theorem q6o {α : List Addr} {op : CmpOp} {a b : AV} {v u : Value} (h : cmpN op a b KB) (r : VR α a v) (r2 : VR α b u) (P : ∀ q, KB q → Q (.bool q) s) : wpAny (model pw w) A (compareOp op v u) Q E s := by
 have is_ : a.isN KB → u = .none → wpAny (model pw w) A (compareOp .Is v u) Q E s := fun h e => by rw [e]; exact PySem.is_none (P _ (q3k h r))
 cases op with
 | Is => cases b with
  | none => exact is_ h r2
  | ext z => exact is_ h.2 ((show u = _ from r2).trans h.1)
  | _ => exact False.elim h
 | IsNot => cases b with
  | none => exact (show u = .none from r2) ▸ PySem.isNot_none (P _ (q3k (KB := fun q => KB (!q)) h r))
  | _ => exact False.elim h
 | _ => exact False.elim h
end
theorem q6p {o : CmpOp} {a b : AV} (h : p9 o a b sto K) : OpS x (op2 (compareOp o)) [a, b] loc sto K := by
 intro c α s vs Q E O S r P
 obtain ⟨v, w, rfl, r1, r2⟩ := r.two
 have P' : ∀ q, K (.bool q) sto → Q (.bool q) s := fun q h => P _ _ _ _ _ h .refl S rfl
 clear P
 rcases q3h h with h' | h' <;> clear h
 ·exact q6o h' r1 r2 P'
 refine AV.pick h' (fun _ z => z.elim) (fun p e g => ?_) (fun i e g => ?_) (fun l e g => ?_) (fun l e g => ?_) no1 no1 <;> clear h' <;> subst e
 ·obtain ⟨q, e, k⟩ := AV.isB g; clear g; subst e
  obtain ⟨rfl, g⟩ := q6k k
  obtain rfl := r1; obtain rfl := r2
  exact ne_bool (P' _ g)
 ·obtain ⟨j, e, k⟩ := AV.isI g; clear g; subst e
  obtain ⟨t, rfl⟩ := r1; obtain ⟨u, rfl⟩ := r2
  exact q6m k P'
 ·obtain ⟨j, e, k⟩ := AV.isS g; clear g; subst e
  obtain ⟨t, rfl⟩ := r1; obtain ⟨u, rfl⟩ := r2
  exact q6n k P'
 ·obtain ⟨j, e, k⟩ := AV.isY g; clear g; subst e
  obtain ⟨rfl, g⟩ := q6l k
  obtain ⟨t, rfl⟩ := r1; obtain ⟨u, rfl⟩ := r2
  exact eq_bytes (P' _ g)
noncomputable def AO.onL {P : Type} (d : P) (a : AO) (f : Nat → P) : P := Option.casesOn a.len d f
theorem AO.isL {a : AO} {f : Nat → Prop} (h : a.onL False f) : ∃ n, a.len = some n ∧ f n := by
 unfold AO.onL at h
 cases e : a.len with
 | none => rw [e] at h; exact False.elim h
 | some n => rw [e] at h; exact ⟨n, rfl, h⟩
def r6 (a : AV) (sto : Sto) (K : AV → Sto → Prop) : Prop := AV.casesOn a False (fun b => K (.bool b) sto) (fun _ => False)
 (fun l => l.length ≤ sizeLine ∧ K (.bool (!(l.length == 0))) sto) (fun _ => False)
 (fun i => onO False sto i fun ao => ao.onL False fun n => n ≤ sizeLine ∧ K (.bool (!(n == 0))) sto) fun _ => False
theorem q6q {a : AV} (h : r6 a sto K) : TrS x a loc sto K := by
 intro c α s val Q E O S r P
 refine AV.pick h (fun _ z => z.elim) (fun b e g => ?_) no1 (fun l e g => ?_) no1 (fun i e g => ?_) no1 <;> clear h <;> subst e
 ·obtain rfl := r; exact wpAny_truthy_bool (P _ _ _ _ g .refl S)
 ·obtain ⟨t, rfl⟩ := r
  refine PySem.P.truthy_str (Int.not_le.mpr (by rw [show (⟨l.toArray⟩ : Str).length = l.length from v0p ..]; exact m6 g.1)) ?_
  have e : ((Str.length ⟨l.toArray⟩ : Int) != 0) = !(l.length == 0) := by
   show ((l.toArray.size : Int) != 0) = _
   rw [v0p]; cases l <;> rfl
  rw [e]
  exact P _ _ _ _ g.2 .refl (S.toks _)
 ·obtain ⟨ao, hx, h⟩ := isO g
  obtain ⟨n, hn, h⟩ := AO.isL h
  obtain ⟨xs, he, hl⟩ := AO.len_items hn
  obtain ⟨a, ha, rfl⟩ := r
  obtain ⟨o, vs, n', h1, h2, h3, h4, h5, h6, h7⟩ := S.list hx he ha
  refine wpAny_truthy_list h6 (by rw [h7, hl]; exact m6 h.1) ?_
  rw [show vs.isEmpty = (vs.size == 0) from rfl, h7, hl]
  exact P _ _ _ _ h.2 .refl (S.toks _)
end
noncomputable def idx (k : Int) (n : Nat) : Option Nat := if 0 ≤ k then (if k < n then some k.toNat else none) else (if -(n : Int) ≤ k then some (k + n).toNat else none)
theorem q3l {k : Int} {n j : Nat} (h : idx k n = some j) : j < n := by
 unfold idx at h
 split at h <;> split at h <;> (try cases h) <;> lia
section
variable {x : SX} {loc : Loc} {sto : Sto} {K : AV → Sto → Prop}
theorem q3m {M : Model} {A : Around} {E : Value → Shared → Prop} {s : Shared} {l : Addr} {o : Obj} {items : Array Value} {ne : Nat} {k : Int} {j : Nat} {Q : Option (Nat × Value) → Shared → Prop} {t : Sem (Option (Nat × Value))} (e1 : ∀ n, k = Int.ofNat n → t = (seqItemAt l n >>= fun r => pure (r.map (n, ·))))
  (e2 : ∀ n, k = Int.negSucc n → t = (Builtin.List.listItems (.ref l) >>= fun xs => pure ((seqIndex? k xs.size).bind fun j => xs[j]?.map (j, ·)))) (ho : s.heap.get? l = some o) (hd : o.data = .seq items ne) (hj : idx k items.size = some j) (h : ∀ x, Q (some (j, x)) s) : wpAny M A t Q E s := by
 have hjl := q3l hj
 have hx : items[j]? = some items[j] := Array.getElem?_eq_getElem hjl
 unfold idx at hj
 cases k with
 | ofNat n =>
  have hj : (if (n : Int) < items.size then some n else none) = some j := hj
  split at hj
  ·cases hj
   rw [e1 _ rfl]
   refine v1e (wpAny_seqItemAt ho hd (v1h ?_))
   rw [hx]; exact h _
  ·cases hj
 | negSucc n =>
  have hj : (if -(items.size : Int) ≤ Int.negSucc n then some (Int.negSucc n + items.size).toNat else none) = some j := hj
  split at hj
  ·rename_i h1
   cases hj
   rw [e2 _ rfl]
   refine v1e (m := Builtin.List.listItems _) ?_
   refine v1e (m := seqItems? (.ref l)) (wpAny_seqItems ho hd (v1h (v1h ?_)))
   rw [seqIndex_neg (Int.negSucc_lt_zero n) h1, Option.bind_some, hx]; exact h _
  ·cases hj
theorem q3n {k : Int} {n j : Nat} (h : idx k n = some j) (hz : n ≤ sizeLine) : -(2 ^ 63 : Int) ≤ k ∧ k < 2 ^ 63 := by
 have := m6 hz
 unfold idx at h
 split at h <;> split at h <;> (try cases h) <;> lia
theorem q1l {prog : Program} {w : World} {A : Around} {E : Value → Shared → Prop} {s : Shared} {l : Addr} {o : Obj} {items : Array Value} {ne : Nat} {k : Int} {t : Tok} {v : Value} {j : Nat} {Q : Unit → Shared → Prop} (ho : s.heap.get? l = some o) (hc : o.cls = .type "list") (hd : o.data = .seq items ne)
  (hj : idx k items.size = some j) (hsz : items.size ≤ sizeLine) (hQ : Q () { s with heap := s.heap.update l (Obj.mapSeq (·.setIfInBounds j v)) }) : wpAny (model prog w) A (setItem (.ref l) (.int k t) v) Q E s := by
 have hl : s.heap.IsList l items := ⟨o, ho, hc, ne, hd⟩
 unfold setItem
 try with_reducible refine v1g ?_
 first | refine v1e (v1h ?_) | skip
 refine v1e (wpAny_sequenceKey hl.typeIs (by decide) ?_)
 refine v1e (wpAny_callSpecial?_slot (name := Str.ofString "__setitem__") hl.typeIs slot_list_setitem
  (wpAny_call_entry slot_list_setitem hl.typeIs entry_list_setitem ?_ (args_list_setitem _ _ _)))
 refine T7 fun Q' E' hQ' _ => ?_
 refine v1e (m := Builtin.List.listSubscript? (.int k t)) (wpAny_listSubscript_int ?_ ?_)
 ·have := q3n hj hsz
  unfold Builtin.List.listFitsIndex
  simp only [v0s, decide_eq_true_eq]; exact this
 ·refine v1e (q3m (l := l) (k := k) (fun n e => by rw [e]; rfl) (fun n e => by rw [e]; rfl) ho hd hj fun x => ?_)
  refine v1e (m := setSeqItemAt l j v) (wpAny_setSeqItemAt ho hd (v1h (hQ' _ _ ?_)))
  exact ⟨.none, rfl, v1h hQ⟩
noncomputable def ix (k : Int) (n : Nat) : Nat := (idx k n).getD 0
def okIx (k : Int) (n : Nat) : Prop := n ≤ sizeLine ∧ (idx k n).isSome = true
theorem okIx.get {k : Int} {n : Nat} (h : okIx k n) : idx k n = some (ix k n) := by
 obtain ⟨j, hj⟩ := v0A.mp h.2
 unfold ix; rw [hj]; rfl
theorem okIx.lt {k : Int} {n : Nat} (h : okIx k n) : ix k n < n := q3l h.get
noncomputable def AO.on4 {P : Type} (d : P) (ao : AO) (fl : List AV → P) (fS : List (List Nat) → P) (fI : List Int → P) (fB : List (List UInt8) → P) : P := AO.casesOn ao fl (fun _ => d) (fun _ => d) (fun _ => d) (fun _ _ _ => d) fS fI fB (fun _ _ => d) (fun _ => d) d
theorem AO.pick4 {ao : AO} {fl : List AV → Prop} {fS : List (List Nat) → Prop} {fI : List Int → Prop} {fB : List (List UInt8) → Prop} (h : ao.on4 False fl fS fI fB) {G : Prop} (kl : ∀ xs, ao = .lst xs → fl xs → G) (kS : ∀ xs, ao = .lsS xs → fS xs → G) (kI : ∀ xs, ao = .lsI xs → fI xs → G) (kB : ∀ xs, ao = .lsB xs → fB xs → G) : G := by
 cases ao with
 | lst xs => exact kl xs rfl h
 | lsS xs => exact kS xs rfl h
 | lsI xs => exact kI xs rfl h
 | lsB xs => exact kB xs rfl h
 | _ => exact False.elim h
def getO (sto : Sto) (k : Int) (K : AV → Sto → Prop) (ao : AO) : Prop := ao.on4 False (fun xs => okIx k xs.length ∧ K (xs.getD (ix k xs.length) .none) sto) (fun xs => okIx k xs.length ∧ K (.str (xs.getD (ix k xs.length) [])) sto)
 (fun xs => okIx k xs.length ∧ K (.int (xs.getD (ix k xs.length) 0)) sto) fun xs => okIx k xs.length ∧ K (.bytes (xs.getD (ix k xs.length) [])) sto
def q0x (a b : AV) (sto : Sto) (K : AV → Sto → Prop) : Prop := AV.casesOn a False (fun _ => False) (fun _ => False) (fun l => b.onI False fun k => okIx k l.length ∧ K (.str [l.getD (ix k l.length) 0]) sto) (fun _ => False)
 (fun i => b.onI False fun k => onO False sto i (getO sto k K)) fun _ => False
theorem q0y {k : Int} {n j : Nat} (h : idx k n = some j) : seqIndex? k n = some j := by
 unfold idx at h
 split at h
 ·rename_i h0
  split at h
  ·rename_i h1
   cases h
   unfold seqIndex?
   simp only [if_neg (show ¬ k < 0 by lia)]
   first | refine v1r (decide_eq_true (by simp only [v0s, decide_eq_true_eq]; lia)) ?_ | rw [if_pos (by simp only [v0s, decide_eq_true_eq]; lia)]
  ·cases h
 ·rename_i h0
  split at h
  ·rename_i h1
   cases h
   exact seqIndex_neg (by lia) h1
  ·cases h
theorem getL {c : Cx} {α : List Addr} {s : Shared} {Q E : Value → Shared → Prop} (O : Ok x c) (S : Sat x c α loc sto s) {i : Nat} {ao : AO} {xs : List AV} {k : Int} {t : Tok} {v : AV} {a : Addr} (hx : sto[i]? = some ao) (he : ao.items = some xs) (ha : α[i]? = some a) (hk : okIx k xs.length) (hv : xs[ix k xs.length]? = some v) (hK : K v sto) (P : E0 x c α loc K Q) :
  wpAny (model pw x.w) c.A (getItem (.ref a) (.int k t)) Q E s := by
 obtain ⟨o, vs, n, h1, h2, h3, h4, h5, h6, h7⟩ := S.list hx he ha
 obtain ⟨u, hu, ru⟩ := h5.at hv
 have hu' : vs[ix k xs.length]? = some u := by rw [← Array.getElem?_toList]; exact hu
 have Pk := P _ _ _ _ u hK .refl S ru
 have hj := hk.get
 have hsz := hk.1
 unfold idx at hj
 split at hj
 ·rename_i h0
  split at hj
  ·have hj := Option.some.inj hj
   rw [← hj] at hu'
   exact wpAny_getItem_list h6 h0 (by unfold sizeLine at hsz; lia) hu' Pk
  ·cases hj
 ·rename_i h0
  split at hj
  ·rename_i h1
   have hj := Option.some.inj hj
   rw [← hj] at hu'
   exact wpAny_getItem_list_neg h6 (by lia) (by rw [h7]; exact h1) (by unfold sizeLine at hsz; lia) (by rw [h7]; exact hu') Pk
  ·cases hj
theorem C0 {β : Type} {l : List β} {j : Nat} {d : β} (h : j < l.length) : l[j]? = some (l.getD j d) := by
 rw [v0J, q9Z h]; rfl
theorem q4v {β γ : Type} {l : List β} {f : β → γ} {j : Nat} {d : β} (h : j < l.length) : (l.map f)[j]? = some (f (l.getD j d)) := by
 rw [v0L, C0 (d := d) h]; rfl
theorem P0 {β γ : Type} {l : List β} {f : β → γ} {P : Nat → Prop} (h : P l.length) : P (l.map f).length := by rw [v0I]; exact h
theorem q1H {k : Int} {ao : AO} (h : getO sto k K ao) : ∃ xs v, ao.items = some xs ∧ okIx k xs.length ∧ xs[ix k xs.length]? = some v ∧ K v sto := by
 refine AO.pick4 h (fun xs e g => ⟨xs, _, by rw [e]; rfl, g.1, C0 g.1.lt, g.2⟩) (fun xs e g => ⟨xs.map .str, _, by rw [e]; rfl, ?_, ?_, g.2⟩) (fun xs e g => ⟨xs.map .int, _, by rw [e]; rfl, ?_, ?_, g.2⟩) (fun xs e g => ⟨xs.map .bytes, _, by rw [e]; rfl, ?_, ?_, g.2⟩) <;> rw [v0I] <;> first | exact g.1 | exact q4v g.1.lt
theorem q1I {a b : AV} (h : q0x a b sto K) : OpS x (op2 getItem) [a, b] loc sto K := by
 intro c α s vs Q E O S r P
 obtain ⟨v, w, rfl, r1, r2⟩ := r.two
 refine AV.pick h (fun _ z => z.elim) no1 no1 (fun l e g => ?_) no1 (fun i e g => ?_) no1 <;> clear h <;> subst e
 ·obtain ⟨k, e, g'⟩ := AV.isI g; clear g; subst e
  obtain ⟨hk, hK⟩ := g'
  obtain ⟨t, rfl⟩ := r1
  obtain ⟨u, rfl⟩ := r2
  have hj := hk.get
  refine PySem.P.getItem_str (c := l.getD (ix k l.length) 0) ?_ ?_ (P _ _ _ _ _ hK .refl (S.toks _) ⟨_, rfl⟩)
  ·have := q3n hj hk.1
   simp only [Bool.or_eq_false_iff, decide_eq_false_iff_not]
   lia
  ·show (seqIndex? k l.toArray.size).bind (fun i => l.toArray[i]?) = some _
   rw [v0p, q0y hj]
   simpa using C0 hk.lt
 ·obtain ⟨k, e, g'⟩ := AV.isI g; clear g; subst e
  obtain ⟨ao, hx, g⟩ := isO g'
  obtain ⟨xs, v, he, hk, hv, hK⟩ := q1H g
  obtain ⟨a, ha, rfl⟩ := r1
  obtain ⟨t, rfl⟩ := r2
  exact getL O S hx he ha hk hv hK P
theorem q3o {c : Cx} {α : List Addr} {s : Shared} {a b : AV} {av : Value} (S : Sat x c α loc sto s) (h : q0x a b sto K) (r : VR α a av) : (s.TypeIs av "list") ∨ (s.TypeIs av "str") := by
 refine AV.pick h (fun _ z => z.elim) no1 no1 (fun l e g => ?_) no1 (fun i e g => ?_) no1 <;> clear h <;> subst e
 ·obtain ⟨t, rfl⟩ := r; exact .inr (typeIs_str _ _ _)
 ·obtain ⟨k, _, g⟩ := AV.isI g
  obtain ⟨ao, hx, g⟩ := isO g
  obtain ⟨xs, v, he, _⟩ := q1H g
  obtain ⟨a, ha, rfl⟩ := r
  obtain ⟨o, vs, n, h1, h2, h3, h4, h5, h6, h7⟩ := S.list hx he ha
  exact .inl h6.typeIs
theorem q6r {e : Expr} (he : G1 e = true) (av bv : Value) : subscripted e false av bv = operate [av, bv] (getItem av bv) := by cases e <;> first | rfl | exact absurd he v0o
theorem q6s {a b : AV} (h : q0x a b sto K) (v e : Expr) (he : G1 e = true) : OpS x (op2 (fun o i => subscriptTail v e o i)) [a, b] loc sto K := by
 intro c α s vs Q E O S r P
 have g := q1I (x := x) (loc := loc) h c α s vs Q E O S r P
 obtain ⟨av, bv, rfl, r1, r2⟩ := r.two
 have hs := q6r he av bv
 rcases q3o S h r1 with T | T
 ·exact tail_any T slot_list_getitem.lookup g hs
 ·exact tail_any T F.slot_str_getitem.lookup g hs
def q0z (sto : Sto) (r : Nat) (k : Int) (v : AV) (K : Sto → Prop) (ao : AO) : Prop := ao.on4 False (fun xs => okIx k xs.length ∧ K (sto.set r (.lst (xs.set (ix k xs.length) v)))) (fun xs => v.onS False fun v => okIx k xs.length ∧ K (sto.set r (.lsS (xs.set (ix k xs.length) v))))
 (fun xs => v.onI False fun v => okIx k xs.length ∧ K (sto.set r (.lsI (xs.set (ix k xs.length) v)))) fun _ => False
def setT (o i v : AV) (sto : Sto) (K : Sto → Prop) : Prop := o.onR False fun r => i.onI False fun k => onO False sto r (q0z sto r k v K)
theorem q6t {r : Nat} {k : Int} {v : AV} {K : Sto → Prop} {ao : AO} (h : q0z sto r k v K ao) : ∃ xs ao', ao.items = some xs ∧ ao'.items = some (xs.set (ix k xs.length) v) ∧ okIx k xs.length ∧ K (sto.set r ao') := by
 refine AO.pick4 h (fun xs e g => ⟨xs, .lst _, by rw [e]; rfl, rfl, g.1, g.2⟩) (fun xs e g => ?_) (fun xs e g => ?_) fun _ _ z => z.elim
 ·obtain ⟨y, rfl, g'⟩ := AV.isS g
  exact ⟨xs.map .str, .lsS (xs.set (ix k xs.length) y), by rw [e]; rfl, (by rw [v0I, ← List.map_set]; rfl), P0 (P := okIx k) g'.1, g'.2⟩
 ·obtain ⟨y, rfl, g'⟩ := AV.isI g
  exact ⟨xs.map .int, .lsI (xs.set (ix k xs.length) y), by rw [e]; rfl, (by rw [v0I, ← List.map_set]; rfl), P0 (P := okIx k) g'.1, g'.2⟩
theorem q3p {r : Nat} {k : Int} {v : AV} {K K' : Sto → Prop} {ao : AO} (m : ∀ s, K s → K' s) (h : q0z sto r k v K ao) : q0z sto r k v K' ao := by
 cases ao with
 | lst xs => exact ⟨h.1, m _ h.2⟩
 | lsS xs => obtain ⟨y, rfl, g⟩ := AV.isS h; exact ⟨g.1, m _ g.2⟩
 | lsI xs => obtain ⟨y, rfl, g⟩ := AV.isI h; exact ⟨g.1, m _ g.2⟩
 | _ => exact False.elim h
theorem setL {c : Cx} {α : List Addr} {s : Shared} {K : Sto → Prop} {Q : Unit → Shared → Prop} {E : Value → Shared → Prop} (O : Ok x c) (S : Sat x c α loc sto s) {i : Nat} {ao ao' : AO} {xs : List AV} {k : Int} {t : Tok} {v : AV} {vv : Value} {a : Addr} (hx : sto[i]? = some ao) (he : ao.items = some xs) (ha : α[i]? = some a) (hk : okIx k xs.length) (r3 : VR α v vv) (he' : ao'.items = some (xs.set (ix k xs.length) v)) (hK : K (sto.set i ao'))
  (P : ∀ sto' s', K sto' → Sat x c α loc sto' s' → Q () s') : wpAny (model pw x.w) c.A (setItem (.ref a) (.int k t) vv) Q E s := by
 obtain ⟨o, vs, n, h1, h2, h3, h4, h5, h6, h7⟩ := S.list hx he ha
 obtain ⟨n', hd'⟩ := Obj.data_mapSeq h4 (·.setIfInBounds (ix k xs.length) vv)
 refine q1l h1 h2 h4 (by rw [h7]; exact hk.get) (by rw [h7]; exact hk.1) (P _ _ hK (S.upd (n := s.toks) ha h1 (ao := ao') (OR.of ⟨(Obj.cls_mapSeq ..).trans h2, ⟨(W0 ..).trans h3.1, (U1 ..).trans h3.2⟩, _, _, hd', ?_⟩ he') (Obj.isFreed_of_seq hd')))
 rw [Array.toList_setIfInBounds]
 exact VRs.set r3 _ _ _ h5
theorem q6u {o i v : AV} {K : Sto → Prop} (h : setT o i v sto K) (c : Cx) (α : List Addr) (s : Shared) (ov iv vv : Value) (Q : Unit → Shared → Prop) (E : Value → Shared → Prop) (O : Ok x c) (S : Sat x c α loc sto s) (r1 : VR α o ov) (r2 : VR α i iv) (r3 : VR α v vv)
  (P : ∀ sto' s', K sto' → Sat x c α loc sto' s' → Q () s') : wpAny (model pw x.w) c.A (setItem ov iv vv) Q E s := by
 obtain ⟨r, e, h1⟩ := AV.isR h; clear h; subst e
 obtain ⟨k, e, h2⟩ := AV.isI h1; clear h1; subst e
 obtain ⟨ao, hx, h⟩ := isO h2
 obtain ⟨xs, ao', he, he', hk, hK⟩ := q6t h
 obtain ⟨a, ha, rfl⟩ := r1
 obtain ⟨t, rfl⟩ := r2
 exact setL O S hx he ha hk r3 he' hK P
theorem q3q {o i v : AV} {K K' : Sto → Prop} (k : ∀ s, K s → K' s) (h : setT o i v sto K) : setT o i v sto K' := by
 obtain ⟨r, rfl, h1⟩ := AV.isR h
 obtain ⟨j, rfl, h2⟩ := AV.isI h1
 obtain ⟨ao, hx, h3⟩ := isO h2
 have := q3p k h3
 show onO False sto r (q0z sto r j v K')
 unfold onO
 rw [hx]; exact this
end
noncomputable def gtab : List (Str × Value) := [(S "_max_append", .ref 73), (S "unquote", .ref 80), (S "header_encode", .ref 88), (S "_unquote_match", .ref 100), (S "header_decode", .ref 107), (S "_QUOPRI_HEADER_MAP", .ref 57), (S "twin_re_1_quoprimime", .ref 49),
 (S "_find_unsafe", .ref 815), (S "quote", .ref 822), (S "join_shlex", .ref 814), (S "split", .ref 807), (S "sorted_list_difference", .ref 829), (S "three_way_cmp", .ref 836), (S "_law_group", .ref 841), (S "_law_piece", .ref 848), (S "_law_narrow", .ref 855),
 (S "_law_packed", .ref 862), (S "_law_line", .ref 867), (S "_law_back", .ref 872), (S "_law_room", .ref 879), (S "_law_counts", .ref 886), (S "_law_fewer", .ref 891),
 (S "_index", .ref 126), (S "StringIO", .ref 660), (S "BytesIO", .ref 413), (S "shlex", .ref 795), (S "deque", .type "collections.deque")]
noncomputable def btab : List (Str × Value) := [(S "isinstance", .builtin "isinstance"), (S "chr", .builtin "chr"), (S "len", .builtin "len"), (S "sum", .builtin "sum"), (S "max", .builtin "max"), (S "min", .builtin "min"),
 (S "str", .type "str"), (S "int", .type "int"), (S "bytes", .type "bytes"), (S "list", .type "list"), (S "range", .type "range"), (S "type", .type "type"), (S "object", .type "object"), (S "StopIteration", .type "StopIteration"), (S "IndexError", .type "IndexError")]
theorem W8 {β : Type} : ∀ {l : List (Str × β)} {x : Str} {v : β}, lk l x = some v → (x, v) ∈ l
 | p :: r, x, v, h => by
  rw [lk] at h
  split at h
  ·rename_i q
   cases h
   rw [Fast.sEq_iff.mp q]; exact v0x
  ·exact v0y _ (W8 h)
theorem a0 {β : Type} {f : β → Prop} : ∀ {l : List β}, (l.foldr (fun p r => f p ∧ r) True) → ∀ p ∈ l, f p
 | [], _, _, h => nomatch h
 | _ :: _, ⟨a, b⟩, p, h => by
  rcases v0F.mp h with rfl | h
  ·exact a
  ·exact a0 b p h
theorem gt_ok (P : Params) : ∀ p ∈ gtab, nsIn (KK P) mainGlobals p.1 = some (some p.2) := by
 refine a0 ?_
 refine ⟨?_, ?_, ?_, ?_, ?_, ?_, ?_, ?_, ?_, ?_, ?_, ?_, ?_, ?_, ?_, ?_, ?_, ?_, ?_, ?_, ?_, ?_, ?_, ?_, ?_, ?_, ?_, trivial⟩ <;> rfl'
theorem bt_ok (P : Params) : ∀ p ∈ btab, nsIn (KK P) mainGlobals p.1 = some none ∧ bootBuiltins p.1 = some p.2 ∧ p.1 ≠ "__name__" := by
 refine a0 ?_
 refine ⟨?_, ?_, ?_, ?_, ?_, ?_, ?_, ?_, ?_, ?_, ?_, ?_, ?_, ?_, ?_, trivial⟩ <;> exact ⟨by rfl', by rfl', by intro h; have := Fast.sEq_iff.mpr h; revert this; exact of_decide_eq_true (by rfl')⟩
noncomputable def m7 (y : Str) : Option Value := match lk gtab y with
 | some v => some v
 | none => lk btab y
theorem i9 {P : Params} {y : Str} {v : Value} (h : m7 y = some v) : nsIn (KK P) mainGlobals y = some (some v) ∨ (nsIn (KK P) mainGlobals y = some none ∧ bootBuiltins y = some v ∧ y ≠ "__name__") := by
 unfold m7 at h
 split at h
 ·rename_i e; cases h; exact .inl (gt_ok P _ (W8 e))
 ·exact .inr (bt_ok P _ (W8 h))
noncomputable def G6 (l : List Nat) : List Nat := (Txt.lstrip ⟨l.toArray⟩).cps.toList
section
variable {x : SX} {loc : Loc} {sto : Sto} {K : AV → Sto → Prop}
noncomputable def sel {β : Type} (b : Bool) (p q : β) : β := Bool.casesOn b q p
theorem E9 {β : Type} {b : Bool} {p q v : β} (h : sel b p q = v) : (b = true ∧ p = v) ∨ q = v := by cases b; exact .inr h; exact .inl ⟨rfl, h⟩
theorem G4 {id k : String} {β : Type} {p q v : β} (h : sel (decide (id = k)) p q = v) : (id = k ∧ p = v) ∨ q = v := (E9 h).imp_left fun h => ⟨of_decide_eq_true h.1, h.2⟩
theorem N9 {id k : String} {P Q : Prop} (h : cnd (decide (id = k)) P Q) : (id = k ∧ P) ∨ Q := by
 cases e : decide (id = k) with
 | true => rw [e] at h; exact .inl ⟨of_decide_eq_true e, h⟩
 | false => rw [e] at h; exact .inr h
noncomputable def U3 {P : Type} (d : P) (as : List AV) (f : AV → P) : P := List.casesOn as d fun a r => List.casesOn r (f a) fun _ _ => d
noncomputable def W1 {P : Type} (d : P) (as : List AV) (f : AV → AV → P) : P := List.casesOn as d fun a r => List.casesOn r d fun b r => List.casesOn r (f a b) fun _ _ => d
theorem q1J {P : Type} {d : P} {as : List AV} {f : AV → P} : U3 d as f = d ∨ ∃ a, as = [a] := by
 match as with
 | [] => exact .inl rfl
 | [a] => exact .inr ⟨a, rfl⟩
 | _ :: _ :: _ => exact .inl rfl
theorem q1K {P : Type} {d : P} {as : List AV} {f : AV → AV → P} : W1 d as f = d ∨ ∃ a b, as = [a, b] := by
 match as with
 | [] => exact .inl rfl
 | [_] => exact .inl rfl
 | [a, b] => exact .inr ⟨a, b, rfl⟩
 | _ :: _ :: _ :: _ => exact .inl rfl
theorem is1 {as : List AV} {f : AV → Prop} (h : U3 False as f) : ∃ a, as = [a] ∧ f a := by rcases q1J (d := False) (as := as) (f := f) with e | ⟨a, rfl⟩; exact (e ▸ h).elim; exact ⟨a, rfl, h⟩
theorem is2 {as : List AV} {f : AV → AV → Prop} (h : W1 False as f) : ∃ a b, as = [a, b] ∧ f a b := by rcases q1K (d := False) (as := as) (f := f) with e | ⟨a, b, rfl⟩; exact (e ▸ h).elim; exact ⟨a, b, rfl, h⟩
noncomputable def onV {P : Type} (d : P) (f : Value) (r : Addr → P) (t : String → P) (b : String → P) : P := match f with
 | .ref a => r a
 | .type T => t T
 | .builtin id => b id
 | _ => d
theorem M8 {P : Type} {d v : P} {f : Value} {r : Addr → P} {t b : String → P} (h : onV d f r t b = v) {G : Prop} (kd : d = v → G) (kr : ∀ a, f = .ref a → r a = v → G) (kt : ∀ T, f = .type T → t T = v → G) (kb : ∀ T, f = .builtin T → b T = v → G) : G := by
 unfold onV at h
 split at h
 ·exact kr _ rfl h
 ·exact kt _ rfl h
 ·exact kb _ rfl h
 ·exact kd h
theorem q3r {d : Prop} {f : Value} {r : Addr → Prop} {t b : String → Prop} (h : onV d f r t b) {G : Prop} (kd : d → G) (kr : ∀ a, f = .ref a → r a → G) (kt : ∀ T, f = .type T → t T → G) (kb : ∀ T, f = .builtin T → b T → G) : G := by
 unfold onV at h
 split at h
 ·exact kr _ rfl h
 ·exact kt _ rfl h
 ·exact kb _ rfl h
 ·exact kd h
theorem onV_p {f : Value} {r : Addr → Prop} {t b : String → Prop} (h : onV False f r t b) {G : Prop} : (∀ a, f = .ref a → r a → G) → (∀ T, f = .type T → t T → G) → (∀ T, f = .builtin T → b T → G) → G := q3r h False.elim
noncomputable def U4 {P : Type} (d : P) (kws : List (Str × AV)) (p : P) : P := List.casesOn kws p fun _ _ => d
theorem q6v {P : Type} {d p v : P} {kws : List (Str × AV)} (h : U4 d kws p = v) : d = v ∨ (kws = [] ∧ p = v) := by cases kws; exact .inr ⟨rfl, h⟩; exact .inl h
theorem q3s {p : Prop} {kws : List (Str × AV)} (h : U4 False kws p) : kws = [] ∧ p := by cases kws; exact ⟨rfl, h⟩; exact False.elim h
noncomputable def midT (a : AV) (sto : Sto) (n : Str) : Option Value := AV.casesOn a none (fun _ => none) (fun _ => none) (fun _ => sel (Fast.sEq n (S "lstrip")) (some (.builtin "str.lstrip")) none) (fun _ => none)
 (fun i => onO none sto i fun ao => ao.onL none fun _ => sel (Fast.sEq n (S "append")) (some (.builtin "list.append")) none) fun _ => none
theorem B0 (x : SX) (id : String) : B7 x (.builtin id) := fun h _ => ⟨.machine, .inr (.inl rfl), .of_pure rfl⟩
theorem M9 (x : SX) (id : String) : B7 x (.type id) := fun h _ => ⟨.machine, .inr (.inl rfl), .of_pure rfl⟩
def q5y (x : SX) (a : AV) (sto : Sto) (n : Str) (f : Value) : Prop := B7 x f ∧ ∀ c α loc s av pl (Q : Value × List Value → Shared → Prop) E, Ok x c → Sat x c α loc sto s → VR α a av → Q (f, [av]) s → wpAny (model pw x.w) c.A (getMethod av n pl) Q E s
theorem AV.pickO {a : AV} {P : Type} {v n : P} {fb : Bool → P} {fi : Int → P} {fs : List Nat → P} {fy : List UInt8 → P} {fr : Nat → P} {fe : Value → P} (h : AV.casesOn (motive := fun _ => P) a n fb fi fs fy fr fe = v) {G : Prop} (kn : a = .none → n = v → G) (kb : ∀ p, a = .bool p → fb p = v → G) (ki : ∀ p, a = .int p → fi p = v → G)
  (ks : ∀ p, a = .str p → fs p = v → G) (ky : ∀ p, a = .bytes p → fy p = v → G) (kr : ∀ p, a = .ref p → fr p = v → G) (ke : ∀ p, a = .ext p → fe p = v → G) : G := by
 cases a with
 | none => exact kn rfl h
 | bool p => exact kb p rfl h
 | int p => exact ki p rfl h
 | str p => exact ks p rfl h
 | bytes p => exact ky p rfl h
 | ref p => exact kr p rfl h
 | ext p => exact ke p rfl h
theorem noO {β : Type} {v : β} {G : Prop} (h : none = some v) : G := by cases h
theorem B4 {β : Sort _} {γ : Type} {v : γ} {P : β → Prop} {G : Prop} : ∀ p, P p → none = some v → G := fun _ _ h => noO h
section
variable {β : Type} {v : β} {b : AV}
theorem AV.jI {f : Int → Option β} (h : b.onI Option.none f = some v) : ∃ i, b = .int i ∧ f i = some v := by cases b <;> first | exact ⟨_, rfl, h⟩ | exact noO h
theorem AV.jS {f : List Nat → Option β} (h : b.onS Option.none f = some v) : ∃ i, b = .str i ∧ f i = some v := by cases b <;> first | exact ⟨_, rfl, h⟩ | exact noO h
theorem AV.jR {f : Nat → Option β} (h : b.onR Option.none f = some v) : ∃ i, b = .ref i ∧ f i = some v := by cases b <;> first | exact ⟨_, rfl, h⟩ | exact noO h
theorem AV.jE {f : Value → Option β} (h : AV.onE Option.none b f = some v) : ∃ i, b = .ext i ∧ f i = some v := by cases b <;> first | exact ⟨_, rfl, h⟩ | exact noO h
theorem jO {i : Nat} {f : AO → Option β} (h : onO none sto i f = some v) : ∃ ao, sto[i]? = some ao ∧ f ao = some v := by
 rcases q3i (d := none) (sto := sto) (i := i) (f := f) with e | ⟨ao, hx, e⟩
 ·exact noO (e.symm.trans h)
 ·exact ⟨ao, hx, e.symm.trans h⟩
theorem AO.jL {a : AO} {f : Nat → Option β} (h : a.onL none f = some v) : ∃ n, a.len = some n ∧ f n = some v := by
 unfold AO.onL at h
 cases e : a.len with
 | none => rw [e] at h; exact noO h
 | some n => rw [e] at h; exact ⟨n, rfl, h⟩
theorem j1 {as : List AV} {f : AV → Option β} (h : U3 none as f = some v) : ∃ a, as = [a] ∧ f a = some v := by rcases q1J (d := none) (as := as) (f := f) with e | ⟨a, rfl⟩; exact noO (e.symm.trans h); exact ⟨a, rfl, h⟩
theorem j2 {as : List AV} {f : AV → AV → Option β} (h : W1 none as f = some v) : ∃ a b, as = [a, b] ∧ f a b = some v := by rcases q1K (d := none) (as := as) (f := f) with e | ⟨a, b, rfl⟩; exact noO (e.symm.trans h); exact ⟨a, b, rfl, h⟩
theorem jK {p : Option β} {kws : List (Str × AV)} (h : U4 none kws p = some v) : kws = [] ∧ p = some v := by rcases q6v h with e | e; exact noO e; exact e
theorem jB {f : Value} {g : String → Option β} (h : onV none f (fun _ => none) (fun _ => none) g = some v) : ∃ id, f = .builtin id ∧ g id = some v := M8 h noO B4 B4 fun id e k => ⟨id, e, k⟩
end
theorem C6 {X P : Prop} (h : some X = some P) (hP : P) : X := (Option.some.inj h).mpr hP
section
variable {β : Type} {v : β} {f : Value} {as : List AV}
theorem jT {g : String → Option β} (h : onV none f (fun _ => none) g (fun _ => none) = some v) : ∃ id, f = .type id ∧ g id = some v := M8 h noO B4 (fun id e k => ⟨id, e, k⟩) B4
theorem jV {g : Addr → Option β} (h : onV none f g (fun _ => none) (fun _ => none) = some v) : ∃ id, f = .ref id ∧ g id = some v := M8 h noO (fun id e k => ⟨id, e, k⟩) B4 B4
noncomputable def hd1 (as : List AV) (f : AV → List AV → Option β) : Option β := List.casesOn as none f
theorem jH {g : AV → List AV → Option β} (h : hd1 as g = some v) : ∃ a r, as = a :: r ∧ g a r = some v := by
 cases as with
 | nil => exact noO h
 | cons a r => exact ⟨a, r, rfl, h⟩
noncomputable def isNo (b : AV) (p : Option β) : Option β := AV.casesOn b p (fun _ => none) (fun _ => none) (fun _ => none) (fun _ => none) (fun _ => none) fun _ => none
theorem jN {b : AV} {p : Option β} (h : isNo b p = some v) : b = .none ∧ p = some v := by cases b <;> first | exact ⟨rfl, h⟩ | exact noO h
end
theorem q6w {a : AV} {n : Str} {f : Value} (h : midT a sto n = some f) : q5y x a sto n f := by
 refine AV.pickO h (fun _ => noO) B4 B4 (fun l e g => ?_) B4 (fun i e g => ?_) B4 <;> clear h <;> subst e
 ·rcases E9 g with ⟨q, e⟩ | e
  ·cases e
   refine ⟨B0 x _, fun c α loc s av pl Q E O S r hQ => ?_⟩
   obtain ⟨t, rfl⟩ := r
   rw [Fast.sEq_iff.mp q]
   exact GM.lstrip hQ
  ·exact noO e
 ·obtain ⟨ao, hx, g⟩ := jO g
  obtain ⟨m, hn, g⟩ := AO.jL g
  rcases E9 g with ⟨q, e⟩ | e
  ·cases e
   obtain ⟨xs, he, hl⟩ := AO.len_items hn
   refine ⟨B0 x _, fun c α loc s av pl Q E O S r hQ => ?_⟩
   obtain ⟨a, ha, rfl⟩ := r
   obtain ⟨o, vs, n, h1, h2, h3, h4, h5, h6, h7⟩ := S.list hx he ha
   rw [Fast.sEq_iff.mp q]
   exact getMethod_list_append h1 h2 h3.1 hQ
  ·exact noO e
theorem Sat.conv {c : Cx} {α : List Addr} {s : Shared} (S : Sat x c α loc sto s) {i : Nat} {ao ao' : AO} (h : sto[i]? = some ao) (f : ∀ ob, OR α ao ob → OR α ao' ob) : Sat x c α loc (sto.set i ao') s := by
 refine ⟨S.fr, ⟨by simp [S.hs.len], S.hs.nd, fun j ob e => ?_⟩, S.off, S.os, S.gens, S.cel⟩
 by_cases hij : i = j
 ·subst hij
  rw [v0j (q9W.mp h).1] at e; cases e
  obtain ⟨a, ob, h1, h2, h3⟩ := S.hs.cell i _ h
  exact ⟨a, ob, h1, h2, f _ h3⟩
 ·rw [v0l hij] at e
  exact S.hs.cell j ob e
theorem q2n {c : Cx} {α : List Addr} {s : Shared} {E : Value → Shared → Prop} {Q : Value → Shared → Prop} {i : Nat} {l : Addr} {ao ao' : AO} {xs : List AV} {a : AV} {v : Value} (S : Sat x c α loc sto s) (hi : sto[i]? = some ao) (he : ao.items = some xs) (he' : ao'.items = some (xs ++ [a])) (hl : α[i]? = some l) (r : VR α a v) (hsz : xs.length ≤ sizeLine)
  (P : ∀ s', Sat x c α loc (sto.set i ao') s' → Q .none s') : wpAny (model pw x.w) c.A (call (.builtin "list.append") [.ref l, v]) Q E s := by
 have hlt := (q9W.mp hi).1
 have S₁ := S.conv (ao' := .lst xs) hi fun ob h => h.rep he
 refine m5 S₁ (v0j hlt) hl r hsz fun s' S' _ _ => P s' ?_
 have S₂ := S'.conv (i := i) (ao := .lst (xs ++ [a])) (ao' := ao') (by rw [v0j (by simpa using hlt)]) fun ob h => OR.of (x := ao') h he'
 simpa [List.set_set] using S₂
def appO (sto : Sto) (i : Nat) (v : AV) (K : AV → Sto → Prop) (ao : AO) : Prop := ao.on4 False (fun xs => xs.length ≤ sizeLine ∧ K .none (sto.set i (.lst (xs ++ [v])))) (fun xs => v.onS False fun v => xs.length ≤ sizeLine ∧ K .none (sto.set i (.lsS (xs ++ [v]))))
 (fun xs => v.onI False fun v => xs.length ≤ sizeLine ∧ K .none (sto.set i (.lsI (xs ++ [v])))) fun _ => False
def appT (i : Nat) (v : AV) (sto : Sto) (K : AV → Sto → Prop) : Prop := onO False sto i (appO sto i v K)
theorem q6x {i : Nat} {v : AV} {ao : AO} (h : appO sto i v K ao) : ∃ xs ao', ao.items = some xs ∧ ao'.items = some (xs ++ [v]) ∧ xs.length ≤ sizeLine ∧ K .none (sto.set i ao') := by
 refine AO.pick4 h (fun xs e g => ⟨xs, .lst _, by rw [e]; rfl, rfl, g.1, g.2⟩) (fun xs e g => ?_) (fun xs e g => ?_) fun _ _ z => z.elim
 ·obtain ⟨y, rfl, g'⟩ := AV.isS g
  exact ⟨xs.map .str, .lsS (xs ++ [y]), by rw [e]; rfl, congrArg some (by rw [v0M]; rfl), P0 (P := (· ≤ sizeLine)) g'.1, g'.2⟩
 ·obtain ⟨y, rfl, g'⟩ := AV.isI g
  exact ⟨xs.map .int, .lsI (xs ++ [y]), by rw [e]; rfl, congrArg some (by rw [v0M]; rfl), P0 (P := (· ≤ sizeLine)) g'.1, g'.2⟩
theorem q6y {c : Cx} {α : List Addr} {s : Shared} {E : Value → Shared → Prop} {Q : Value → Shared → Prop} {i : Nat} {v : AV} {l : Addr} {val : Value} (S : Sat x c α loc sto s) (h : appT i v sto K) (hl : α[i]? = some l) (r : VR α v val) (P : E0 x c α loc K Q) : wpAny (model pw x.w) c.A (call (.builtin "list.append") [.ref l, val]) Q E s := by
 obtain ⟨ao, hx, h⟩ := isO h
 obtain ⟨xs, ao', he, he', hz, hK⟩ := q6x h
 exact q2n S hx he he' hl r hz fun s' S' => P _ _ _ _ _ hK .refl S' rfl
abbrev DT := Addr → List AV → Sto → (AV → Sto → Prop) → Prop
def rngC (as : List AV) (sto : Sto) (K : AV → Sto → Prop) : Prop := List.casesOn as False fun a r => List.casesOn r (a.onI False fun n => K (.ref sto.length) (sto ++ [.rng 0 n 1])) fun b r => List.casesOn r (a.onI False fun m => b.onI False fun n => K (.ref sto.length) (sto ++ [.rng m n 1])) fun _ _ => False
def lenC (a : AV) (sto : Sto) (K : AV → Sto → Prop) : Prop := AV.casesOn a False (fun _ => False) (fun _ => False) (fun l => l.length ≤ sizeLine ∧ K (.int l.length) sto) (fun _ => False) (fun i => onO False sto i fun ao => ao.onL False fun n => n ≤ sizeLine ∧ K (.int n) sto) fun _ => False
def tyOf (v : Value) (f : String → Prop) : Prop := match v with
 | .type T => f T
 | _ => False
theorem q6z {v : Value} {f : String → Prop} (h : tyOf v f) : ∃ T, v = .type T ∧ f T := by unfold tyOf at h; split at h; exact ⟨_, rfl, h⟩; exact h.elim
def q3t (id : String) (as : List AV) (sto : Sto) (K : AV → Sto → Prop) : Prop := cnd (decide (id = "list.append")) (W1 False as fun a v => a.onR False fun i => appT i v sto K)
 (cnd (decide (id = "len")) (U3 False as fun a => lenC a sto K)
 (cnd (decide (id = "chr")) (U3 False as fun a => a.onI False fun i => 0 ≤ i ∧ i ≤ 1114111 ∧ K (.str [i.toNat]) sto)
 (cnd (decide (id = "isinstance")) (W1 False as fun a b => a.onS False fun _ => AV.onE False b fun v => tyOf v fun T => T = "str" ∧ K (.bool true) sto)
 (cnd (decide (id = "str.lstrip")) (U3 False as fun a => a.onS False fun l => l.length ≤ sizeLine ∧ K (.str (G6 l)) sto) False))))
def R7 (D : DT) (f : Value) (as : List AV) (kws : List (Str × AV)) (sto : Sto) (K : AV → Sto → Prop) : Prop :=
 U4 False kws (onV False f (fun a => D a as sto K) (fun T => cnd (decide (T = "range")) (rngC as sto K) False) fun id => q3t id as sto K)
structure DOk (x : SX) (D : DT) : Prop where
 fn : ∀ f as loc sto K, D f as sto K → CallS x (.ref f) as [] loc sto K
 keep : ∀ f as sto K, D f as sto K → B7 x (.ref f)
theorem q8j {as : List AV} (h : rngC as sto K) : CallS x (.type "range") as [] loc sto K := by
 intro c α s vs ks Q E O S r rk P
 obtain rfl := rk.nil
 have last : ∀ {D : Addr}, (α ++ [D])[sto.length]? = some D := fun {D} => by rw [← S.hs.len, v0d (v0h _), v0q]; rfl
 cases as with
 | nil => exact False.elim h
 | cons a as =>
  obtain ⟨v, us, rfl, r1, r2⟩ := r.cons
  clear r
  cases as with
  | nil =>
   obtain rfl := r2.nil
   obtain ⟨n, rfl, g⟩ := AV.isI h
   obtain ⟨t, rfl⟩ := r1
   exact call_range_1 (P _ _ _ _ _ g .push (S.push (n := s.toks + 1 + 1) (ao := .rng 0 _ 1) ⟨_, _, _, rfl⟩ rfl) ⟨_, last, rfl⟩)
  | cons b as =>
   cases as with
   | cons _ _ => exact False.elim h
   | nil =>
    obtain ⟨w, rfl, r3⟩ := r2.one
    obtain ⟨m, rfl, g⟩ := AV.isI h
    clear h
    obtain ⟨n, rfl, k⟩ := AV.isI g
    obtain ⟨t, rfl⟩ := r1
    obtain ⟨u, rfl⟩ := r3
    exact call_range_2 (P _ _ _ _ _ k .push (S.push (n := s.toks + 1) (ao := .rng _ _ 1) ⟨_, _, _, rfl⟩ rfl) ⟨_, last, rfl⟩)
theorem q8k {a : AV} (h : lenC a sto K) : CallS x (.builtin "len") [a] [] loc sto K := by
 intro c α s vs ks Q E O S r rk P
 obtain rfl := rk.nil
 obtain ⟨v, rfl, r1⟩ := r.one
 clear r
 refine AV.pick h (fun _ z => z.elim) no1 no1 (fun l e g => ?_) no1 (fun i e g => ?_) no1 <;> clear h <;> subst e
 ·obtain ⟨t, rfl⟩ := r1
  exact PySem.P.len_str (Int.not_le.mpr (by rw [show (⟨l.toArray⟩ : Str).length = l.length from v0p ..]; exact m6 g.1)) (P _ _ _ _ _ g.2 .refl (S.toks _) ⟨_, rfl⟩)
 ·obtain ⟨ao, hx, h⟩ := isO g
  obtain ⟨n, hn, h⟩ := AO.isL h
  obtain ⟨xs, he, hl⟩ := AO.len_items hn
  obtain ⟨a, ha, rfl⟩ := r1
  obtain ⟨o, vs, n, h1, h2, h3, h4, h5, h6, h7⟩ := S.list hx he ha
  refine call_len_list h6 (by rw [h7, hl]; exact m6 h.1) ?_
  rw [h7, hl]
  exact P _ _ _ _ _ h.2 .refl (S.toks _) ⟨_, rfl⟩
theorem q3u {id : String} {as : List AV} (h : q3t id as sto K) : CallS x (.builtin id) as [] loc sto K := by
 rcases N9 h with ⟨rfl, g⟩ | g <;> clear h
 ·obtain ⟨a, v, rfl, g⟩ := is2 g
  obtain ⟨i, rfl, g⟩ := AV.isR g
  intro c α s vs ks Q E O S r rk P
  obtain rfl := rk.nil
  obtain ⟨v, w, rfl, ⟨a, ha, rfl⟩, r2⟩ := r.two
  exact q6y S g ha r2 P
 rcases N9 g with ⟨rfl, h⟩ | h <;> clear g
 ·obtain ⟨a, rfl, g⟩ := is1 h
  exact q8k g
 rcases N9 h with ⟨rfl, g⟩ | g <;> clear h
 ·obtain ⟨a, rfl, g⟩ := is1 g
  obtain ⟨i, rfl, g⟩ := AV.isI g
  intro c α s vs ks Q E O S r rk P
  obtain rfl := rk.nil
  obtain ⟨v, rfl, t, rfl⟩ := r.one
  exact chr_of_range g.1 g.2.1 (P _ _ _ _ _ g.2.2 .refl (S.toks _) ⟨_, rfl⟩)
 rcases N9 g with ⟨rfl, h⟩ | h <;> clear g
 ·obtain ⟨a, b, rfl, h1⟩ := is2 h
  clear h
  obtain ⟨l, rfl, h2⟩ := AV.isS h1
  clear h1
  obtain ⟨v, rfl, h3⟩ := AV.isE h2
  clear h2
  obtain ⟨T, rfl, rfl, h⟩ := q6z h3
  clear h3
  intro c α s vs ks Q E O S r rk P
  obtain rfl := rk.nil
  obtain ⟨v, w, rfl, ⟨t, rfl⟩, rfl⟩ := r.two
  exact IsiPair.str_str (P _ _ _ _ _ h .refl S rfl)
 rcases N9 h with ⟨rfl, g⟩ | g <;> clear h
 ·obtain ⟨a, rfl, g⟩ := is1 g
  obtain ⟨l, rfl, g⟩ := AV.isS g
  intro c α s vs ks Q E O S r rk P
  obtain rfl := rk.nil
  obtain ⟨v, rfl, t, rfl⟩ := r.one
  exact SC.lstrip (fun t' k => P _ _ _ _ _ g.2 .refl (S.toks _) ⟨t', by simp [G6]⟩) g.1
 ·exact g.elim
theorem H4 {D : DT} (DO : DOk x D) {f : Value} {as : List AV} {kws : List (Str × AV)} (h : R7 D f as kws sto K) : B7 x f ∧ CallS x f as kws loc sto K := by
 obtain ⟨rfl, h⟩ := q3s h
 refine onV_p h (fun a e g => ?_) (fun T e g => ?_) (fun id e g => ?_) <;> subst e
 ·exact ⟨DO.keep _ _ _ _ g, DO.fn _ _ _ _ _ g⟩
 ·rcases N9 g with ⟨rfl, g⟩ | g
  ·exact ⟨M9 x _, q8j g⟩
  ·exact g.elim
 ·exact ⟨B0 x _, q3u g⟩
def unaU (o : UnaryOp) (P : Prop) : Prop := match o with
 | .USub => P
 | _ => False
def unaT (o : UnaryOp) (a : AV) (sto : Sto) (K : AV → Sto → Prop) : Prop := unaU o (a.onI False fun i => K (.int (-i)) sto)
theorem q6A {o : UnaryOp} {a : AV} (h : unaT o a sto K) : OpS x (op1 (unaryOp o)) [a] loc sto K := by
 have h : o = .USub ∧ a.onI False fun i => K (.int (-i)) sto := by cases o <;> first | exact ⟨rfl, h⟩ | exact False.elim h
 obtain ⟨rfl, h⟩ := h
 obtain ⟨i, rfl, h⟩ := AV.isI h
 intro c α s vs Q E O S r P
 obtain ⟨v, rfl, t, rfl⟩ := VRs.one r
 exact PySem.P.neg_int (P _ _ _ _ _ h .refl (S.toks _) ⟨_, rfl⟩)
noncomputable def B6 (D : DT) : Tab := { bin := binT, aug := augT, cmp := p9, una := unaT, tru := r6, sub := q0x, get := q0x, cut := fun _ _ _ _ _ => False, call := R7 D, mid := midT, set := setT, glob := m7, att := fun _ _ _ _ => False, seta := fun _ _ _ _ _ => False }
theorem D6 {D : DT} (DO : DOk x D) : D8 x (B6 D) where
 bin := fun o a b loc sto K h => q1G h
 aug := fun o a b loc sto K h => q6j h
 cmp := fun o a b loc sto K h => q6p h
 una := fun o a loc sto K h => q6A h
 tru := fun a loc sto K h => q6q h
 sub := fun a b loc sto K h v e he => q6s h v e he
 get := fun a b loc sto K h => q1I h
 cut := fun _ _ _ _ _ _ h => h.elim
 call := fun f as kws loc sto K h => H4 DO h
 mid := fun a sto n f h => q6w h
 set := fun o i v loc sto K h => q6u h
 setm := fun o i v sto K K' k h => q3q k h
 glob := fun y v h => i9 h
 att := fun _ _ _ _ _ h => h.elim
 seta := fun _ _ _ _ _ _ h => h.elim
 setam := fun _ _ _ _ _ _ _ h => h
end
noncomputable def C8 : List Nat → Sto → Sto → Sto
 | j :: js, o :: os, sto => C8 js os (sto.set j o)
 | _, _, sto => sto
theorem G5 : ∀ (js : List Nat) (os sto : Sto), (C8 js os sto).length = sto.length
 | [], _, _ => by simp [C8]
 | _ :: _, [], _ => by simp [C8]
 | j :: js, o :: os, sto => by rw [C8, G5 js os]; simp
theorem a3 : ∀ (js : List Nat) (os sto : Sto) (i : Nat), i ∉ js → (C8 js os sto)[i]? = sto[i]?
 | [], _, _, _, _ => by simp [C8]
 | _ :: _, [], _, _, _ => by simp [C8]
 | j :: js, o :: os, sto, i, h => by
  rw [C8, a3 js os _ i fun q => h (v0y _ q)]
  exact v0l fun q => h (by subst q; exact v0x)
theorem w5 : ∀ (js : List Nat) (os sto : Sto) (k i : Nat), js.Nodup → js.length = os.length → i < sto.length → js[k]? = some i → (C8 js os sto)[i]? = os[k]?
 | j :: js, o :: os, sto, k, i, hn, hl, hi, h => by
  rw [List.nodup_cons] at hn
  rw [C8]
  cases k with
  | zero =>
   cases h
   rw [a3 _ _ _ _ hn.1, v0j hi]; rfl
  | succ k =>
   rw [w5 js os _ k i hn.2 (by simpa using hl) (by simpa using hi) (by simpa using h)]; simp
 | [], _, _, _, _, _, _, _, h => by simp at h
 | _ :: _, [], _, _, _, _, hl, _, _ => by simp at hl
noncomputable def ren (js : List Nat) : AV → AV
 | .ref i => .ref (js.getD i 0)
 | v => v
theorem VR.flat {α β : List Addr} {a : AV} {v : Value} (h : VR α a v) (l : a.Lt 0) : VR β a v := by
 cases a <;> first | exact h | exact absurd l (Nat.not_lt_zero _)
theorem OR.flat {α β : List Addr} {a : AO} {o : Obj} (h : OR α a o) (l : a.Lt 0) : OR β a o := by
 have h1 : OR [] a o := OR.cut (α := []) (β := α) (by simpa using h) l
 simpa using OR.mono (α := []) (β := β) h1
section
variable {x : SX} {loc : Loc} {sto : Sto} {K : AV → Sto → Prop}
noncomputable def I2 (x : SX) : SX := { w := x.w, fr := x.fr, d := x.d, scope := x.scope, cm := [] }
def FlJ (js : List Nat) (o : AO) : Prop := o.Lt 0 ∨ (o = .jtab ∧ js[0]? = some 0)
noncomputable def AO.flB (o : AO) : Bool := AO.casesOn o (fun _ => o.ltB 0) (fun _ => o.ltB 0) (fun _ => o.ltB 0) (fun _ => true) (fun _ _ _ => true) (fun _ => true) (fun _ => true) (fun _ => true) (fun _ _ => false) (fun _ => o.ltB 0) true
theorem AO.fl_of {js : List Nat} {o : AO} (hj : js[0]? = some 0) (h : o.flB = true) : FlJ js o := by
 cases o with
 | jtab => exact .inr ⟨rfl, hj⟩
 | inst _ _ => exact absurd h v0o
 | raw _ => exact .inl trivial
 | rng _ _ _ => exact .inl trivial
 | lsS _ => exact .inl trivial
 | lsI _ => exact .inl trivial
 | lsB _ => exact .inl trivial
 | _ => exact .inl (AO.lt_of h)
theorem flJ {js : List Nat} {s : Sto} (hj : js[0]? = some 0) (h : s.all AO.flB = true) : ∀ o ∈ s, FlJ js o := fun o ho => AO.fl_of hj (v0w.mp h o ho)
theorem OR.flj {α β : List Addr} {js : List Nat} {a : AO} {o : Obj} (h : OR α a o) (l : FlJ js a) (e : js[0]? = some 0 → α[0]? = β[0]?) : OR β a o := by
 rcases l with l | ⟨rfl, l⟩
 ·exact h.flat l
 ·exact ⟨by rw [← e l]; exact h.1, h.2⟩
theorem CallS.liftJ {f : Value} {as₀ as : List AV} {sto₀ : Sto} {K₀ : AV → Sto → Prop} (js : List Nat) (h : ∀ loc₀, CallS (I2 x) f as₀ [] loc₀ sto₀ K₀) (hlen : js.length = sto₀.length) (hjs : js.Nodup) (hat : ∀ (i j : Nat), js[i]? = some j → sto[j]? = sto₀[i]?) (flat : ∀ o ∈ sto₀, FlJ js o) (hlt : ∀ a ∈ as₀, a.Lt js.length) (hren : as = as₀.map (ren js))
  (hK : ∀ v s₁, K₀ v s₁ → ∃ s₂ junk, s₁ = s₂ ++ junk ∧ s₂.length = js.length ∧ (∀ o ∈ s₂, FlJ js o) ∧ ((v.Lt 0 ∧ K v (C8 js s₂ sto)) ∨ ∃ j o, v = .ref j ∧ js.length ≤ j ∧ s₁[j]? = some o ∧ o.Lt 0 ∧ K (.ref sto.length) (C8 js s₂ sto ++ [o]))) : CallS x f as [] loc sto K := by
 intro c α s vs ks Q E O S rv rk P
 obtain rfl := rk.nil
 obtain ⟨m, F, l⟩ := S.fr
 have ln := S.hs.len
 have jlt : ∀ j ∈ js, j < sto.length := fun j hj => by
  obtain ⟨i, hi, e⟩ := q9Y.mp hj
  have e' : js[i]? = some j := by rw [q9Z hi, e]
  have := hat i j e'
  rw [q9Z (show i < sto₀.length by lia)] at this
  exact (q9W.mp this).1
 let α₀ := js.map fun j => α.getD j 0
 have aat : ∀ {i j : Nat}, js[i]? = some j → α₀[i]? = some (α.getD j 0) ∧ α[j]? = some (α.getD j 0) := fun {i j} e =>
  ⟨by show (js.map _)[i]? = _; rw [v0L, e]; rfl, C0 (by rw [ln]; exact jlt j (v0i e))⟩
 have α₀in : ∀ a ∈ α₀, ∃ j ∈ js, α[j]? = some a := fun a ha => by
  obtain ⟨j, hj, rfl⟩ := v0z.mp ha
  exact ⟨j, hj, C0 (by rw [ln]; exact jlt j hj)⟩
 have inj : ∀ {i j : Nat} {a : Addr}, α[i]? = some a → α[j]? = some a → i = j := fun {i j a} e1 e2 => by
  obtain ⟨p1, q1⟩ := q9W.mp e1
  obtain ⟨p2, q2⟩ := q9W.mp e2
  exact (v0m S.hs.nd).mp (q1.trans q2.symm)
 let loc₀ : Loc := loc.map fun p => (p.1, .ext ((m p.1).getD .none))
 have look : ∀ {loc : Loc} {y : Str} {w : AV}, (loc.map fun p => (p.1, AV.ext ((m p.1).getD .none))).lookup y = some w → w = .ext ((m y).getD .none) ∧ ∃ v, loc.lookup y = some v := fun {loc y w} => by
  induction loc with
  | nil => intro e; cases e
  | cons p r ih =>
   intro e
   rw [v0K, v0n] at e
   rw [show p = (p.1, p.2) from rfl, v0n]
   cases q : y == p.1 with
   | true => simp only [q] at e ⊢; cases e; rw [beq_iff_eq.mp q]; exact ⟨rfl, _, rfl⟩
   | false => simp only [q] at e ⊢; exact ih e
 have kool : ∀ {loc : Loc} {y : Str} {v : AV}, loc.lookup y = some v → (loc.map fun p => (p.1, AV.ext ((m p.1).getD .none))).lookup y = some (.ext ((m y).getD .none)) := fun {loc y v} => by
  induction loc with
  | nil => intro e; cases e
  | cons p r ih =>
   intro e
   rw [show p = (p.1, p.2) from rfl, v0n] at e
   rw [v0K, v0n]
   cases q : y == p.1 with
   | true => simp only [q] at e ⊢; rw [beq_iff_eq.mp q]
   | false => simp only [q] at e ⊢; exact ih e
 generalize hg : hideAll s.heap (c.env.locals :: α₀) = g
 have gget : ∀ b o, s.heap.get? b = some o → b ≠ c.env.locals → b ∉ α₀ → g.get? b = some o := fun b o e n1 n2 => hg ▸ hideAll_get _ e (by simp [n1, n2])
 have gof : ∀ b o, g.get? b = some o → s.heap.get? b = some o := fun b o e => of_hideAll _ (hg ▸ e)
 have gnone : ∀ b, b ∈ c.env.locals :: α₀ → g.get? b = none := fun b e => hg ▸ hideAll_none _ e
 have g₀ : ∀ b o, (∃ o₀, c.h₀.get? b = some o₀) → s.heap.get? b = some o → g.get? b = some o := fun b o ⟨_, e⟩ d => gget b o d (fun q => by rw [q, F.off] at e; cases e) fun q => by
  obtain ⟨j, _, hj⟩ := α₀in b q
  rw [(S.off b (v0i hj)).2] at e; cases e
 have back : ∀ h m', FrX c.fs g c.env.locals h m' → FrX c.fs c.h₀ c.env.locals h m' := fun h m' F' => ⟨F'.ns, F.keep.comp fun b o q e => F'.keep _ _ (g₀ b o q e), F.off⟩
 let c' : Cx := { c with h₀ := g }
 have O' : Ok (I2 x) c' := ⟨fun q => ⟨(O.below q).1, (O.below q).2.1, fun h m' F' => (O.below q).2.2 h m' (back h m' F')⟩, fun b o e => g₀ b o ⟨o, O.sub b o e⟩ (S.stay O b o e), O.dis, fun b hb => (O.fd b hb).imp_right fun ⟨o, e⟩ => let ⟨o', e'⟩ := F.keep.get e; ⟨o', g₀ b o' ⟨o, e⟩ e'⟩, O.gnd, O.top, O.hh, O.dep, O.units, O.kind, O.scope, O.glob, O.bi⟩
 have S' : Sat (I2 x) c' α₀ loc₀ sto₀ s := by
  refine ⟨⟨m, ⟨F.ns, .of gof, gnone _ v0x⟩, fun y w e => ?_⟩, ⟨by simp [α₀, hlen], ?_, fun i o e => ?_⟩, fun a ha => ?_, S.os, S.gens, fun y i e => by cases e⟩
  ·obtain ⟨rfl, v, hv⟩ := look e
   obtain ⟨u, hu, _⟩ := l y v hv
   exact ⟨u, hu, by rw [hu]; rfl⟩
  ·show (js.map _).Nodup
   rw [List.Nodup, List.pairwise_map]
   refine hjs.imp_of_mem fun {a b} ha hb hne q => hne ?_
   exact inj (a := α.getD a 0) (C0 (by rw [ln]; exact jlt a ha)) (by rw [show α.getD a 0 = α.getD b 0 from q]; exact C0 (by rw [ln]; exact jlt b hb))
  ·have hi : i < js.length := hlen ▸ (q9W.mp e).1
   have ej : js[i]? = some js[i] := q9Z hi
   obtain ⟨p1, p2⟩ := aat ej
   obtain ⟨ob, h2, h3⟩ := S.objAt p2 ((hat i _ ej).trans e)
   exact ⟨_, ob, p1, h2, h3.flj (flat o (v0i e)) fun q => (aat q).2.trans (aat q).1.symm⟩
  ·obtain ⟨j, _, hj⟩ := α₀in a ha
   exact ⟨(S.off a (v0i hj)).1, gnone _ (v0y _ ha)⟩
 have rv' : VRs α₀ as₀ vs := by
  subst hren
  clear h hK
  induction as₀ generalizing vs with
  | nil => cases vs with
   | nil => trivial
   | cons _ _ => exact rv.elim
  | cons a as ih => cases vs with
   | nil => exact rv.elim
   | cons v vs =>
    refine ⟨?_, ih (fun b hb => hlt b (v0y _ hb)) vs rv.2⟩
    have r1 := rv.1
    have hl := hlt a v0x
    cases a <;> try exact r1
    rename_i i
    obtain ⟨ad, h1, h2⟩ := r1
    have ej : js[i]? = some (js.getD i 0) := C0 hl
    obtain ⟨p1, p2⟩ := aat ej
    exact ⟨_, p1, h2.trans (congrArg _ (Option.some.inj (h1.symm.trans p2)))⟩
 refine h loc₀ c' α₀ s vs [] Q E O' S' rv' trivial fun v s₁ α' s' val hv ex S₁ r => ?_
 obtain ⟨β, rfl⟩ := ex
 obtain ⟨s₂, junk, rfl, hl2, st2, hend⟩ := hK v s₁ hv
 obtain ⟨m₁, F₁, l₁⟩ := S₁.fr
 have base : ∀ {α₂ : List Addr} {stox : Sto}, Ex α α₂ → HS α₂ stox s'.heap → (∀ a ∈ α₂, a ∈ α ∨ (a ∈ α₀ ++ β)) → Sat x c α₂ loc stox s' := fun {α₂ stox} ex H sub => by
  refine ⟨⟨m₁, back _ _ F₁, fun y v e => ?_⟩, H, fun a ha => ?_, S₁.os, S₁.gens, fun y i e => ?_⟩
  ·obtain ⟨u, hu, hr⟩ := l y v e
   obtain ⟨u', hu', hr'⟩ := l₁ y _ (kool e)
   rw [hu] at hr'
   obtain rfl : u' = u := hr'
   exact ⟨_, hu', ex.vr hr⟩
  ·rcases sub a ha with q | q
   ·exact S.off a q
   ·refine ⟨(S₁.off a q).1, ?_⟩
    cases e : c.h₀.get? a with
    | none => rfl
    | some o => obtain ⟨o', e'⟩ := F.keep.get e; have := (S₁.off a q).2; rw [show c'.h₀ = g from rfl, g₀ _ _ ⟨o, e⟩ e'] at this; cases this
  ·obtain ⟨a, h1, h2⟩ := S.cel y i e
   obtain ⟨γ, rfl⟩ := ex
   exact ⟨a, by rw [q9V (q9W.mp h1).1]; exact h1, h2⟩
 have H : HS α (C8 js s₂ sto) s'.heap := by
  refine ⟨by rw [G5]; exact ln, S.hs.nd, fun i o e => ?_⟩
  by_cases hi : i ∈ js
  ·obtain ⟨k, hk, ek⟩ := q9Y.mp hi
   have ej : js[k]? = some i := by rw [q9Z hk, ek]
   rw [w5 js s₂ sto k i hjs hl2.symm (jlt i hi) ej] at e
   obtain ⟨p1, p2⟩ := aat ej
   obtain ⟨ob, h2, h3⟩ := S₁.objAt ((q9V (by simp [α₀, hk])).trans p1) ((q9V (q9W.mp e).1).trans e)
   exact ⟨_, ob, p2, h2, h3.flj (st2 o (v0i e)) fun q => (show (α₀ ++ β)[0]? = some (α.getD 0 0) from by rw [q9V (by rw [show α₀.length = js.length from v0I ..]; exact (q9W.mp q).1)]; exact (aat q).1).trans (aat q).2.symm⟩
  ·rw [a3 _ _ _ _ hi] at e
   obtain ⟨a, ob, h1, h2, h3⟩ := S.hs.cell i o e
   refine ⟨a, ob, h1, (F₁.keep a ob (gget a ob h2 (S.off a (v0i h1)).1 fun q => ?_)).1 (fun z => (O.fd a z).elim (S.off a (v0i h1)).1 fun ⟨_, e⟩ => by rw [(S.off a (v0i h1)).2] at e; cases e), h3⟩
   obtain ⟨j, hj, hja⟩ := α₀in a q
   exact hi (inj h1 hja ▸ hj)
 rcases hend with ⟨vl, hKv⟩ | ⟨j, o, rfl, hj, ho, ol, hKv⟩
 ·exact P _ _ _ _ _ hKv .refl (base .refl H fun a ha => .inl ha) (r.flat vl)
 ·obtain ⟨a, ha, rfl⟩ := r
  obtain ⟨ob, h2, h3⟩ := S₁.objAt ha ho
  have hβ : a ∈ β := by
   rw [v0d (by simp [α₀]; exact hj)] at ha
   exact v0i ha
  have hα : a ∉ α := fun q => by
   have n0 : a ∉ α₀ := fun z => (v0b.mp S₁.hs.nd).2.2 a z a hβ rfl
   obtain ⟨i, hi, e⟩ := q9Y.mp q
   obtain ⟨ob', p2, _⟩ := S.objAt ((q9Z hi).trans (congrArg _ e)) (q9Z (ln ▸ hi))
   exact nomatch (gget a ob' p2 (S.off a q).1 n0).symm.trans (S₁.off a (List.mem_append_right _ hβ)).2
  refine P _ _ (α ++ [a]) _ _ hKv .push (base .push ⟨by simp [G5, ln], ?_, fun i o' e => ?_⟩ fun b hb => ?_) ⟨a, ?_, rfl⟩
  ·rw [v0b]
   exact ⟨S.hs.nd, by simp, fun b hb d hd q => by cases v0c.mp hd; exact hα (q ▸ hb)⟩
  ·by_cases hi : i < (C8 js s₂ sto).length
   ·rw [q9V hi] at e
    obtain ⟨b, ob', p1, p2, p3⟩ := H.cell i o' e
    exact ⟨b, ob', by rw [q9V (by rw [G5] at hi; lia)]; exact p1, p2, p3.mono⟩
   ·rw [v0d (by lia)] at e
    have : i - (C8 js s₂ sto).length = 0 := by
     cases hq : i - (C8 js s₂ sto).length with
     | zero => rfl
     | succ j => rw [hq] at e; simp at e
    rw [this] at e; cases e
    rw [G5] at this hi
    exact ⟨a, ob, by rw [v0d (by lia), show i - α.length = 0 by lia]; rfl, h2, h3.flat ol⟩
  ·rcases v0f.mp hb with q | q
   ·exact .inl q
   ·cases v0c.mp q; exact .inr (List.mem_append_right _ hβ)
  ·rw [← ln, v0d (v0h _), v0q]; rfl
theorem CallS.lift {f : Value} {as₀ as : List AV} {sto₀ : Sto} {K₀ : AV → Sto → Prop} (js : List Nat) (h : ∀ loc₀, CallS (I2 x) f as₀ [] loc₀ sto₀ K₀) (hlen : js.length = sto₀.length) (hjs : js.Nodup) (hat : ∀ (i j : Nat), js[i]? = some j → sto[j]? = sto₀[i]?) (flat : C2 0 sto₀) (hlt : ∀ a ∈ as₀, a.Lt js.length) (hren : as = as₀.map (ren js))
  (hK : ∀ v s₁, K₀ v s₁ → ∃ s₂ junk, s₁ = s₂ ++ junk ∧ s₂.length = js.length ∧ C2 0 s₂ ∧ ((v.Lt 0 ∧ K v (C8 js s₂ sto)) ∨ ∃ j o, v = .ref j ∧ js.length ≤ j ∧ s₁[j]? = some o ∧ o.Lt 0 ∧ K (.ref sto.length) (C8 js s₂ sto ++ [o]))) : CallS x f as [] loc sto K :=
 CallS.liftJ js h hlen hjs hat (fun o ho => .inl (flat o ho)) hlt hren fun v s₁ hv => let ⟨s₂, junk, e1, e2, e3, e4⟩ := hK v s₁ hv; ⟨s₂, junk, e1, e2, fun o ho => .inl (e3 o ho), e4⟩
end
section
variable {x : SX} {c : Cx} {α : List Addr} {loc : Loc} {sto : Sto} {s : Shared}
theorem Sat.addObj (S : Sat x c α loc sto s) {I : Addr} {o : Obj} {ao : AO} (hI : I ∉ α) (hL : I ≠ c.env.locals) (h₀ : c.h₀.get? I = none) (ho : s.heap.get? I = some o) (r : OR α ao o) : Sat x c (α ++ [I]) loc (sto ++ [ao]) s := by
 have S' := (S.addRaw hI hL h₀ ho).retype (j := sto.length) (ao := ao) (o := o) (by rw [v0d (v0h _), v0q]; rfl) r.mono
 rw [List.set_append_right _ _ (v0h _), v0q] at S'
 exact S'
theorem Sat.setX (S : Sat x c α loc sto s) {x' : SX} (h : ∀ (y : Str) (i : Nat), x'.cm.lookup y = some i → ∃ a : Addr, α[i]? = some a ∧ c.env.cells.lookup y = some a) (hr : x'.fr = x.fr := by rfl) : Sat x' c α loc sto s := ⟨S.fr, S.hs, S.off, S.os, (by rw [hr]; exact S.gens), h⟩
theorem cns2 {a b : Str} {f : Nat → Str → Option Nat} (h0 : ∀ n, f n a = some (n + 0)) (h1 : ∀ n, f n b = some (n + 1)) (n i : Nat) (y : Str) (e : [a, b][i]? = some y) : f n y = some (n + i) := by
 cases i with
 | zero => rw [← Option.some.inj e]; exact h0 n
 | succ i => cases i with
  | zero => rw [← Option.some.inj e]; exact h1 n
  | succ i => cases (show (none : Option Str) = some y from e)
theorem mem2 {a b : Str} {P : Str → Prop} (h0 : P a) (h1 : P b) (y : Str) (h : y ∈ [a, b]) : P y := by
 rcases v0F.mp h with e | h
 ·rw [e]; exact h0
 ·rw [v0c.mp h]; exact h1
theorem lk2 {a b : Str} {p q : Nat} {R : Str → Nat → Prop} (h0 : R a p) (h1 : R b q) (y : Str) (i : Nat) (e : [(a, p), (b, q)].lookup y = some i) : R y i := by
 rw [v0n] at e
 cases h : y == a with
 | true => simp only [h] at e; rw [beq_iff_eq.mp h, ← Option.some.inj e]; exact h0
 | false =>
  simp only [h] at e
  rw [v0n] at e
  cases h' : y == b with
  | true => simp only [h'] at e; rw [beq_iff_eq.mp h', ← Option.some.inj e]; exact h1
  | false => simp only [h'] at e; cases e
theorem q3v {as : List AV} {K : AV → Sto → Prop} {f : Addr} {o : Obj} {fd : FuncData} {body : List Stmt} {scope : Scope} {cm : List (Str × Nat)} {cvs : List AV} {cns : List Str}
  (ho : (KK x.w.params).lookup f = some o) (hod : o.data = .func fd) (hbd : fd.body = .stmts body) (hs : fd.scope = scope) (hg : fd.globals = mainGlobals) (hbi : fd.builtins = builtinsNs) (hcd : codeIn (KK x.w.params) fd.code fd.qualname = true) (hclo : fd.closure = [])
  (hcl : ∀ n i y, cns[i]? = some y → (cellsFrom n scope.names []).lookup y = some (n + i)) (hcn : ∀ y, y ∈ cns → lk scope.names y = some .cell) (hcm : ∀ y i, cm.lookup y = some i → sto.length ≤ i ∧ cns[i - sto.length]? = some y) (hlen : cvs.length = cns.length) (hnd : cns.Nodup)
  (hb : ∀ α vs, VRs α as vs → ∃ us, bindArgs fd ⟨vs, []⟩ = pure (cns.zip us) ∧ VRs α cvs us) (hd : 1 ≤ x.d)
  (h : XSs { w := x.w, fr := x.fr, d := x.d - 1, scope := scope, cm := cm } body [] (sto ++ cvs.map .cell) (BodyK sto.length K))
  (hco : scope.isCoroutine = false := by rfl) (hgen : scope.isGenerator = false := by rfl) (hk : scope.kind = .function := by rfl) : CallS x (.ref f) as [] loc sto K := by
 subst hs
 intro c α s vs ks Q E O S rv rk P
 have : ks = [] := by cases ks with
  | nil => rfl
  | cons _ _ => exact rk.elim
 subst this
 refine v1q ?_
 obtain ⟨us, hbe, hus⟩ := hb α vs rv
 have X := S.gnd O
 obtain ⟨m, F, l⟩ := S.fr
 obtain ⟨mg, mb, Tp⟩ := O.top
 have Tp' := Tp.keeps (S.stay O)
 have kcell : ∀ y ∈ cns, fd.scope.names.lookup y = some .cell := fun y hy => by rw [← F7]; exact hcn y hy
 refine codeAny_call_cells (fd := fd) (body := body) (vals := vs) (binds := cns.zip us) (by have := O.dep; lia) (X _ _ ho) hod Tp'.nolimit (codeRec_of X hcd) hbd hbe hclo (fun y hy => ?_) (fun s₁ I => ?_) hco hgen hk
 ·have hy' := (List.of_mem_zip hy).1
  obtain ⟨i, hi, e⟩ := q9Y.mp hy'
  exact .inr ⟨kcell _ hy', by rw [hcl _ i y.1 (by rw [q9Z hi, e])]; rfl⟩
 ·let c' : Cx := inC c s α (callEnvC fd s.heap.objs.size f)
  have O' : Ok { w := x.w, fr := x.fr, d := x.d - 1, scope := fd.scope, cm := cm } c' := q0w O S rfl rfl rfl rfl hd rfl rfl hk hg hbi
  have none_ : ∀ b, s.heap.objs.size ≤ b → (hideAll s.heap α).get? b = none := fun b hb => by
   cases e : (hideAll s.heap α).get? b with
   | none => rfl
   | some o => exact absurd (v0a (of_hideAll _ e)) (Nat.not_lt.mpr hb)
  obtain ⟨⟨h₁, tk, rfl⟩, ns, kp, _⟩ := I.toInCall
  have αlt : ∀ a ∈ α, a < s.heap.objs.size := fun a ha => by
   obtain ⟨i, hi, e⟩ := q9Y.mp ha
   obtain ⟨ob, h2, _⟩ := S.objAt ((q9Z hi).trans (congrArg _ e)) (q9Z (S.hs.len ▸ hi))
   exact v0a h2
  have ulen : us.length = cns.length := by rw [← hus.length, hlen]
  have bc : ∀ (cns : List Str) (us : List Value) (m₀ : Str → Option Value) (i : Nat) (y : Str) (u : Value), (∀ y ∈ cns, fd.scope.names.lookup y = some .cell) → cns.Nodup → cns[i]? = some y → us[i]? = some u → bindC (callEnvC fd s.heap.objs.size f).kindOf (cns.zip us) m₀ y = some u := by
   have stay : ∀ (cns : List Str) (us : List Value) (m₀ : Str → Option Value) (y : Str), (∀ y ∈ cns, fd.scope.names.lookup y = some .cell) → y ∉ cns → bindC (callEnvC fd s.heap.objs.size f).kindOf (cns.zip us) m₀ y = m₀ y := by
    intro cns
    induction cns with
    | nil => intro us m₀ y _ _; rfl
    | cons z cns ih =>
     intro us m₀ y hk' hy
     cases us with
     | nil => rfl
     | cons v us =>
      rw [List.zip_cons_cons, bindC, ih us _ y (fun q hq => hk' q (v0y _ hq)) fun q => hy (v0y _ q)]
      have : (callEnvC fd s.heap.objs.size f).kindOf z = some .cell := hk' z v0x
      rw [this, if_neg (by decide)]
      show (if y = z then some v else m₀ y) = m₀ y
      rw [if_neg fun q => hy (by rw [q]; exact v0x)]
   intro cns
   induction cns with
   | nil => intro us m₀ i y u _ _ h; simp at h
   | cons z cns ih =>
    intro us m₀ i y u hk' hn h1 h2
    rw [List.nodup_cons] at hn
    cases us with
    | nil => simp at h2
    | cons v us =>
     rw [List.zip_cons_cons, bindC]
     have hz : (callEnvC fd s.heap.objs.size f).kindOf z = some .cell := hk' z v0x
     rw [hz, if_neg (by decide)]
     cases i with
     | zero =>
      cases h1; cases h2
      rw [stay cns us _ z (fun q hq => hk' q (v0y _ hq)) hn.1]
      simp
     | succ i => exact ih us _ i y u (fun q hq => hk' q (v0y _ hq)) hn.2 h1 h2
  have S0 : Sat { w := x.w, fr := x.fr, d := x.d - 1, scope := fd.scope, cm := [] } c' α [] sto { s with heap := h₁, toks := tk } := ⟨⟨_, ⟨ns, .of fun b o e => kp b o (of_hideAll _ e), none_ _ (v0h _)⟩, fun y v e => by cases e⟩, ⟨S.hs.len, S.hs.nd, fun i o e => by
   obtain ⟨a, ob, h1, h2, h3⟩ := S.hs.cell i o e; exact ⟨a, ob, h1, kp _ _ h2, h3⟩⟩, fun a ha => ⟨fun q => S.fresh.1 ((show a = s.heap.objs.size from q) ▸ ha), hideAll_none _ ha⟩, rfl, S.gens, fun y i e => by cases e⟩
  have grow : ∀ k, k ≤ cns.length → Sat { w := x.w, fr := x.fr, d := x.d - 1, scope := fd.scope, cm := [] } c' (α ++ (List.range k).map (s.heap.objs.size + 1 + ·)) [] (sto ++ (cvs.take k).map .cell) { s with heap := h₁, toks := tk } := by
   intro k
   induction k with
   | zero => intro _; simpa using S0
   | succ k ih =>
    intro hk'
    have S1 := ih (by lia)
    have hkc : k < cns.length := by lia
    obtain ⟨y, hy⟩ : ∃ y, cns[k]? = some y := ⟨_, q9Z hkc⟩
    obtain ⟨v, hv⟩ : ∃ v, cvs[k]? = some v := ⟨_, q9Z (by lia)⟩
    obtain ⟨u, hu, ru⟩ := hus.at hv
    obtain ⟨oc, hoc, hdc⟩ := I.cell y (s.heap.objs.size + 1 + k) (hcl _ k y hy)
    rw [bc cns us _ k y u kcell hnd hy hu] at hdc
    have S2 := S1.addObj (I := s.heap.objs.size + 1 + k) (o := oc) (ao := .cell v) (fun q => ?_) (Nat.ne_of_gt (show s.heap.objs.size < s.heap.objs.size + 1 + k by lia)) (none_ _ (by lia)) hoc ⟨u, hdc, VR.mono ru⟩
    ·rw [v0N, v0M, v0O, hv, ← v0P]
     simpa using S2
    ·rcases v0f.mp q with q | q
     ·exact absurd (αlt _ q) (Nat.not_lt.mpr (show s.heap.objs.size ≤ s.heap.objs.size + 1 + k by lia))
     ·obtain ⟨j, hj, e⟩ := v0z.mp q
      have := v0Q.mp hj
      have e' : j = k := Nat.add_left_cancel (show s.heap.objs.size + 1 + j = s.heap.objs.size + 1 + k from e)
      lia
  have S' := grow cns.length (v0h _)
  rw [show cvs.take cns.length = cvs from by rw [← hlen, v0R]] at S'
  have ln := S.hs.len
  have S'' : Sat { w := x.w, fr := x.fr, d := x.d - 1, scope := fd.scope, cm := cm } c' _ [] (sto ++ cvs.map .cell) _ := S'.setX fun y i e => by
   obtain ⟨h1, h2⟩ := hcm y i e
   have hlt := (q9W.mp h2).1
   refine ⟨s.heap.objs.size + 1 + (i - sto.length), ?_, hcl _ _ y h2⟩
   rw [v0d (by lia), ln, v0L, List.getElem?_range hlt]; rfl
  refine h c' _ _ _ _ O' S'' fun f' l' s' α' t' fl hf ex S₂ r => ?_
  obtain ⟨β, rfl⟩ := ex
  rw [← ln] at hf
  rw [v0P] at S₂ r
  cases f' with
  | next => obtain rfl : fl = .next := r; exact S.ret (v := .none) (val := .none) rfl rfl (c7 S) (V8 S) (V7 S) S₂ (show VR _ .none .none from rfl) hf P
  | brk => exact hf.elim
  | cont => exact hf.elim
  | ret v => obtain ⟨u, rfl, hu⟩ := r; exact S.ret rfl rfl (c7 S) (V8 S) (V7 S) S₂ hu hf P
end
noncomputable def bnd (v : Option Int) (d n : Nat) : Nat := match v with
 | none => d
 | some i => (max 0 (min (if i < 0 then i + (n : Int) else i) (n : Int))).toNat
noncomputable def cutL {β : Type} (l : List β) (lo hi : Option Int) : List β := (l.drop (bnd lo 0 l.length)).take (bnd hi l.length l.length - bnd lo 0 l.length)
theorem q0A {β γ : Type} (f : β → γ) (l : List β) (lo hi : Option Int) : cutL (l.map f) lo hi = (cutL l lo hi).map f := by
 unfold cutL
 rw [v0I, List.map_take, List.map_drop]
theorem q3w (lo hi : Option Int) (n : Nat) : sliceBounds lo hi none n = (((bnd lo 0 n : Nat) : Int), ((bnd hi n n : Nat) : Int), 1) := by
 unfold sliceBounds bnd
 simp only [Option.getD_none, show (1 : Int) > 0 by decide, if_true]
 cases lo <;> cases hi <;> simp <;> lia
theorem w6 (lo hi : Option Int) (n : Nat) : Builtin.Str.strSliceIndices lo hi 1 n = sliceRange ((bnd lo 0 n : Nat) : Int) ((bnd hi n n : Nat) : Int) 1 := by
 unfold Builtin.Str.strSliceIndices bnd
 simp only [show (1 : Int) > 0 by decide, if_true]
 cases lo <;> cases hi <;> simp <;> congr 1 <;> lia
theorem a4 (xs : Array Value) (lo hi : Option Int) : slicePick xs lo hi none = (cutL xs.toList lo hi).toArray := by
 unfold slicePick
 rw [q3w]
 simp only [sliceRange_one, pick_run]
 unfold cutL
 rw [v0D]
theorem VRs.take {α : List Addr} {as : List AV} {vs : List Value} (n : Nat) (h : VRs α as vs) : VRs α (as.take n) (vs.take n) :=
 VRs.ind (P := fun as vs => ∀ n, VRs α (as.take n) (vs.take n)) (fun n => by cases n <;> exact trivial) (fun _ _ _ _ r _ ih n => match n with
  | 0 => trivial
  | n + 1 => ⟨r, ih n⟩) as vs h n
theorem VRs.drop {α : List Addr} {as : List AV} {vs : List Value} (n : Nat) (h : VRs α as vs) : VRs α (as.drop n) (vs.drop n) :=
 VRs.ind (P := fun as vs => ∀ n, VRs α (as.drop n) (vs.drop n)) (fun n => by cases n <;> exact trivial) (fun _ _ _ _ r q ih n => match n with
  | 0 => ⟨r, q⟩
  | n + 1 => ih n) as vs h n
theorem VRs.cutL {α : List Addr} {as : List AV} {vs : List Value} (h : VRs α as vs) (lo hi : Option Int) : VRs α (cutL as lo hi) (cutL vs lo hi) := by
 unfold Mine.cutL
 rw [h.length]
 exact (h.drop _).take _
theorem j0 {β : Type} (l : List β) (lo hi : Option Int) : (cutL l lo hi).length ≤ l.length := by
 unfold cutL; simp; lia
noncomputable def m8 (a : AV) : Option (Option Int) := AV.casesOn a (some none) (fun _ => none) (fun i => some (some i)) (fun _ => none) (fun _ => none) (fun _ => none) fun _ => none
theorem q1L {α : List Addr} {a : AV} {p : Option Int} {v : Value} (h : m8 a = some p) (r : VR α a v) : IsPart v p := by
 refine AV.pickO h (fun e g => ?_) B4 (fun i e g => ?_) B4 B4 B4 B4 <;> clear h <;> subst e <;> cases g
 ·obtain rfl := r; exact .none
 ·obtain ⟨t, rfl⟩ := r; exact .int _ t
def onP (a : AV) (f : Option Int → Prop) : Prop := Option.casesOn (m8 a) False f
theorem isP {a : AV} {f : Option Int → Prop} (h : onP a f) : ∃ p, m8 a = some p ∧ f p := by
 unfold onP at h
 cases e : m8 a with
 | none => rw [e] at h; exact False.elim h
 | some p => rw [e] at h; exact ⟨p, rfl, h⟩
section
variable {x : SX} {loc : Loc} {sto : Sto} {K : AV → Sto → Prop}
def W9 (o : Obj) (xs : List Int) : Prop := o.cls = .type "list" ∧ ∃ vs n, o.data = .seq vs n ∧ VRs [] (xs.map .int) vs.toList
def cutO (sto : Sto) (lo hi : Option Int) (K : AV → Sto → Prop) (ao : AO) : Prop := AO.casesOn ao (fun xs => xs.length ≤ sizeLine ∧ K (.ref sto.length) (sto ++ [.lst (cutL xs lo hi)])) (fun _ => False) (fun _ => False)
 (fun o => ∃ xs, W9 o xs ∧ xs.length ≤ sizeLine ∧ K (.ref sto.length) (sto ++ [.lsI (cutL xs lo hi)])) (fun _ _ _ => False) (fun xs => xs.length ≤ sizeLine ∧ K (.ref sto.length) (sto ++ [.lsS (cutL xs lo hi)]))
 (fun xs => xs.length ≤ sizeLine ∧ K (.ref sto.length) (sto ++ [.lsI (cutL xs lo hi)])) (fun _ => False) (fun _ _ => False) (fun _ => False) False
def cutT (a l u : AV) (sto : Sto) (K : AV → Sto → Prop) : Prop := onP l fun lo => onP u fun hi => AV.casesOn a False (fun _ => False) (fun _ => False) (fun s => s.length ≤ sizeLine ∧ K (.str (cutL s lo hi)) sto) (fun _ => False) (fun i => onO False sto i (cutO sto lo hi K)) fun _ => False
theorem q0B {v : Value} {p : Option Int} (h : IsPart v p) : ∃ q : Option (Int × Tok), v = partValue q ∧ q.map (·.1) = p := by
 cases h with
 | none => exact ⟨none, rfl, rfl⟩
 | int i t => exact ⟨some (i, t), rfl, rfl⟩
theorem q3x (s : List Nat) (lo hi : Option Int) : (Builtin.Str.strSliceIndices lo hi 1 s.length).filterMap (s.toArray[·]?) = cutL s lo hi := by
 rw [w6, sliceRange_one, pick_run]
 rfl
theorem q8l {c : Cx} {α : List Addr} {s : Shared} {Q E : Value → Shared → Prop} (S : Sat x c α loc sto s) {l : List Nat} {t : Tok} {lo hi : Option Int} {lv uv : Value} (hsz : l.length ≤ sizeLine) (pl : IsPart lv lo) (pu : IsPart uv hi) (hK : K (.str (cutL l lo hi)) sto) (P : E0 x c α loc K Q) (v : Expr) (le ue : Option Expr) (p : Pos) :
  wpAny (model pw x.w) c.A (newFields "slice" [lv, uv, .none]) (fun i s' => wpAny (model pw x.w) c.A (subscriptTail v (.Slice le ue none p) (.str ⟨l.toArray⟩ t) i) Q E s') E s := by
 refine v1i (T := "slice") ?_ (by size_fits)
 refine tail_any (T := "str") (ops := [.ref s.heap.objs.size, .str ⟨l.toArray⟩ t]) (typeIs_str _ _ _) F.slot_str_getitem.lookup ?_ rfl
 obtain ⟨ql, rfl, rfl⟩ := q0B pl
 obtain ⟨qu, rfl, rfl⟩ := q0B pu
 have S₁ := fun n => S.heapK (h' := s.heap.push { cls := .type "slice", data := .fields #[partValue ql, partValue qu, .none] }) (n := n) fun b ob e => q9X _ e
 refine getItem_meets (typeIs_str _ _ _) (by decide) F.slot_str_getitem F.entry_str_getitem (F.args_str_getitem_2 _ _) (meets_str_getitem_slice ⟨l.toArray⟩ t s.heap.objs.size ql qu none rfl) ⟨⟨_, v0e _ rfl, rfl, rfl⟩, ?_⟩
 have hp : (slicePicked ⟨l.toArray⟩ ql qu none).filterMap (l.toArray[·]?) = cutL l (ql.map (·.1)) (qu.map (·.1)) := q3x l _ _
 unfold sliceMade
 split
 ·rename_i hc
  simp only [Option.map_none, Option.getD_none, beq_self_eq_true, Bool.true_and, beq_iff_eq] at hc
  have hall : cutL l (ql.map (·.1)) (qu.map (·.1)) = l := by
   have e1 : (slicePicked ⟨l.toArray⟩ ql qu none).length = (bnd (qu.map (·.1)) l.length l.length) - bnd (ql.map (·.1)) 0 l.length := by
    show (Builtin.Str.strSliceIndices (ql.map (·.1)) (qu.map (·.1)) 1 l.length).length = _
    rw [w6, sliceRange_one]; simp
   rw [e1] at hc
   have hc : (bnd (qu.map (·.1)) l.length l.length) - bnd (ql.map (·.1)) 0 l.length = l.length := hc
   have hb : bnd (qu.map (·.1)) l.length l.length ≤ l.length := by unfold bnd; split <;> lia
   unfold cutL
   by_cases h0 : l.length = 0
   ·rw [List.length_eq_zero_iff.mp h0]; simp
   ·rw [show bnd (ql.map (·.1)) 0 l.length = 0 by lia, show bnd (qu.map (·.1)) l.length l.length = l.length by lia]; simp
  rw [hall] at hK
  exact P (.str l) _ _ _ _ hK .refl (S₁ _) ⟨_, rfl⟩
 ·refine ⟨?_, P _ _ _ _ _ hK .refl (S₁ _) ⟨_, by rw [hp]⟩⟩
  show (List.toArray _).size ≤ sizeLine
  rw [v0p, hp]
  exact v0S (j0 _ _ _) hsz
theorem q1M {c : Cx} {α : List Addr} {s : Shared} {Q E : Value → Shared → Prop} (S : Sat x c α loc sto s) {ao' : AO} {xs : List AV} {lo hi : Option Int} {lv uv : Value} {a : Addr} {vs : Array Value} (h5 : VRs α xs vs.toList) (h6 : s.heap.IsList a vs) (he' : ao'.items = some (cutL xs lo hi)) (hsz : xs.length ≤ sizeLine)
  (pl : IsPart lv lo) (pu : IsPart uv hi) (hK : K (.ref sto.length) (sto ++ [ao'])) (P : E0 x c α loc K Q) (v : Expr) (le ue : Option Expr) (p : Pos) :
  wpAny (model pw x.w) c.A (newFields "slice" [lv, uv, .none]) (fun i s' => wpAny (model pw x.w) c.A (subscriptTail v (.Slice le ue none p) (.ref a) i) Q E s') E s := by
 have h7 : vs.size = xs.length := by rw [← v0D, ← h5.length]
 refine v1i (T := "slice") ?_ (by size_fits)
 refine tail_any (T := "list") (ops := [.ref s.heap.objs.size, .ref a]) (h6.push _).typeIs slot_list_getitem.lookup ?_ rfl
 have S₁ := S.heapK (h' := s.heap.push { cls := .type "slice", data := .fields #[lv, uv, .none] }) (n := s.toks) fun b ob e => q9X _ e
 refine wpAny_getItem_list_slice (h6.push _) (Heap.IsSliceOf.new ..) pl pu .none (by simp) ?_ (by rw [h7]; exact hsz)
 have S₂ := S₁.push (ao := ao') (o := { cls := .type "list", data := .seq (slicePick vs lo hi none) }) (n := s.toks) (OR.of (x := ao') ⟨rfl, ⟨rfl, rfl⟩, _, _, rfl, by rw [a4]; exact h5.cutL lo hi⟩ he') rfl
 refine P _ _ _ _ _ hK .push S₂ ⟨_, ?_, rfl⟩
 rw [← S.hs.len, v0d (v0h _), v0q]; rfl
theorem q8m {c : Cx} {α : List Addr} {s : Shared} {Q E : Value → Shared → Prop} (S : Sat x c α loc sto s) {i : Nat} {ao ao' : AO} {xs : List AV} {lo hi : Option Int} {lv uv : Value} {a : Addr} (hx : sto[i]? = some ao) (he : ao.items = some xs) (he' : ao'.items = some (cutL xs lo hi)) (ha : α[i]? = some a) (hsz : xs.length ≤ sizeLine)
  (pl : IsPart lv lo) (pu : IsPart uv hi) (hK : K (.ref sto.length) (sto ++ [ao'])) (P : E0 x c α loc K Q) (v : Expr) (le ue : Option Expr) (p : Pos) :
  wpAny (model pw x.w) c.A (newFields "slice" [lv, uv, .none]) (fun i s' => wpAny (model pw x.w) c.A (subscriptTail v (.Slice le ue none p) (.ref a) i) Q E s') E s :=
 by obtain ⟨_, _, _, _, _, _, _, h5, h6, _⟩ := S.list hx he ha; exact q1M S h5 h6 he' hsz pl pu hK P v le ue p
theorem q6B {a l u : AV} (h : cutT a l u sto K) (v : Expr) (le ue : Option Expr) (p : Pos) (c : Cx) (α : List Addr) (s : Shared) (av lv uv : Value) (Q E : Value → Shared → Prop) (O : Ok x c) (S : Sat x c α loc sto s) (r1 : VR α a av) (r2 : VR α l lv) (r3 : VR α u uv) (P : E0 x c α loc K Q) :
  wpAny (model pw x.w) c.A (newFields "slice" [lv, uv, .none]) (fun i s' => wpAny (model pw x.w) c.A (subscriptTail v (.Slice le ue none p) av i) Q E s') E s := by
 obtain ⟨lo, hl, h1⟩ := isP h
 obtain ⟨hi, hu, h2⟩ := isP h1
 clear h h1
 have pl := q1L hl r2
 have pu := q1L hu r3
 clear hl hu r2 r3
 refine AV.pick h2 (fun _ z => z.elim) no1 no1 (fun l e g => ?_) no1 (fun i e g => ?_) no1 <;> clear h2 <;> subst e
 ·obtain ⟨t, rfl⟩ := r1
  exact q8l S g.1 pl pu g.2 P v le ue p
 ·obtain ⟨a, ha, rfl⟩ := r1
  obtain ⟨ao, hx, g⟩ := isO g
  have fin : ∀ {xs : List AV} {ao'}, ao.items = some xs → ao'.items = some (cutL xs lo hi) → xs.length ≤ sizeLine → K (.ref sto.length) (sto ++ [ao']) → _ := fun {xs ao'} he he' hz hK => q8m (E := E) S hx he he' ha hz pl pu hK P v le ue p
  have mp : ∀ {β : Type} {f : β → AV} {xs : List β} {y : Option (List AV)}, y = some ((cutL xs lo hi).map f) → y = some (cutL (xs.map f) lo hi) := fun e => by rw [q0A]; exact e
  cases ao with
  | lst xs => exact fin rfl rfl g.1 g.2
  | lsS xs => exact fin rfl (mp rfl) (P0 (P := (· ≤ sizeLine)) g.1) g.2
  | lsI xs => exact fin rfl (mp rfl) (P0 (P := (· ≤ sizeLine)) g.1) g.2
  | raw o =>
   obtain ⟨xs, ⟨hc, vs, n, hd, hv⟩, hz, hK⟩ := g
   exact q1M S hv.mono ⟨_, S.rawAt ha hx, hc, n, hd⟩ (mp rfl) (P0 (P := (· ≤ sizeLine)) hz) pl pu hK P v le ue p
  | _ => exact False.elim g
end
section
variable {x : SX} {c : Cx} {α : List Addr} {loc : Loc} {sto : Sto} {s : Shared}
theorem V9 (b : Addr) : (({} : Heap)).get? b = none := by
 cases e : (({} : Heap)).get? b with
 | none => rfl
 | some o => exact absurd (v0a e) (Nat.not_lt_zero _)
theorem Sat.allN (S : Sat x c α loc sto s) : ∃ m news, Fr ({} : Heap) c.env.locals s.heap m ∧ News ({} : Heap) c.env.locals s.heap news ∧ (∀ a ∈ α, ∃ p ∈ news, p.1 = a) ∧ (∀ p ∈ news, p.1 < s.heap.objs.size) ∧
  ∀ h' tk, Fr ({} : Heap) c.env.locals h' m → News ({} : Heap) c.env.locals h' news → Sat x c α loc sto { s with heap := h', toks := tk } := by
 obtain ⟨m, F, l⟩ := S.fr
 let news : List (Addr × Obj) := (List.range s.heap.objs.size).filterMap fun a => if a = c.env.locals then none else (s.heap.get? a).map fun o => (a, o)
 have mem : ∀ a o, s.heap.get? a = some o → a ≠ c.env.locals → (a, o) ∈ news := fun a o e n =>
  v0T.mpr ⟨a, v0Q.mpr (v0a e), by rw [if_neg n, e]; rfl⟩
 have of : ∀ p ∈ news, s.heap.get? p.1 = some p.2 ∧ p.1 ≠ c.env.locals := fun p hp => by
  obtain ⟨a, _, e⟩ := v0T.mp hp
  by_cases n : a = c.env.locals
  ·rw [if_pos n] at e; cases e
  ·rw [if_neg n] at e
   cases h : s.heap.get? a with
   | none => rw [h] at e; cases e
   | some o => rw [h] at e; cases e; exact ⟨h, n⟩
 refine ⟨m, news, ⟨F.ns, fun b o e => (by rw [V9] at e; cases e), Nat.zero_le _⟩, fun p hp => ⟨(of p hp).1, (of p hp).2, V9 _⟩, fun a ha => ?_, fun p hp => v0a (of p hp).1, fun h' tk F' N' => ?_⟩
 ·obtain ⟨i, hi, e⟩ := q9Y.mp ha
  obtain ⟨ob, h2, _⟩ := S.objAt ((q9Z hi).trans (congrArg _ e)) (q9Z (S.hs.len ▸ hi))
  exact ⟨(a, ob), mem a ob h2 (S.off a ha).1, rfl⟩
 ·have k : ∀ b o, s.heap.get? b = some o → b ≠ c.env.locals → h'.get? b = some o := fun b o e n => (N' (b, o) (mem b o e n)).1
  refine ⟨⟨m, ⟨F'.ns, F.keep.then fun b o ⟨_, e⟩ d => k b o d (fun q => by rw [q, F.off] at e; cases e), F.off⟩, l⟩, ⟨S.hs.len, S.hs.nd, fun i o e => ?_⟩, S.off, S.os, S.gens, S.cel⟩
  obtain ⟨a, ob, h1, h2, h3⟩ := S.hs.cell i o e
  exact ⟨a, ob, h1, k a ob h2 (S.off a (v0i h1)).1, h3⟩
variable {K : AV → Sto → Prop}
theorem Sat.added (S : Sat x c α loc sto s) {m : Str → Option Value} {news : List (Addr × Obj)} {ao : AO} {o : Obj} (lt : ∀ p ∈ news, p.1 < s.heap.objs.size) (k : ∀ h' tk, Fr ({} : Heap) c.env.locals h' m → News ({} : Heap) c.env.locals h' news → Sat x c α loc sto { s with heap := h', toks := tk }) (r : OR α ao o)
  {h' : Heap} {tk : Nat} (F' : Fr ({} : Heap) c.env.locals h' m) (N' : News ({} : Heap) c.env.locals h' ((s.heap.objs.size, o) :: news)) : Sat x c (α ++ [s.heap.objs.size]) loc (sto ++ [ao]) { s with heap := h', toks := tk } := by
 have S' := k h' tk F' fun p hp => N' p (v0y _ hp)
 exact S'.addObj S.fresh.1 S.fresh.2.1 S.fresh.2.2 (N' _ v0x).1 r
theorem q8n {Q E : Value → Shared → Prop} (S : Sat x c α loc sto s) {i j : Nat} {ao bo ao' : AO} {xs ys : List AV} {a b : Addr} (hx : sto[i]? = some ao) (he : ao.items = some xs) (hy : sto[j]? = some bo) (hf : bo.items = some ys) (he' : ao'.items = some (xs ++ ys)) (ha : α[i]? = some a) (hb : α[j]? = some b)
  (hsz : xs.length + ys.length ≤ sizeLine) (hK : K (.ref sto.length) (sto ++ [ao'])) (P : E0 x c α loc K Q) : wpAny (model pw x.w) c.A (binaryOp .Add (.ref a) (.ref b)) Q E s := by
 obtain ⟨o, vs, n, h1, h2, h3, h4, h5, h6, h7⟩ := S.list hx he ha
 obtain ⟨o', us, n', g1, g2, g3, g4, g5, g6, g7⟩ := S.list hy hf hb
 obtain ⟨m, news, F, N, _, lt, k⟩ := S.allN
 refine add_lists (hsz := by rw [v0D, v0D, h7, g7]; exact hsz) (vs := vs.toList) (ws := us.toList) F N (by simpa using h6) (by simpa using g6) fun h' F' N' => ?_
 refine P _ _ _ _ _ hK .push (S.added (tk := s.toks) lt k (ao := ao') (OR.of (x := ao') ⟨rfl, ⟨rfl, rfl⟩, _, _, rfl, by simpa using h5.append g5⟩ he') F' N') ⟨_, ?_, rfl⟩
 rw [← S.hs.len, v0d (v0h _), v0q]; rfl
theorem q0C {α : List Addr} : ∀ {is : List Int} {vs : List Value}, VRs α (is.map .int) vs → IntsAre vs is
 | [], [], _ => .nil
 | n :: is, v :: vs, ⟨⟨t, e⟩, r⟩ => by rw [e]; exact .cons n t (q0C r)
 | [], _ :: _, h => h.elim
 | _ :: _, [], h => h.elim
theorem q8o {Q E : Value → Shared → Prop} (O : Ok x c) (S : Sat x c α loc sto s) {i : Nat} {ao : AO} {is : List Int} {a : Addr} (hx : sto[i]? = some ao) (he : ao.items = some (is.map .int)) (ha : α[i]? = some a) (hK : K (.int is.sum) sto) (P : E0 x c α loc K Q) :
  wpAny (model pw x.w) c.A (call (.builtin "sum") [.ref a]) Q E s := by
 obtain ⟨o, vs, n, h1, h2, h3, h4, h5, h6, h7⟩ := S.list hx he ha
 obtain ⟨m, news, F, N, _, lt, k⟩ := S.allN
 exact LSm.sum_ints F N O.hh (vs := vs.toList) (by simpa using h6) (q0C h5) fun h' tk t' F' N' => P _ _ _ _ _ hK .refl (k h' tk F' N') ⟨t', rfl⟩
theorem q8p {Q E : Value → Shared → Prop} (O : Ok x c) (S : Sat x c α loc sto s) {i : Nat} {ao : AO} {is : List Int} {a : Addr} (hx : sto[i]? = some ao) (he : ao.items = some (is.map .int)) (ha : α[i]? = some a) (hne : 0 < is.length) (hK : ∀ M, M ∈ is → (∀ a ∈ is, M ≤ a) → K (.int M) sto) (P : E0 x c α loc K Q) :
  wpAny (model pw x.w) c.A (call (.builtin "min") [.ref a]) Q E s := by
 obtain ⟨o, vs, n, h1, h2, h3, h4, h5, h6, h7⟩ := S.list hx he ha
 obtain ⟨m, news, F, N, _, lt, k⟩ := S.allN
 exact kso_min F N (vs := vs.toList) (by simpa using h6) (q0C h5) hne O.hh fun h' M t tk F' N' a1 a2 => P _ _ _ _ _ (hK M a1 a2) .refl (k h' tk F' N') ⟨t, rfl⟩
theorem q8q {Q E : Value → Shared → Prop} (O : Ok x c) (S : Sat x c α loc sto s) {i j : Int} {t u : Tok} (hK : K (.int (if j > i then j else i)) sto) (P : E0 x c α loc K Q) : wpAny (model pw x.w) c.A (call (.builtin "max") [.int i t, .int j u]) Q E s := by
 obtain ⟨m, news, F, N, _, lt, k⟩ := S.allN
 exact max_two_N O.hh F N fun h' tk F' N' => P _ _ _ _ _ hK .refl (k h' tk F' N') ⟨_, rfl⟩
theorem VRs.one1 {α : List Addr} {a : AV} : ∀ {vs : List Value}, VRs α [a] vs → ∃ v, vs = [v] ∧ VR α a v
 | [v], ⟨h, _⟩ => ⟨v, rfl, h⟩
theorem q6C (v : Value) : ∀ n : Nat, List.foldl (fun (x1 x2 : Array Value) => x1 ++ x2) #[] (List.replicate n #[v]) = (List.replicate n v).toArray := by
 have key : ∀ (n : Nat) (acc : List Value), List.foldl (fun (x1 x2 : Array Value) => x1 ++ x2) acc.toArray (List.replicate n #[v]) = (acc ++ List.replicate n v).toArray := by
  intro n
  induction n with
  | zero => intro acc; simp
  | succ n ih =>
   intro acc
   rw [List.replicate_succ, v0B, show acc.toArray ++ #[v] = (acc ++ [v]).toArray from by simp, ih, List.replicate_succ]
   simp
 intro n; simpa using key n []
theorem q3y {α : List Addr} {a : AV} {v : Value} (h : VR α a v) : ∀ n : Nat, VRs α (List.replicate n a) (List.replicate n v)
 | 0 => trivial
 | n + 1 => ⟨h, q3y h n⟩
theorem q8r {Q E : Value → Shared → Prop} (S : Sat x c α loc sto s) {i : Nat} {a : Addr} {z n : Int} {u : Tok} (hx : sto[i]? = some (.lst [.int z])) (ha : α[i]? = some a) (hn : -(2 ^ 63 : Int) ≤ n) (hz : n.toNat ≤ sizeLine) (hK : K (.ref sto.length) (sto ++ [.lsI (List.replicate n.toNat z)])) (P : E0 x c α loc K Q) :
  wpAny (model pw x.w) c.A (binaryOp .Mult (.ref a) (.int n u)) Q E s := by
 obtain ⟨o, vs, k0, h1, h2, h3, h4, h5, h6, h7⟩ := S.list hx rfl ha
 obtain ⟨m, news, F, N, _, lt, k⟩ := S.allN
 obtain ⟨oc, od, odt, os⟩ := o
 obtain ⟨h3, h3'⟩ := h3
 dsimp only at h2 h3 h3' h4
 subst h2 h3 h3' h4
 obtain ⟨v, hv, r⟩ := VRs.one1 h5
 obtain ⟨vl⟩ := vs
 dsimp only at hv
 subst hv
 have e1 : ((#[v] : Array Value).isEmpty) = false := rfl
 refine mul_list F N h1 hn (by unfold sizeLine at hz; lia) (by unfold sizeLine at hz; simpa using hz) fun h' F' N' => ?_
 have N'' : News ({} : Heap) c.env.locals h' ((s.heap.objs.size, { cls := .type "list", data := .seq (List.replicate n.toNat v).toArray }) :: news) := by
  rw [← q6C]
  exact N'
 refine P _ _ _ _ _ hK .push (S.added (tk := s.toks) lt k (ao := .lsI (List.replicate n.toNat z)) (OR.of (x := .lsI (List.replicate n.toNat z)) ⟨rfl, ⟨rfl, rfl⟩, _, _, rfl, by rw [List.map_replicate]; exact q3y r _⟩ rfl) F' N'') ⟨_, ?_, rfl⟩
 rw [← S.hs.len, v0d (v0h _), v0q]; rfl
end
section
variable {x : SX} {loc : Loc} {sto : Sto} {K : AV → Sto → Prop}
def addO (sto : Sto) (K : AV → Sto → Prop) (ao bo : AO) : Prop := AO.casesOn ao (fun xs => bo.on4 False (fun ys => xs.length + ys.length ≤ sizeLine ∧ K (.ref sto.length) (sto ++ [.lst (xs ++ ys)])) (fun _ => False) (fun ys => xs.length + ys.length ≤ sizeLine ∧ K (.ref sto.length) (sto ++ [.lst (xs ++ ys.map .int)])) fun _ => False)
 (fun _ => False) (fun _ => False) (fun _ => False) (fun _ _ _ => False) (fun _ => False)
 (fun xs => bo.on4 False (fun _ => False) (fun _ => False) (fun ys => xs.length + ys.length ≤ sizeLine ∧ K (.ref sto.length) (sto ++ [.lsI (xs ++ ys)])) fun _ => False)
 (fun xs => bo.on4 False (fun _ => False) (fun _ => False) (fun _ => False) fun ys => xs.length + ys.length ≤ sizeLine ∧ K (.ref sto.length) (sto ++ [.lsB (xs ++ ys)])) (fun _ _ => False) (fun _ => False) False
theorem q6D {ao bo : AO} (h : addO sto K ao bo) : ∃ xs ys ao', ao.items = some xs ∧ bo.items = some ys ∧ ao'.items = some (xs ++ ys) ∧ xs.length + ys.length ≤ sizeLine ∧ K (.ref sto.length) (sto ++ [ao']) := by
 have mp : ∀ {β : Type} {f : β → AV} {xs ys : List β} {y : Option (List AV)}, y = some ((xs ++ ys).map f) → y = some (xs.map f ++ ys.map f) := fun e => by rw [← v0M]; exact e
 cases ao with
 | lst xs => exact AO.pick4 h (fun ys e g => ⟨_, _, _, rfl, by rw [e]; rfl, rfl, g.1, g.2⟩) (fun _ _ z => z.elim) (fun ys e g => ⟨_, _, .lst _, rfl, by rw [e]; rfl, rfl, by rw [v0I]; exact g.1, g.2⟩) fun _ _ z => z.elim
 | lsI xs => exact AO.pick4 h (fun _ _ z => z.elim) (fun _ _ z => z.elim) (fun ys e g => ⟨_, _, .lsI _, rfl, by rw [e]; rfl, mp rfl, by rw [v0I, v0I]; exact g.1, g.2⟩) fun _ _ z => z.elim
 | lsB xs => exact AO.pick4 h (fun _ _ z => z.elim) (fun _ _ z => z.elim) (fun _ _ z => z.elim) fun ys e g => ⟨_, _, .lsB _, rfl, by rw [e]; rfl, mp rfl, by rw [v0I, v0I]; exact g.1, g.2⟩
 | _ => exact False.elim h
def mulA (xs : List AV) (n : Int) (sto : Sto) (K : AV → Sto → Prop) : Prop := U3 False xs fun a => a.onI False fun z => -(2 ^ 63 : Int) ≤ n ∧ n.toNat ≤ sizeLine ∧ K (.ref sto.length) (sto ++ [.lsI (List.replicate n.toNat z)])
def mulO (sto : Sto) (n : Int) (K : AV → Sto → Prop) (ao : AO) : Prop := ao.on4 False (fun xs => mulA xs n sto K) (fun _ => False) (fun _ => False) fun _ => False
def opAM (op : Operator) (pa pm po : Prop) : Prop := match op with
 | .Add => pa
 | .Mult => pm
 | _ => po
theorem q6E {op : Operator} {pa pm po : Prop} (h : opAM op pa pm po) : (op = .Add ∧ pa) ∨ (op = .Mult ∧ pm) ∨ po := by cases op <;> first | exact .inl ⟨rfl, h⟩ | exact .inr (.inl ⟨rfl, h⟩) | exact .inr (.inr h)
noncomputable def isRf (a : AV) : Bool := AV.casesOn a false (fun _ => false) (fun _ => false) (fun _ => false) (fun _ => false) (fun _ => true) fun _ => false
def c8 (op : Operator) (a b : AV) (sto : Sto) (K : AV → Sto → Prop) : Prop := cnd (isRf a) (a.onR False fun i => opAM op (b.onR False fun j => onO False sto i fun ao => onO False sto j fun bo => addO sto K ao bo) (b.onI False fun n => onO False sto i (mulO sto n K)) False) (binT op a b sto K)
theorem q4w {o : Operator} {a b : AV} (h : c8 o a b sto K) : OpS x (op2 (binaryOp o)) [a, b] loc sto K := by
 rcases q3h h with g | g <;> clear h
 ·obtain ⟨i, rfl, h⟩ := AV.isR g
  clear g
  rcases q6E h with ⟨rfl, g⟩ | ⟨rfl, g⟩ | g <;> clear h
  ·obtain ⟨j, rfl, h⟩ := AV.isR g
   obtain ⟨ao, h1, h⟩ := isO h
   obtain ⟨bo, h2, h⟩ := isO h
   obtain ⟨xs, ys, ao', e1, e2, e3, hz, hK⟩ := q6D h
   intro c α s vs Q E O S r P
   obtain ⟨v, w, rfl, ⟨a, ha, rfl⟩, ⟨b, hb, rfl⟩⟩ := r.two
   exact q8n S h1 e1 h2 e2 e3 ha hb hz hK P
  ·obtain ⟨n, rfl, h⟩ := AV.isI g
   obtain ⟨ao, hx, h⟩ := isO h
   refine AO.pick4 h (fun xs e k => ?_) (fun _ _ z => z.elim) (fun _ _ z => z.elim) fun _ _ z => z.elim
   obtain ⟨a, rfl, k⟩ := is1 k
   obtain ⟨z, rfl, k⟩ := AV.isI k
   subst e
   intro c α s vs Q E O S r P
   obtain ⟨v, w, rfl, ⟨a, ha, rfl⟩, ⟨u, rfl⟩⟩ := r.two
   exact q8r S hx ha k.1 k.2.1 k.2.2 P
  ·exact g.elim
 ·exact q1G g
noncomputable def q0D (is : List Int) : Int := is.foldl min (is.headD 0)
theorem q6F {is : List Int} {M : Int} (h1 : M ∈ is) (h2 : ∀ a ∈ is, M ≤ a) : M = q0D is := by
 have key : ∀ (is : List Int) (z : Int), (is.foldl min z ≤ z ∧ ∀ a ∈ is, is.foldl min z ≤ a) ∧ (is.foldl min z = z ∨ is.foldl min z ∈ is) := by
  intro is
  induction is with
  | nil => intro z; exact ⟨⟨Int.le_refl _, fun a ha => by cases ha⟩, .inl rfl⟩
  | cons b is ih =>
   intro z
   obtain ⟨⟨p1, p2⟩, p3⟩ := ih (min z b)
   simp only [v0B]
   refine ⟨⟨by lia, fun a ha => ?_⟩, ?_⟩
   ·rcases v0F.mp ha with rfl | ha
    ·lia
    ·exact p2 a ha
   ·rcases p3 with p3 | p3
    ·by_cases q : z ≤ b
     ·left; lia
     ·right; rw [p3]; rw [show min z b = b by lia]; exact v0x
    ·right; exact v0y _ p3
 cases is with
 | nil => cases h1
 | cons b is =>
  obtain ⟨⟨p1, p2⟩, p3⟩ := key (b :: is) b
  have hm : (b :: is).foldl min b ∈ b :: is := by
   rcases p3 with p3 | p3
   ·rw [p3]; exact v0x
   ·exact p3
  have a1 := h2 _ hm
  have a2 := p2 M h1
  show M = (b :: is).foldl min b
  lia
def c1T (D : DT) (id : String) (a : AV) (as : List AV) (sto : Sto) (K : AV → Sto → Prop) : Prop := cnd (decide (id = "sum")) (a.onR False fun i => onO False sto i fun ao => ao.on4 False (fun _ => False) (fun _ => False) (fun is => K (.int is.sum) sto) fun _ => False)
 (cnd (decide (id = "min")) (a.onR False fun i => onO False sto i fun ao => ao.on4 False (fun _ => False) (fun _ => False) (fun is => 0 < is.length ∧ K (.int (q0D is)) sto) fun _ => False) (R7 D (.builtin id) as [] sto K))
def c2T (D : DT) (id : String) (a b : AV) (as : List AV) (sto : Sto) (K : AV → Sto → Prop) : Prop := cnd (decide (id = "max")) (a.onI False fun a => b.onI False fun b => K (.int (if b > a then b else a)) sto) (R7 D (.builtin id) as [] sto K)
def X4 (D : DT) (f : Value) (as : List AV) (kws : List (Str × AV)) (sto : Sto) (K : AV → Sto → Prop) : Prop := U4 False kws (onV (R7 D f as [] sto K) f (fun _ => R7 D f as [] sto K) (fun _ => R7 D f as [] sto K) fun id =>
 List.casesOn as (R7 D f as [] sto K) fun a r => List.casesOn r (c1T D id a as sto K) fun b r => List.casesOn r (c2T D id a b as sto K) fun _ _ => R7 D f as [] sto K)
theorem q8s {D : DT} (DO : DOk x D) {id : String} {a : AV} (h : c1T D id a [a] sto K) : B7 x (.builtin id) ∧ CallS x (.builtin id) [a] [] loc sto K := by
 rcases N9 h with ⟨rfl, g⟩ | g <;> clear h
 ·obtain ⟨i, rfl, h⟩ := AV.isR g
  obtain ⟨ao, hx, h⟩ := isO h
  refine AO.pick4 h (fun _ _ z => z.elim) (fun _ _ z => z.elim) (fun is e k => ?_) fun _ _ z => z.elim
  subst e
  refine ⟨B0 x _, fun c α s vs ks Q E O S r rk P => ?_⟩
  obtain rfl := rk.nil
  obtain ⟨v, rfl, a, ha, rfl⟩ := r.one
  exact q8o O S hx rfl ha k P
 rcases N9 g with ⟨rfl, h⟩ | h <;> clear g
 ·obtain ⟨i, rfl, g⟩ := AV.isR h
  obtain ⟨ao, hx, g⟩ := isO g
  refine AO.pick4 g (fun _ _ z => z.elim) (fun _ _ z => z.elim) (fun is e k => ?_) fun _ _ z => z.elim
  subst e
  refine ⟨B0 x _, fun c α s vs ks Q E O S r rk P => ?_⟩
  obtain rfl := rk.nil
  obtain ⟨v, rfl, a, ha, rfl⟩ := r.one
  exact q8p O S hx rfl ha k.1 (fun M h1 h2 => q6F h1 h2 ▸ k.2) P
 ·exact H4 DO h
theorem q8t {D : DT} (DO : DOk x D) {id : String} {a b : AV} (h : c2T D id a b [a, b] sto K) : B7 x (.builtin id) ∧ CallS x (.builtin id) [a, b] [] loc sto K := by
 rcases N9 h with ⟨rfl, g⟩ | g <;> clear h
 ·obtain ⟨i, rfl, h⟩ := AV.isI g
  clear g
  obtain ⟨j, rfl, g⟩ := AV.isI h
  refine ⟨B0 x _, fun c α s vs ks Q E O S r rk P => ?_⟩
  obtain rfl := rk.nil
  obtain ⟨v, w, rfl, ⟨t, rfl⟩, ⟨u, rfl⟩⟩ := r.two
  exact q8q O S g P
 ·exact H4 DO g
theorem q3z {D : DT} (DO : DOk x D) {f : Value} {as : List AV} {kws : List (Str × AV)} (h : X4 D f as kws sto K) : B7 x f ∧ CallS x f as kws loc sto K := by
 obtain ⟨rfl, h⟩ := q3s h
 refine q3r h (fun h => H4 DO h) (fun a e h => H4 DO h) (fun T e h => H4 DO h) (fun id e h => ?_)
 subst e
 cases as with
 | nil => exact H4 DO h
 | cons a as => cases as with
  | nil => exact q8s DO h
  | cons b as => cases as with
   | nil => exact q8t DO h
   | cons _ _ => exact H4 DO h
noncomputable def I3 (D : DT) : Tab := { B6 D with bin := c8, cut := cutT, call := X4 D }
theorem D3 {D : DT} (DO : DOk x D) : D8 x (I3 D) :=
 { D6 DO with
  bin := fun o a b loc sto K h => q4w h
  cut := fun a l u loc sto K h v le ue p c α s av lv uv Q E => q6B h v le ue p c α s av lv uv Q E
  call := fun f as kws loc sto K h => q3z DO h }
end
structure XT where
 bin : Operator → AV → AV → Sto → KA1 → Option Prop
 cmp : CmpOp → AV → AV → Sto → KA1 → Option Prop
 tru : AV → Sto → KA1 → Option Prop
 call : Value → List AV → List (Str × AV) → Sto → KA1 → Option Prop
 mid : AV → Sto → Str → Option Value
 att : AV → Str → Sto → KA1 → Prop
 seta : AV → Str → AV → Sto → (Sto → Prop) → Prop
structure P1 (x : SX) (X : XT) : Prop where
 bin : ∀ o a b loc sto K P, X.bin o a b sto K = some P → P → OpS x (op2 (binaryOp o)) [a, b] loc sto K
 cmp : ∀ o a b loc sto K P, X.cmp o a b sto K = some P → P → OpS x (op2 (compareOp o)) [a, b] loc sto K
 tru : ∀ a loc sto K P, X.tru a sto K = some P → P → TrS x a loc sto K
 call : ∀ f as kws loc sto K P, X.call f as kws sto K = some P → P → B7 x f ∧ CallS x f as kws loc sto K
 mid : ∀ a sto n f, X.mid a sto n = some f → B7 x f ∧ ∀ c α loc s av pl (Q : Value × List Value → Shared → Prop) E, Ok x c → Sat x c α loc sto s → VR α a av → Q (f, [av]) s → wpAny (model pw x.w) c.A (getMethod av n pl) Q E s
 att : ∀ a n loc sto K, X.att a n sto K → ∀ c α s av ex (Q E : Value → Shared → Prop), Ok x c → Sat x c α loc sto s → VR α a av → E0 x c α loc K Q → wpAny (model pw x.w) c.A (getAttr av n ex) Q E s
 seta : ∀ o n v loc sto K, X.seta o n v sto K → ∀ c α s ov vv (Q : Unit → Shared → Prop) E, Ok x c → Sat x c α loc sto s → VR α o ov → VR α v vv → (∀ sto' s', K sto' → Sat x c α loc sto' s' → Q () s') → wpAny (model pw x.w) c.A (setAttr ov n vv) Q E s
 setam : ∀ o n v sto (K K' : Sto → Prop), (∀ s, K s → K' s) → X.seta o n v sto K → X.seta o n v sto K'
noncomputable def X0 : XT := { bin := fun _ _ _ _ _ => none, cmp := fun _ _ _ _ _ => none, tru := fun _ _ _ => none, call := fun _ _ _ _ _ => none, mid := fun _ _ _ => none, att := fun _ _ _ _ => False, seta := fun _ _ _ _ _ => False }
theorem q5z (x : SX) : P1 x X0 where
 bin := fun _ _ _ _ _ _ _ h => nomatch h
 cmp := fun _ _ _ _ _ _ _ h => nomatch h
 tru := fun _ _ _ _ _ h => nomatch h
 call := fun _ _ _ _ _ _ _ h => nomatch h
 mid := fun _ _ _ _ h => nomatch h
 att := fun _ _ _ _ _ h => h.elim
 seta := fun _ _ _ _ _ _ h => h.elim
 setam := fun _ _ _ _ _ _ _ h => h
def orP (a : Option Prop) (b : Prop) : Prop := match a with
 | some P => P
 | none => b
noncomputable def orV (a b : Option Value) : Option Value := match a with
 | some v => some v
 | none => b
noncomputable def A5 (D : DT) (X : XT) : Tab := { I3 D with
 bin := fun o a b sto K => orP (X.bin o a b sto K) (c8 o a b sto K)
 cmp := fun o a b sto K => orP (X.cmp o a b sto K) (p9 o a b sto K)
 tru := fun a sto K => orP (X.tru a sto K) (r6 a sto K)
 call := fun f as kws sto K => orP (X.call f as kws sto K) (X4 D f as kws sto K)
 mid := fun a sto n => orV (X.mid a sto n) (midT a sto n)
 att := X.att
 seta := X.seta }
section
variable {x : SX}
theorem B2 {D : DT} {X : XT} (DO : DOk x D) (XO : P1 x X) : D8 x (A5 D X) :=
 { D3 DO with
  bin := fun o a b loc sto K h => by
   cases e : X.bin o a b sto K with
   | none => exact (D3 DO).bin o a b loc sto K (show c8 o a b sto K from by have h : orP (X.bin o a b sto K) (c8 o a b sto K) := h; rw [e] at h; exact h)
   | some P => exact XO.bin o a b loc sto K P e (by have h : orP (X.bin o a b sto K) (c8 o a b sto K) := h; rw [e] at h; exact h)
  cmp := fun o a b loc sto K h => by
   cases e : X.cmp o a b sto K with
   | none => exact (D3 DO).cmp o a b loc sto K (show p9 o a b sto K from by have h : orP (X.cmp o a b sto K) (p9 o a b sto K) := h; rw [e] at h; exact h)
   | some P => exact XO.cmp o a b loc sto K P e (by have h : orP (X.cmp o a b sto K) (p9 o a b sto K) := h; rw [e] at h; exact h)
  tru := fun a loc sto K h => by
   cases e : X.tru a sto K with
   | none => exact (D3 DO).tru a loc sto K (show r6 a sto K from by have h : orP (X.tru a sto K) (r6 a sto K) := h; rw [e] at h; exact h)
   | some P => exact XO.tru a loc sto K P e (by have h : orP (X.tru a sto K) (r6 a sto K) := h; rw [e] at h; exact h)
  call := fun f as kws loc sto K h => by
   cases e : X.call f as kws sto K with
   | none => exact (D3 DO).call f as kws loc sto K (show X4 D f as kws sto K from by have h : orP (X.call f as kws sto K) (X4 D f as kws sto K) := h; rw [e] at h; exact h)
   | some P => exact XO.call f as kws loc sto K P e (by have h : orP (X.call f as kws sto K) (X4 D f as kws sto K) := h; rw [e] at h; exact h)
  mid := fun a sto n f h => by
   have h : orV (X.mid a sto n) (midT a sto n) = some f := h
   cases e : X.mid a sto n with
   | none => rw [e] at h; exact (D3 DO).mid a sto n f h
   | some v => rw [e] at h; exact XO.mid a sto n f (e.trans h)
  att := XO.att
  seta := XO.seta
  setam := XO.setam }
end
noncomputable def sC : Addr := 795
noncomputable def iC : Addr := 660
noncomputable def q1N : List (Str × Bool) := [(S "instream", true), (S "infile", true), (S "posix", true), (S "eof", true), (S "commenters", true), (S "wordchars", true), (S "whitespace", true), (S "whitespace_split", true), (S "quotes", true), (S "escape", true), (S "escapedquotes", true), (S "state", true),
 (S "pushback", true), (S "lineno", true), (S "debug", true), (S "token", true), (S "filestack", true), (S "source", true), (S "_punctuation_chars", true), (S "_StringIO__newline", false), (S "_StringIO__buf", false), (S "_StringIO__pos", false)]
noncomputable def X5 (C : Addr) (n : Str) : Bool := match lk q1N n with
 | some true => Nat.beq C sC
 | some false => Nat.beq C iC
 | none => false
noncomputable def ofB (b : Bool) : Addr := match b with
 | true => sC
 | false => iC
theorem q0E (P : Params) : ∀ p ∈ q1N, findIn (KK P) (.ref (ofB p.2)) p.1 = some none := by
 refine a0 ?_
 refine ⟨?_, ?_, ?_, ?_, ?_, ?_, ?_, ?_, ?_, ?_, ?_, ?_, ?_, ?_, ?_, ?_, ?_, ?_, ?_, ?_, ?_, ?_, trivial⟩ <;> rfl'
structure q5A (P : Params) (C : Addr) : Prop where
 ga : findIn (KK P) (.ref C) "__getattribute__" = some (some (.builtin "object.__getattribute__"))
 gm : findIn (KK P) (.ref C) "__getattr__" = some none
 hd : hasDictIn (KK P) C = true
 sa : findIn (KK P) (.ref C) "__setattr__" = some (some (.builtin "object.__setattr__"))
 po : plainOver (KK P) C = true
theorem m9 (P : Params) (b : Bool) : q5A P (ofB b) := by
 cases b
 ·exact ⟨by rfl', by rfl', by rfl', by rfl', by rfl'⟩
 ·exact ⟨by rfl', by rfl', by rfl', by rfl', by rfl'⟩
theorem w7 {P : Params} {C : Addr} {n : Str} (h : X5 C n = true) : q5A P C ∧ findIn (KK P) (.ref C) n = some none := by
 unfold X5 at h
 split at h
 ·rename_i q
  obtain rfl : C = sC := v0t h
  exact ⟨m9 P true, q0E P _ (W8 q)⟩
 ·rename_i q
  obtain rfl : C = iC := v0t h
  exact ⟨m9 P false, q0E P _ (W8 q)⟩
 ·cases h
theorem q0F {n m : Str} {t : Tok} : (Value.str m t).isStr n = Fast.sEq n m := by
 show (m == n) = _
 cases h : Fast.sEq n m with
 | true => rw [Fast.sEq_iff.mp h]; exact beq_self_eq_true m
 | false =>
  cases q : m == n with
  | false => rfl
  | true => rw [Fast.sEq_iff.mpr (beq_iff_eq.mp q).symm] at h; cases h
section
variable {α : List Addr}
theorem ER.ref {l : List (Str × AV)} : ∀ {es : List DictEntry}, ER α l es → es.any (·.refKey) = false := by
 induction l with
 | nil => intro es h; cases es with
  | nil => rfl
  | cons _ _ => exact h.elim
 | cons p l ih => intro es h; cases es with
  | nil => exact h.elim
  | cons e es =>
   obtain ⟨⟨t, k⟩, _, r⟩ := h
   rw [List.any_cons, ih r, Bool.or_false]
   show DictEntry.refKey e = false
   unfold DictEntry.refKey
   rw [k]
theorem ER.get {n : Str} {l : List (Str × AV)} : ∀ {es : List DictEntry}, ER α l es → match lk l n with
  | some v => ∃ u, PySem.W.getL n es = some (some u) ∧ VR α v u
  | none => PySem.W.getL n es = some none := by
 induction l with
 | nil => intro es h; cases es with
  | nil => rfl
  | cons _ _ => exact h.elim
 | cons p l ih => intro es h; cases es with
  | nil => exact h.elim
  | cons e es =>
   have hr := h.ref
   obtain ⟨⟨t, k⟩, v, r⟩ := h
   rw [lk]
   have ek : e.key.isStr n = Fast.sEq n p.1 := by rw [k]; exact q0F
   cases q : Fast.sEq n p.1 with
   | true => exact ⟨e.val, by unfold PySem.W.getL; rw [List.find?_cons, ek, q], v⟩
   | false =>
    have ih := ih r
    have ge : PySem.W.getL n (e :: es) = PySem.W.getL n es := by
     unfold PySem.W.getL
     rw [List.find?_cons, ek, q, hr, r.ref]
    dsimp only
    rw [ge]; exact ih
theorem ER.put {n : Str} {a : AV} {u : Value} (hu : VR α a u) {h : Int} {t : Tok} {l : List (Str × AV)} : ∀ {es : List DictEntry}, ER α l es → ER α (up l n a) (putL n h (.str n t) u es) := by
 induction l with
 | nil => intro es h; cases es with
  | nil => exact ⟨⟨t, rfl⟩, hu, trivial⟩
  | cons _ _ => exact h.elim
 | cons p l ih => intro es h; cases es with
  | nil => exact h.elim
  | cons e es =>
   obtain ⟨⟨t, k⟩, v, r⟩ := h
   have ek : e.key.isStr n = Fast.sEq n p.1 := by rw [k]; exact q0F
   rw [up, putL, ek]
   cases q : Fast.sEq n p.1 with
   | true => exact ⟨⟨t, k⟩, hu, r⟩
   | false => exact ⟨⟨t, k⟩, v, ih r⟩
theorem ER.len {l : List (Str × AV)} : ∀ {es : List DictEntry}, ER α l es → es.length = l.length := by
 induction l with
 | nil => intro es h; cases es with
  | nil => rfl
  | cons _ _ => exact h.elim
 | cons p l ih => intro es h; cases es with
  | nil => exact h.elim
  | cons e es => rw [v0U, v0U, ih h.2.2]
theorem q8u (l : Loc) (n : Str) (a : AV) : (up l n a).length ≤ l.length + 1 := by
 induction l with
 | nil => exact v0h _
 | cons p l ih =>
  rw [up]
  cases Fast.sEq n p.1 with
  | true => exact Nat.le_succ _
  | false => exact Nat.succ_le_succ ih
end
noncomputable def Y1 : AV → Bool
 | .ext v => handedIn v
 | _ => true
theorem q0G {α : List Addr} {a : AV} {v : Value} (h : Y1 a = true) (r : VR α a v) : handedIn v = true := by
 cases a with
 | none => rw [show v = .none from r]; rfl
 | bool b => rw [show v = .bool b from r]; rfl
 | int i => obtain ⟨t, rfl⟩ := r; rfl
 | str l => obtain ⟨t, rfl⟩ := r; rfl
 | bytes l => obtain ⟨t, rfl⟩ := r; rfl
 | ref i => obtain ⟨a, _, rfl⟩ := r; rfl
 | ext u => rw [show v = u from r]; exact h
section
variable {x : SX} {loc : Loc} {sto : Sto} {K : AV → Sto → Prop}
theorem Sat.inst {c : Cx} {α : List Addr} {s : Shared} (S : Sat x c α loc sto s) {i j : Nat} {C : Addr} {l : List (Str × AV)} {a : Addr} (hi : sto[i]? = some (.inst C j)) (hj : sto[j]? = some (.attrs l)) (ha : α[i]? = some a) :
  ∃ dx es n, α[j]? = some dx ∧ s.heap.get? dx = some (dictOf es n) ∧ ER α l es ∧ InstAt s.heap a (instObj C dx) C (some (dictOf es n)) := by
 obtain ⟨o, h2, dx, h3, rfl⟩ := S.objAt ha hi
 obtain ⟨o, h5, es, n, rfl, r⟩ := S.objAt h3 hj
 exact ⟨dx, es, n, h3, h5, r, ⟨h2, rfl, rfl, h5⟩⟩
theorem Sat.chg {c : Cx} {α : List Addr} {s : Shared} (S : Sat x c α loc sto s) {j : Nat} {a : Addr} {ao : AO} {ob : Obj} {h' : Heap} {m' : Str → Option Value} {n : Nat} (ha : α[j]? = some a) (hm : ∀ m, s.heap.Ns c.env.locals m → h'.Ns c.env.locals m)
  (k : ∀ b o, b ≠ a → b ≠ c.env.locals → s.heap.get? b = some o → h'.get? b = some o) (ho : h'.get? a = some ob) (r : OR α ao ob) : Sat x c α loc (sto.set j ao) { s with heap := h', toks := n } := by
 obtain ⟨⟨m, F, l⟩, ⟨ln, nd, ce⟩, off, os, gens, cel⟩ := S
 have hmem : a ∈ α := v0i ha
 refine ⟨⟨m, ⟨hm m F.ns, F.keep.then fun b o ⟨_, e⟩ d => k b o (fun q => by rw [q, (off a hmem).2] at e; cases e) (fun q => by rw [q, F.off] at e; cases e) d, F.off⟩, l⟩, ⟨by simp [ln], nd, fun i o e => ?_⟩, off, os, gens, cel⟩
 by_cases hij : j = i
 ·subst hij
  rw [v0j (by rw [← ln]; exact (q9W.mp ha).1)] at e; cases e
  exact ⟨a, ob, ha, ho, r⟩
 ·rw [v0l hij] at e
  obtain ⟨a', ob', h1, h2, h3⟩ := ce i o e
  refine ⟨a', ob', h1, k a' ob' (fun q => hij ?_) (off a' (v0i h1)).1 h2, h3⟩
  subst q
  obtain ⟨p1, q1⟩ := q9W.mp ha
  obtain ⟨p2, q2⟩ := q9W.mp h1
  exact (v0m nd).mp (q1.trans q2.symm)
theorem q6G {c : Cx} {α : List Addr} {s : Shared} {Q E : Value → Shared → Prop} (O : Ok x c) (S : Sat x c α loc sto s) {i j : Nat} {C : Addr} {l : List (Str × AV)} {n : Str} {v : AV} {a : Addr} {ex : Bool} (hi : sto[i]? = some (.inst C j)) (hj : sto[j]? = some (.attrs l)) (ha : α[i]? = some a) (hl : lk l n = some v) (ho : X5 C n = true) (hh : Y1 v = true) (hK : K v sto) (P : E0 x c α loc K Q) :
  wpAny (model pw x.w) c.A (getAttr (.ref a) n ex) Q E s := by
 obtain ⟨dx, es, k, h1, h2, h3, I⟩ := S.inst hi hj ha
 obtain ⟨C', f⟩ := w7 (P := x.w.params) ho
 have g := h3.get (n := n)
 rw [hl] at g
 obtain ⟨u, g1, g2⟩ := g
 exact get_value (S.gnd O) I C'.ga (findObj_own C'.hd f rfl g1) (q0G hh g2) (P _ _ _ _ _ hK .refl (S.toks _) g2)
theorem q4x {c : Cx} {α : List Addr} {s : Shared} {Q : Unit → Shared → Prop} {E : Value → Shared → Prop} {K : Sto → Prop} (O : Ok x c) (S : Sat x c α loc sto s) {i j : Nat} {C : Addr} {l : List (Str × AV)} {n : Str} {v : AV} {vv : Value} {a : Addr} (hi : sto[i]? = some (.inst C j)) (hj : sto[j]? = some (.attrs l)) (ha : α[i]? = some a) (ho : X5 C n = true) (hz : l.length ≤ 900) (rv : VR α v vv) (hK : K (sto.set j (.attrs (up l n v))))
  (P : ∀ sto' s', K sto' → Sat x c α loc sto' s' → Q () s') : wpAny (model pw x.w) c.A (setAttr (.ref a) n vv) Q E s := by
 obtain ⟨dx, es, k, h1, h2, h3, I⟩ := S.inst hi hj ha
 obtain ⟨C', f⟩ := w7 (P := x.w.params) ho
 obtain ⟨m, news, F, N, _, _, _⟩ := S.allN
 have hdL := (S.off dx (v0i h1)).1
 have N' : News ({} : Heap) c.env.locals s.heap ([] ++ (dx, dictOf es k) :: (List.range s.heap.objs.size).filterMap fun b => if b = c.env.locals ∨ b = dx then none else (s.heap.get? b).map fun o => (b, o)) := fun p hp => by
  rcases v0F.mp hp with rfl | hp
  ·exact ⟨h2, hdL, V9 _⟩
  ·obtain ⟨b, _, e⟩ := v0T.mp hp
   by_cases q : b = c.env.locals ∨ b = dx
   ·rw [if_pos q] at e; cases e
   ·rw [if_neg q] at e
    cases h : s.heap.get? b with
    | none => rw [h] at e; cases e
    | some o => rw [h] at e; cases e; exact ⟨h, fun z => q (.inl z), V9 _⟩
 have g := h3.get (n := n)
 refine set_plain (S.gnd O) I C'.sa (osa_dict (s := { s with toks := s.toks + 1 }) F N' (S.gnd O) I rfl C'.po (by unfold takerIn; rw [f]; rfl) C'.hd ?_ (by intro p hp; cases hp) (fun p hp => ?_) (putName_dict ..) rfl ?_ fun h' F' N'' => ?_)
 ·show (lookIn n (dictOf es k)).isSome = true
  rw [lookIn_dict]
  cases q : lk l n with
  | some w => rw [q] at g; obtain ⟨u, g1, _⟩ := g; rw [g1]; rfl
  | none => rw [q] at g; rw [g]; rfl
 ·obtain ⟨b, _, e⟩ := v0T.mp hp
  by_cases q : b = c.env.locals ∨ b = dx
  ·rw [if_pos q] at e; cases e
  ·rw [if_neg q] at e
   cases h : s.heap.get? b with
   | none => rw [h] at e; cases e
   | some o => rw [h] at e; cases e; exact fun z => q (.inr z)
 ·have := (h3.put rv (n := n) (h := PyData.keyHash x.w.params n) (t := s.toks + 1)).len
  have u := q8u l n v
  show (putL _ _ (.str n (s.toks + 1)) _ _).length ≤ _
  lia
 ·refine P _ _ hK (S.chg (m' := m) h1 (fun m₁ q => ?_) (fun b o hb hbL e => ?_) (N'' _ v0x).1 (ao := .attrs (up l n v)) ⟨_, _, rfl, h3.put rv⟩)
  ·have e : m₁ = m := by
    obtain ⟨o1, es1, p1, q1, q2, _, q3⟩ := q
    obtain ⟨o2, es2, p2, r1, r2, _, r3⟩ := F.ns
    rw [q1] at r1; cases r1
    rw [q2] at r2; cases r2
    funext y; rw [← q3, ← r3]
   rw [e]; exact F'.ns
  ·refine (N'' (b, o) (v0y _ (v0T.mpr ⟨b, v0Q.mpr (v0a e), ?_⟩))).1
   rw [if_neg (by simp [hb, hbL]), e]; rfl
def r7 (a : AV) (n : Str) (sto : Sto) (K : AV → Sto → Prop) : Prop := match a with
 | .ref i => (match sto[i]? with
  | some (.inst C j) => (match sto[j]? with
   | some (.attrs l) => (match lk l n with
    | some v => (match Y1 v && X5 C n with
     | true => K v sto
     | false => False)
    | none => False)
   | _ => False)
  | _ => False)
 | _ => False
def setX (a : AV) (n : Str) (v : AV) (sto : Sto) (K : Sto → Prop) : Prop := match a with
 | .ref i => (match sto[i]? with
  | some (.inst C j) => (match sto[j]? with
   | some (.attrs l) => (match Nat.ble l.length 900 && X5 C n with
    | true => K (sto.set j (.attrs (up l n v)))
    | false => False)
   | _ => False)
  | _ => False)
 | _ => False
theorem q1O {a : AV} {n : Str} (h : r7 a n sto K) (c : Cx) (α : List Addr) (s : Shared) (av : Value) (ex : Bool) (Q E : Value → Shared → Prop) (O : Ok x c) (S : Sat x c α loc sto s) (r : VR α a av) (P : E0 x c α loc K Q) : wpAny (model pw x.w) c.A (getAttr av n ex) Q E s := by
 unfold r7 at h
 split at h
 ·obtain ⟨a, ha, rfl⟩ := r
  split at h
  ·rename_i hi
   split at h
   ·rename_i hj
    split at h
    ·rename_i e1
     split at h
     ·rename_i e2
      obtain ⟨e2, e3⟩ := v0r.mp e2
      exact q6G O S hi hj ha e1 e3 e2 h P
     ·exact h.elim
    ·exact h.elim
   ·exact h.elim
  ·exact h.elim
 ·exact h.elim
theorem q6H {a : AV} {n : Str} {v : AV} {K : Sto → Prop} (h : setX a n v sto K) (c : Cx) (α : List Addr) (s : Shared) (ov vv : Value) (Q : Unit → Shared → Prop) (E : Value → Shared → Prop) (O : Ok x c) (S : Sat x c α loc sto s) (r : VR α a ov) (rv : VR α v vv) (P : ∀ sto' s', K sto' → Sat x c α loc sto' s' → Q () s') : wpAny (model pw x.w) c.A (setAttr ov n vv) Q E s := by
 unfold setX at h
 split at h
 ·obtain ⟨a, ha, rfl⟩ := r
  split at h
  ·rename_i hi
   split at h
   ·rename_i hj
    split at h
    ·rename_i e1
     obtain ⟨e1, e2⟩ := v0r.mp e1
     exact q4x O S hi hj ha e2 (v0v e1) rv h P
    ·exact h.elim
   ·exact h.elim
  ·exact h.elim
 ·exact h.elim
theorem q3A {a : AV} {n : Str} {v : AV} {K K' : Sto → Prop} (k : ∀ s, K s → K' s) (h : setX a n v sto K) : setX a n v sto K' := by
 unfold setX at h ⊢
 split at h
 ·split at h
  ·split at h
   ·split at h
    ·exact k _ h
    ·exact h.elim
   ·exact h.elim
  ·exact h.elim
 ·exact h.elim
end
noncomputable def q1P : List (Str × (Bool × Addr)) := [(S "read", false, 606), (S "_StringIO__check", false, 444), (S "_StringIO__translated", false, 437), (S "get_token", true, 756), (S "read_token", true, 763)]
theorem q4y (P : Params) : ∀ p ∈ q1P, findIn (KK P) (.ref (ofB p.2.1)) p.1 = some (some (.ref p.2.2)) ∧ typeIn (KK P) (.ref p.2.2) = some (.type "function") ∧ keepIn (KK P) (.ref p.2.2) = true := by
 refine a0 ?_
 refine ⟨?_, ?_, ?_, ?_, ?_, trivial⟩ <;> exact ⟨by rfl', by rfl', by rfl'⟩
noncomputable def onSm {β γ : Type} (d : γ) (o : Option β) (f : β → γ) : γ := Option.casesOn o d f
theorem jSm {β γ : Type} {o : Option β} {f : β → Option γ} {v : γ} (h : onSm none o f = some v) : ∃ y, o = some y ∧ f y = some v := by
 cases o with
 | none => exact noO h
 | some y => exact ⟨y, rfl, h⟩
noncomputable def q3B (C : Addr) (n : Str) : Option Addr := onSm none (lk q1P n) fun p => sel (Nat.beq C (ofB p.1)) (some p.2) none
theorem q3C {P : Params} {C : Addr} {n : Str} {f : Addr} (h : q3B C n = some f) : ∃ b, C = ofB b ∧ findIn (KK P) (.ref (ofB b)) n = some (some (.ref f)) ∧ typeIn (KK P) (.ref f) = some (.type "function") ∧ keepIn (KK P) (.ref f) = true := by
 obtain ⟨p, q, h⟩ := jSm h
 rcases E9 h with ⟨hb, e⟩ | e
 ·cases e; exact ⟨p.1, v0t hb, q4y P _ (W8 q)⟩
 ·exact noO e
noncomputable def AO.onIn {β : Type} (d : β) (ao : AO) (f : Addr → Nat → β) : β := AO.casesOn ao (fun _ => d) (fun _ => d) (fun _ => d) (fun _ => d) (fun _ _ _ => d) (fun _ => d) (fun _ => d) (fun _ => d) f (fun _ => d) d
noncomputable def AO.onAt {β : Type} (d : β) (ao : AO) (f : List (Str × AV) → β) : β := AO.casesOn ao (fun _ => d) (fun _ => d) (fun _ => d) (fun _ => d) (fun _ _ _ => d) (fun _ => d) (fun _ => d) (fun _ => d) (fun _ _ => d) f d
noncomputable def AO.onTu {β : Type} (d : β) (ao : AO) (f : List AV → β) : β := AO.casesOn ao (fun _ => d) f (fun _ => d) (fun _ => d) (fun _ _ _ => d) (fun _ => d) (fun _ => d) (fun _ => d) (fun _ _ => d) (fun _ => d) d
theorem AO.jIn {β : Type} {v : β} {ao : AO} {f : Addr → Nat → Option β} (h : ao.onIn none f = some v) : ∃ C j, ao = .inst C j ∧ f C j = some v := by cases ao <;> first | exact ⟨_, _, rfl, h⟩ | exact noO h
theorem AO.jAt {β : Type} {v : β} {ao : AO} {f : List (Str × AV) → Option β} (h : ao.onAt none f = some v) : ∃ l, ao = .attrs l ∧ f l = some v := by cases ao <;> first | exact ⟨_, rfl, h⟩ | exact noO h
theorem AO.jTu {β : Type} {v : β} {ao : AO} {f : List AV → Option β} (h : ao.onTu none f = some v) : ∃ l, ao = .tup l ∧ f l = some v := by cases ao <;> first | exact ⟨_, rfl, h⟩ | exact noO h
section
variable {x : SX} {loc : Loc} {sto : Sto} {K : AV → Sto → Prop}
noncomputable def midX (a : AV) (sto : Sto) (n : Str) : Option Value := a.onR none fun i => onO none sto i fun ao => ao.onIn none fun C j => onO none sto j fun bo => bo.onAt none fun l => Option.casesOn (lk l n) (onSm none (q3B C n) fun f => some (.ref f)) fun _ => none
theorem q6I {a : AV} {n : Str} {f : Value} (h : midX a sto n = some f) : q5y x a sto n f := by
 obtain ⟨i, rfl, h⟩ := AV.jR h
 obtain ⟨ao, hi, h⟩ := jO h
 obtain ⟨C, j, rfl, h⟩ := AO.jIn h
 obtain ⟨bo, hj, h⟩ := jO h
 obtain ⟨l, rfl, g⟩ := AO.jAt h
 cases hl : lk l n with
 | some _ => rw [hl] at g; exact noO g
 | none =>
  rw [hl] at g
  obtain ⟨f, hm, g⟩ := jSm g
  cases g
  obtain ⟨b, rfl, f1, f2, f3⟩ := q3C (P := x.w.params) hm
  refine ⟨fun hp hX => keeps_K f3 hp hX, fun c α loc s av pl Q E O S r hQ => ?_⟩
  obtain ⟨a, ha, rfl⟩ := r
  obtain ⟨dx, es, k, h1, h2, h3, I⟩ := S.inst hi hj ha
  have C' := m9 x.w.params b
  have g := h3.get (n := n)
  rw [hl] at g
  exact method_fn (S.gnd O) I C'.ga C'.gm f1 f2 (by show (lookIn n (dictOf es k)).map _ = _; rw [lookIn_dict, g]; rfl) hQ
theorem q6J {prog : Program} {w : World} {A : Around} {E : Value → Shared → Prop} {s : Shared} {Q : Value → Shared → Prop} {a b : Addr} {oa ob : Obj} (ha : s.heap.get? a = some oa) (hb : s.heap.get? b = some ob) (ta : oa.cls = .type "type") (n : (a == b) = false) (h : Q (.bool true) s) : wpAny (model prog w) A (compareOp .IsNot (.ref a) (.ref b)) Q E s := by
 show wpAny _ _ (isSame (.ref a) (.ref b) >>= fun r => pure (Value.bool (!r))) _ _ _
 refine v1e ?_
 obtain ⟨oc, od, odt, osl⟩ := oa
 dsimp only at ta
 subst ta
 unfold isSame
 dsimp only
 rw [n]
 refine v1e (wpAny_load ha (v1e (wpAny_load hb ?_)))
 exact v1h (v1h h)
noncomputable def c9 (a : Addr) : Bool := match Nat.beq a 660 with
 | true => true
 | false => Nat.beq a 413
theorem q0H {P : Params} {a : Addr} (h : c9 a = true) : ∃ o, (KK P).lookup a = some o ∧ o.cls = .type "type" := by
 unfold c9 at h
 split at h
 ·rename_i q
  obtain rfl : a = 660 := v0t q
  exact ⟨k660 P, by rfl', by rfl'⟩
 ·obtain rfl : a = 413 := v0t h
  exact ⟨k413 P, by rfl', by rfl'⟩
theorem q8v {i j : Nat} (q : Nat.beq i j = false) : (i == j) = false := by
 cases z : i == j with
 | false => rfl
 | true => rw [beq_iff_eq.mp z, Nat.beq_refl] at q; cases q
theorem i5 {prog : Program} {w : World} {A : Around} {E : Value → Shared → Prop} {s : Shared} {Q : Value → Shared → Prop} {a : Addr} (h : Q (.bool false) s) : wpAny (model prog w) A (compareOp .IsNot (.ref a) (.ref a)) Q E s := by
 show wpAny _ _ (isSame (.ref a) (.ref a) >>= fun r => pure (Value.bool (!r))) _ _ _
 refine v1e ?_
 unfold isSame
 dsimp only
 rw [beq_self_eq_true]
 exact v1h (v1h h)
theorem q4z {prog : Program} {w : World} {A : Around} {E : Value → Shared → Prop} {s : Shared} {Q : Value → Shared → Prop} {a b : String} (h : Q (.bool (!(decide (a = b)))) s) : wpAny (model prog w) A (compareOp .IsNot (.type a) (.type b)) Q E s := by
 have e : ((Value.type a == Value.type b) : Bool) = decide (a = b) := by
  by_cases q : a = b
  ·subst q; simp
  ·rw [decide_eq_false q]
   cases z : (Value.type a == Value.type b) with
   | false => rfl
   | true => exact absurd (Value.type.inj (beq_iff_eq.mp z)) q
 show wpAny _ _ (isSame (.type a) (.type b) >>= fun r => pure (Value.bool (!r))) _ _ _
 refine v1e ?_
 show wpAny _ _ (pure (Value.type a == Value.type b)) _ _ _
 refine v1h (v1h ?_)
 rw [e]; exact h
noncomputable def q2o : List AV → Option (List (List Nat))
 | [] => some []
 | .str l :: r => (q2o r).map (l :: ·)
 | _ => none
theorem q8w {α : List Addr} {l : List Nat} {t : Tok} : ∀ {xs : List AV} {vs : List Value} {ls : List (List Nat)}, q2o xs = some ls → VRs α xs vs →
  ∃ e : Value → Bool, (∀ y ∈ vs, MeetsSeq.EqGives y (.str ⟨l.toArray⟩ t) (e y)) ∧ vs.any e = ls.any (· == l) := by
 intro xs vs ls hx r
 refine ⟨fun y => match y with | .str z _ => z == ⟨l.toArray⟩ | _ => false, fun y hy => ?_, ?_⟩
 ·obtain ⟨z, u, rfl⟩ : ∃ z u, y = .str z u := by
   induction xs generalizing vs ls with
   | nil => cases vs with
    | nil => cases hy
    | cons _ _ => exact r.elim
   | cons a xs ih => cases vs with
    | nil => exact r.elim
    | cons v vs =>
     cases a <;> first | cases hx | skip
     rename_i z
     obtain ⟨ls', h1, _⟩ := Option.map_eq_some_iff.mp hx
     rcases v0F.mp hy with rfl | hy
     ·obtain ⟨u, e⟩ := r.1; exact ⟨_, u, e⟩
     ·exact ih h1 r.2 hy
  exact eqGives_str z _ u t
 ·induction xs generalizing vs ls with
  | nil => cases vs with
   | nil => cases hx; rfl
   | cons _ _ => exact r.elim
  | cons a xs ih => cases vs with
   | nil => exact r.elim
   | cons v vs =>
    cases a <;> first | cases hx | skip
    rename_i z
    obtain ⟨ls', h1, rfl⟩ := Option.map_eq_some_iff.mp hx
    obtain ⟨u, rfl⟩ := r.1
    rw [List.any_cons, List.any_cons, ih h1 r.2]
    congr 1
    show ((⟨z.toArray⟩ : Str) == ⟨l.toArray⟩) = _
    by_cases q : z = l
    ·subst q; simp
    ·rw [show (z == l) = false from by simpa using q]
     cases w : ((⟨z.toArray⟩ : Str) == ⟨l.toArray⟩) with
     | false => rfl
     | true =>
      have := beq_iff_eq.mp w
      injection this with h
      exact absurd (by simpa using h) q
noncomputable def isnX (a b : AV) (sto : Sto) (K : KA1) : Option Prop := AV.onE none a fun u => AV.onE none b fun v => onV none u (fun i => onV none v (fun j => some (sel (Nat.beq i j) (K (.bool false) sto) (c9 i = true ∧ c9 j = true ∧ K (.bool true) sto))) (fun _ => none) fun _ => none)
 (fun m => onV none v (fun _ => none) (fun n => some (K (.bool (!(decide (m = n)))) sto)) fun _ => none) fun _ => none
noncomputable def eqX (a b : AV) (sto : Sto) (K : KA1) : Option Prop := AV.casesOn b (AV.casesOn a (some (K (.bool true) sto)) (fun _ => none) (fun _ => none) (fun _ => some (K (.bool false) sto)) (fun _ => none) (fun _ => none) fun _ => none) (fun _ => none) (fun _ => none) (fun _ => none) (fun _ => none) (fun _ => none) fun _ => none
noncomputable def notX (a b : AV) (sto : Sto) (K : KA1) : Option Prop := a.onS none fun l => b.onS none fun r => some (K (.bool (!N8 l r)) sto)
noncomputable def inTX (a b : AV) (sto : Sto) (K : KA1) : Option Prop := a.onS none fun l => b.onR none fun i => onO none sto i fun ao => ao.onTu none fun xs => onSm none (q2o xs) fun ls => some (K (.bool (ls.any (· == l))) sto)
noncomputable def cmpX (op : CmpOp) (a b : AV) (sto : Sto) (K : KA1) : Option Prop := match op with
 | .IsNot => isnX a b sto K
 | .Eq => eqX a b sto K
 | .NotIn => notX a b sto K
 | .In => inTX a b sto K
 | _ => none
theorem q6K {a b : AV} {P : Prop} (h : isnX a b sto K = some P) (hP : P) : OpS x (op2 (compareOp .IsNot)) [a, b] loc sto K := by
 intro c α s vs Q E O S r Po
 obtain ⟨v, w, rfl, r1, r2⟩ := r.two
 have Po : ∀ q, K (.bool q) sto → Q (.bool q) s := fun q h => Po _ _ _ _ _ h .refl S rfl
 obtain ⟨u, rfl, h1⟩ := AV.jE h
 clear h
 obtain ⟨z, rfl, h⟩ := AV.jE h1
 clear h1 r
 obtain rfl : v = u := r1
 obtain rfl : w = z := r2
 refine M8 h noO (fun i e g => ?_) (fun i e g => ?_) B4 <;> clear h <;> subst e
 ·refine M8 g noO (fun j e g => ?_) B4 B4
  subst e
  have g := Option.some.inj g
  subst g
  rcases E9 (v := sel (Nat.beq i j) (K (.bool false) sto) _) rfl with ⟨q, e⟩ | e
  ·rw [v0t q]
   exact i5 (Po _ (by rw [e]; exact hP))
  ·cases q : Nat.beq i j with
   | true => rw [q] at hP; rw [v0t q]; exact i5 (Po _ hP)
   | false =>
    rw [q] at hP
    obtain ⟨h1, h2, h3⟩ := hP
    obtain ⟨oa, e1, e2⟩ := q0H (P := x.w.params) h1
    obtain ⟨ob, e3, e4⟩ := q0H (P := x.w.params) h2
    exact q6J (S.gnd O _ _ e1) (S.gnd O _ _ e3) e2 (q8v q) (Po _ h3)
 ·refine M8 g noO B4 (fun j e g => ?_) B4
  subst e
  have g := Option.some.inj g
  subst g
  exact q4z (Po _ hP)
theorem q8x {a b : AV} {P : Prop} (h : eqX a b sto K = some P) (hP : P) : OpS x (op2 (compareOp .Eq)) [a, b] loc sto K := by
 intro c α s vs Q E O S r Po
 obtain ⟨v, w, rfl, r1, r2⟩ := r.two
 have Po : ∀ q, K (.bool q) sto → Q (.bool q) s := fun q h => Po _ _ _ _ _ h .refl S rfl
 clear r
 refine AV.pickO h (fun e g => ?_) B4 B4 B4 B4 B4 B4
 clear h; subst e
 obtain rfl := r2
 refine AV.pickO g (fun e k => ?_) B4 B4 (fun l e k => ?_) B4 B4 B4 <;> clear g <;> subst e <;> have k := Option.some.inj k <;> subst k
 ·obtain rfl := r1; exact EqNone.eq_none_none (Po _ hP)
 ·obtain ⟨t, rfl⟩ := r1; exact EqNone.eq_str_none (Po _ hP)
theorem q6L {a b : AV} {P : Prop} (h : inTX a b sto K = some P) (hP : P) : OpS x (op2 (compareOp .In)) [a, b] loc sto K := by
 intro c α s vs Q E O S r Po
 obtain ⟨v, w, rfl, r1, r2⟩ := r.two
 have Po : ∀ q, K (.bool q) sto → Q (.bool q) s := fun q h => Po _ _ _ _ _ h .refl S rfl
 clear r
 obtain ⟨l, rfl, h1⟩ := AV.jS h
 clear h
 obtain ⟨i, rfl, h⟩ := AV.jR h1
 clear h1
 obtain ⟨ao, hx, h⟩ := jO h
 obtain ⟨xs, rfl, h⟩ := AO.jTu h
 obtain ⟨ls, hl, h⟩ := jSm h
 have h := Option.some.inj h
 subst h
 obtain ⟨t, rfl⟩ := r1
 obtain ⟨a, ha, rfl⟩ := r2
 obtain ⟨o, h2, h3, h4, vs, n, h5, h6⟩ := S.objAt ha hx
 obtain ⟨e, e1, e2⟩ := q8w (l := l) (t := t) hl h6
 refine SeqAt.in_tupleAt e ⟨_, h2, h3, _, h5⟩ (fun y hy => (e1 y (Array.mem_toList_iff.mpr hy)).at _ _) ?_
 rw [← Array.any_toList, e2]
 exact Po _ hP
theorem q1Q {o : CmpOp} {a b : AV} {P : Prop} (h : cmpX o a b sto K = some P) (hP : P) : OpS x (op2 (compareOp o)) [a, b] loc sto K := by
 cases o with
 | IsNot => exact q6K h hP
 | Eq => exact q8x h hP
 | In => exact q6L h hP
 | NotIn =>
  obtain ⟨l, rfl, h1⟩ := AV.jS h
  clear h
  obtain ⟨r, rfl, h⟩ := AV.jS h1
  clear h1
  have h := Option.some.inj h
  subst h
  intro c α s vs Q E O S r Po
  obtain ⟨v, w, rfl, ⟨t, rfl⟩, ⟨u, rfl⟩⟩ := r.two
  exact PySem.P.notIn_str (Po _ _ _ _ _ hP .refl S rfl)
 | _ => exact noO h
end
noncomputable def C9 (o : Obj) : FuncData := dite _ (fun h => @Data.func.elim (fun _ => FuncData) o.data h fun f => f) fun _ => default
noncomputable def D0 : DT := fun _ _ _ _ => False
theorem A9 (x : SX) : DOk x D0 := ⟨fun _ _ _ _ _ h => h.elim, fun _ _ _ _ h => h.elim⟩
section
variable {x : SX} {loc : Loc} {sto : Sto} {K : AV → Sto → Prop}
noncomputable def inX (x : SX) (i : Nat) : SX := { w := x.w, fr := x.fr, d := x.d - 1, scope := fdS (A0 i), cm := [] }
theorem BodyK.ret {k : Nat} {v : AV} {loc : Loc} (h : K v sto) : BodyK k K (.ret v) loc sto := .inr (.inr h)
def arg3 (as : List AV) (f : AV → AV → AV → Prop) : Prop := List.casesOn as False fun a r => W1 False r (f a)
def arg4 (as : List AV) (f : AV → AV → AV → AV → Prop) : Prop := List.casesOn as False fun a r => arg3 r (f a)
theorem is3 {as : List AV} {f : AV → AV → AV → Prop} (h : arg3 as f) : ∃ a b d, as = [a, b, d] ∧ f a b d := by
 cases as with
 | nil => exact False.elim h
 | cons a r => obtain ⟨b, d, e, h'⟩ := is2 (as := r) (f := f a) h; exact ⟨a, b, d, by rw [e], h'⟩
theorem is4 {as : List AV} {f : AV → AV → AV → AV → Prop} (h : arg4 as f) : ∃ a b d e, as = [a, b, d, e] ∧ f a b d e := by
 cases as with
 | nil => exact False.elim h
 | cons a r => obtain ⟨b, d, e, q, h'⟩ := is3 (as := r) (f := f a) h; exact ⟨a, b, d, e, by rw [q], h'⟩
noncomputable def AO.oS {P : Type} (d : P) (ao : AO) (f : List (List Nat) → P) : P := AO.casesOn ao (fun _ => d) (fun _ => d) (fun _ => d) (fun _ => d) (fun _ _ _ => d) f (fun _ => d) (fun _ => d) (fun _ _ => d) (fun _ => d) d
noncomputable def AO.oI {P : Type} (d : P) (ao : AO) (f : List Int → P) : P := AO.casesOn ao (fun _ => d) (fun _ => d) (fun _ => d) (fun _ => d) (fun _ _ _ => d) (fun _ => d) f (fun _ => d) (fun _ _ => d) (fun _ => d) d
def AO.oJ (ao : AO) (p : Prop) : Prop := AO.casesOn ao (fun _ => False) (fun _ => False) (fun _ => False) (fun _ => False) (fun _ _ _ => False) (fun _ => False) (fun _ => False) (fun _ => False) (fun _ _ => False) (fun _ => False) p
theorem AO.isS {ao : AO} {f : List (List Nat) → Prop} (h : ao.oS False f) : ∃ l, ao = .lsS l ∧ f l := by cases ao <;> first | exact ⟨_, rfl, h⟩ | exact False.elim h
theorem AO.isI {ao : AO} {f : List Int → Prop} (h : ao.oI False f) : ∃ l, ao = .lsI l ∧ f l := by cases ao <;> first | exact ⟨_, rfl, h⟩ | exact False.elim h
theorem AO.jI {β : Type} {v : β} {ao : AO} {f : List Int → Option β} (h : ao.oI Option.none f = some v) : ∃ l, ao = .lsI l ∧ f l = some v := by cases ao <;> first | exact ⟨_, rfl, h⟩ | exact noO h
theorem AO.isJ {ao : AO} {p : Prop} (h : ao.oJ p) : ao = .jtab ∧ p := by cases ao <;> first | exact ⟨rfl, h⟩ | exact False.elim h
def atS (sto : Sto) (i : Nat) (f : List (List Nat) → Prop) : Prop := onO False sto i fun ao => ao.oS False f
def atI (sto : Sto) (i : Nat) (f : List Int → Prop) : Prop := onO False sto i fun ao => ao.oI False f
def atJ (sto : Sto) (i : Nat) (p : Prop) : Prop := onO False sto i fun ao => ao.oJ p
theorem n4 {sto : Sto} {i : Nat} {f : List (List Nat) → Prop} (h : atS sto i f) : ∃ l, sto[i]? = some (.lsS l) ∧ f l := by
 obtain ⟨ao, e, h'⟩ := isO h; obtain ⟨l, e', h2⟩ := AO.isS h'; exact ⟨l, e.trans (congrArg some e'), h2⟩
theorem q5B {sto : Sto} {i : Nat} {f : List Int → Prop} (h : atI sto i f) : ∃ l, sto[i]? = some (.lsI l) ∧ f l := by
 obtain ⟨ao, e, h'⟩ := isO h; obtain ⟨l, e', h2⟩ := AO.isI h'; exact ⟨l, e.trans (congrArg some e'), h2⟩
theorem q2p {sto : Sto} {i : Nat} {p : Prop} (h : atJ sto i p) : sto[i]? = some .jtab ∧ p := by
 obtain ⟨ao, e, h'⟩ := isO h; obtain ⟨e', h2⟩ := AO.isJ h'; exact ⟨e.trans (congrArg some e'), h2⟩
noncomputable def dP (f : Addr) (P : List AV → Sto → KA1 → Prop) (D : DT) : DT := fun g as sto K => cnd (Nat.beq g f) (P as sto K) (D g as sto K)
theorem q5C {g f : Addr} {P Q : Prop} (h : cnd (Nat.beq g f) P Q) : (g = f ∧ P) ∨ Q := by
 cases e : Nat.beq g f with
 | true => rw [e] at h; exact .inl ⟨v0t e, h⟩
 | false => rw [e] at h; exact .inr h
theorem D9 {x : SX} {f : Addr} {P : List AV → Sto → KA1 → Prop} {D : DT} (h : ∀ as loc sto K, P as sto K → CallS x (.ref f) as [] loc sto K) (hk : B7 x (.ref f)) (DO : DOk x D) : DOk x (dP f P D) where
 fn := fun g as loc sto K h' => by
  rcases q5C h' with ⟨e, h'⟩ | h'
  ·rw [e]; exact h as loc sto K h'
  ·exact DO.fn g as loc sto K h'
 keep := fun g as sto K h' => by
  rcases q5C h' with ⟨e, _⟩ | h'
  ·rw [e]; exact hk
  ·exact DO.keep g as sto K h'
def q3D (as : List AV) (sto : Sto) (K : KA1) : Prop := W1 False as fun a b => a.onI False fun i => b.onI False fun j => K (.int (b2i (decide (j < i)) - b2i (decide (i < j)))) sto
theorem H5 (x : SX) {f : Addr} (h : keepIn (KK x.w.params) (.ref f) = true) : B7 x (.ref f) := fun hp hX => keeps_K h hp hX
theorem q8y (hd : 1 ≤ x.d) {as : List AV} (h : q3D as sto K) : CallS x (.ref 836) as [] loc sto K := by
 ·obtain ⟨a, b, rfl, g1⟩ := is2 h
  obtain ⟨i, rfl, g2⟩ := AV.isI g1
  obtain ⟨j, rfl, h⟩ := AV.isI g2
  refine q0d (o := k836 x.w.params) (fd := C9 (k836 x.w.params)) (body := fdB (A0 48)) (scope := fdS (A0 48)) (loc₀ := [(S "x", .int i), (S "y", .int j)]) (by rfl') (by rfl') (by rfl') (by rfl') (by rfl') (by rfl') (by rfl')
   (by decide +kernel) (fun α vs ks r rk => ?_) (by rfl') (show List.Nodup [S "x", S "y"] from by decide +kernel) hd ?_ (by rfl') (by rfl') (by rfl')
  ·obtain ⟨v, w, rfl, r1, r2⟩ := r.two
   obtain rfl := rk.nil
   exact ⟨[(S "x", v), (S "y", w)], fun Se => by rfl', rfl, r1, rfl, r2, trivial⟩
  ·refine A1 (D6 (A9 _)) 40 _ _ _ _ ?_
   have e : xw (inX x 48) (B6 D0) 40 (fdB (A0 48)) [(S "x", .int i), (S "y", .int j)] sto (BodyK sto.length K) = BodyK sto.length K (.ret (.int (b2i (decide (j < i)) - b2i (decide (i < j))))) [(S "x", .int i), (S "y", .int j)] sto := by rfl'
   exact e.symm ▸ BodyK.ret h
theorem q6M {n : Nat} (h : 0 < n) (hs : n ≤ 1000) : okIx (-1) n ∧ ix (-1) n = n - 1 := by
 have e : idx (-1) n = some (n - 1) := by
  unfold idx
  rw [if_neg (by lia), if_pos (by lia)]
  congr 1
  lia
 exact ⟨⟨by unfold sizeLine; lia, by rw [e]; rfl⟩, by unfold ix; rw [e]; rfl⟩
theorem sz {n : Nat} (h : n ≤ 1000000) : n ≤ sizeLine := by unfold sizeLine; lia
theorem q0I {β : Type} {l : List β} {j : Nat} {d : β} (h : j < l.length) : l.getD j d ∈ l := by
 rw [v0J, q9Z h]; exact List.getElem_mem h
noncomputable def C4 (rows : List (List Nat)) (s : List Nat) (m : Int) : List (List Nat) :=
 if rows.length = 0 then [G6 s] else
 if ((rows.getD (rows.length - 1) []).length : Int) + s.length ≤ m then rows.set (rows.length - 1) (rows.getD (rows.length - 1) [] ++ ([] ++ s)) else rows ++ [G6 s]
noncomputable def d6 (s : List Nat) (m : Int) : Loc := [(S "L", .ref 0), (S "s", .str s), (S "maxlen", .int m), (S "extra", .str [])]
theorem q4A (hd : 1 ≤ x.d) {rows : List (List Nat)} {s : List Nat} {m : Int} (hn : rows.length ≤ 1000) (hr : ∀ r ∈ rows, r.length ≤ 1000) (hs : s.length ≤ 1000) (h : K .none [.lsS (C4 rows s m)]) : CallS x (.ref 73) [.ref 0, .str s, .int m] [] loc [.lsS rows] K := by
 refine q0d (o := k73 x.w.params) (fd := C9 (k73 x.w.params)) (body := fdB (A0 13)) (scope := fdS (A0 13)) (loc₀ := d6 s m) (by rfl') (by rfl') (by rfl') (by rfl') (by rfl') (by rfl') (by rfl')
  (by decide +kernel) (fun α vs ks r rk => ?_) (by rfl') (show List.Nodup [S "L", S "s", S "maxlen", S "extra"] from by decide +kernel) hd ?_ (by rfl') (by rfl') (by rfl')
 ·obtain ⟨v, w, u, rfl, r1, r2, r3⟩ := r.three
  obtain rfl := rk.nil
  exact ⟨[(S "L", v), (S "s", w), (S "maxlen", u), (S "extra", .str (S "") 1903)], fun Se => by rfl', rfl, r1, rfl, r2, rfl, r3, rfl, ⟨_, rfl⟩, trivial⟩
 ·refine A1 (D6 (A9 _)) 40 _ _ _ _ ?_
  have e : xw (inX x 13) (B6 D0) 40 (fdB (A0 13)) (d6 s m) [.lsS rows] (BodyK 1 K) =
   ("str" = "str" ∧ (rows.length ≤ sizeLine ∧ cnd (!(!(rows.length == 0)))
    (s.length ≤ sizeLine ∧ rows.length ≤ sizeLine ∧ BodyK 1 K .next (d6 s m) [.lsS (rows ++ [G6 s])])
    (okIx (-1) rows.length ∧ (rows.getD (ix (-1) rows.length) []).length ≤ sizeLine ∧ s.length ≤ sizeLine ∧ cnd (decide (((rows.getD (ix (-1) rows.length) []).length : Int) + s.length ≤ m))
     (okIx (-1) rows.length ∧ 0 + s.length ≤ sizeLine ∧ (rows.getD (ix (-1) rows.length) []).length + ([] ++ s).length ≤ sizeLine ∧ okIx (-1) rows.length ∧ BodyK 1 K .next (d6 s m) [.lsS (rows.set (ix (-1) rows.length) (rows.getD (ix (-1) rows.length) [] ++ ([] ++ s)))])
     (s.length ≤ sizeLine ∧ rows.length ≤ sizeLine ∧ BodyK 1 K .next (d6 s m) [.lsS (rows ++ [G6 s])])))) := by kernel_rfl!
  show xw (inX x 13) (B6 D0) 40 (fdB (A0 13)) (d6 s m) [.lsS rows] (BodyK 1 K)
  rw [e]
  refine ⟨rfl, sz (by lia), cnd_iff.mpr ⟨fun h0 => ⟨sz (by lia), sz (by lia), .inr (.inr ?_)⟩, fun h0 => ?_⟩⟩
  ·have h0 : rows.length = 0 := by simpa using h0
   have hr0 : rows = [] := List.length_eq_zero_iff.mp h0
   subst hr0
   simpa [C4] using h
  ·have h0 : 0 < rows.length := by
    cases rows with
    | nil => simp at h0
    | cons a r => simp
   obtain ⟨i1, i2⟩ := q6M h0 hn
   have hl := hr _ (q0I (l := rows) (j := rows.length - 1) (d := []) (by lia))
   rw [i2]
   have hne : ¬ rows.length = 0 := by lia
   unfold C4 at h
   rw [if_neg hne] at h
   refine ⟨i1, sz (by lia), sz (by lia), cnd_iff.mpr ⟨fun hc => ?_, fun hc => ?_⟩⟩
   ·rw [if_pos (of_decide_eq_true hc)] at h
    exact ⟨i1, sz (by lia), sz (by rw [List.nil_append]; lia), i1, .inr (.inr h)⟩
   ·rw [if_neg (of_decide_eq_false hc)] at h
    exact ⟨sz (by lia), sz (by lia), .inr (.inr h)⟩
end
structure FnOk (f : Addr) (o : Params → Obj) (st : Stmt) : Prop where
 lk : ∀ P, (KK P).lookup f = some (o P)
 da : ∀ P, (o P).data = .func (C9 (o P))
 bd : ∀ P, (C9 (o P)).body = .stmts (fdB st)
 sc : ∀ P, (C9 (o P)).scope = fdS st
 gl : ∀ P, (C9 (o P)).globals = mainGlobals
 bi : ∀ P, (C9 (o P)).builtins = builtinsNs
 cd : ∀ P, codeIn (KK P) (C9 (o P)).code (C9 (o P)).qualname = true
 ce : ∀ y ∈ (fdS st).names, y.2 ≠ .cell
 co : (fdS st).isCoroutine = false
 ge : (fdS st).isGenerator = false
 ki : (fdS st).kind = .function
 kp : ∀ P, keepIn (KK P) (.ref f) = true
section
variable {x : SX} {loc : Loc} {sto : Sto} {K : AV → Sto → Prop}
noncomputable def inY (x : SX) (st : Stmt) : SX := { w := x.w, fr := x.fr, d := x.d - 1, scope := fdS st, cm := [] }
noncomputable def q2q (st : Stmt) (l : Loc) : Bool := l.all fun p => match lk (fdS st).names p.1 with | some .local => true | _ => false
theorem D5 {as : List AV} {kws : List (Str × AV)} {f : Addr} {o : Params → Obj} {st : Stmt} {loc₀ : Loc} (FN : FnOk f o st)
  (hb : ∀ α vs ks, VRs α as vs → VRs α (kws.map (·.2)) ks → ∃ binds, (∀ S, peek (KK x.w.params) S (bindArgs (C9 (o x.w.params)) ⟨vs, (kws.map (·.1)).zip ks⟩) = some binds) ∧ BR α loc₀ binds)
  (hloc : q2q st loc₀ = true) (hnd : (loc₀.map (·.1)).Nodup) (hd : 1 ≤ x.d) (h : XSs (inY x st) (fdB st) loc₀ sto (BodyK sto.length K)) : CodeS x (.ref f) as kws loc sto K :=
 q3g (FN.lk _) (FN.da _) (FN.bd _) (FN.sc _) (FN.gl _) (FN.bi _) (FN.cd _) FN.ce hb hloc hnd hd h FN.co FN.ge FN.ki
theorem FnOk.keep {f : Addr} {o : Params → Obj} {st : Stmt} (FN : FnOk f o st) (x : SX) : B7 x (.ref f) := fun hp hX => keeps_K (FN.kp _) hp hX
end
section
open Builtin
noncomputable abbrev dqN : String := "collections.deque.__new__"
noncomputable abbrev dqI : String := "collections.deque.__init__"
theorem q4B : Slot "collections.deque" "__init__" dqI :=
 .of (owner := "collections.deque") (n := "__init__") (by rw [typeLookup_type, builtinLookup_eq_fast]; rfl') (by decide +kernel) (by decide +kernel) (by decide +kernel) (by first | exact .inl (by decide +kernel) | exact .inr (by decide +kernel)) (by rw [isSubtype_type]; rfl')
theorem slot_dql : Slot "collections.deque" "__len__" "collections.deque.__len__" :=
 .of (owner := "collections.deque") (n := "__len__") (by rw [typeLookup_type, builtinLookup_eq_fast]; rfl') (by decide +kernel) (by decide +kernel) (by decide +kernel) (by first | exact .inl (by decide +kernel) | exact .inr (by decide +kernel)) (by rw [isSubtype_type]; rfl')
theorem q0J : TypeCalled "collections.deque" dqN dqI :=
 ⟨by decide +kernel, by decide +kernel, ⟨_, _, (by rfl' : mroOf (.type "collections.deque") = pure [.type "collections.deque", .type "object"])⟩, by rfl', by decide +kernel, by rw [isSubtype_type]; rfl', q4B⟩
theorem q3E : entryFor table dqN = some Builtin.«collections.deque.__new__» := entryFor_of_tree (by rfl')
theorem q3F : entryFor table dqI = some Builtin.«collections.deque.__init__» := entryFor_of_tree (by rfl')
theorem q3G : entryFor table "collections.deque.__len__" = some Builtin.«collections.deque.__len__» := entryFor_of_tree (by rfl')
noncomputable def dqO : Obj := { cls := .type "collections.deque", data := .fields #[.none, rawInt 0] }
section
variable {prog : Program} {w : World} {A : Around} {E : Value → Shared → Prop} {s : Shared}
theorem q3H {Q : Value → Shared → Prop} (h : ∀ h', (∀ b o, s.heap.get? b = some o → h'.get? b = some o) → h'.get? s.heap.objs.size = some dqO → Q (.ref s.heap.objs.size) { s with heap := h' }) : wpAny (model prog w) A (call (.type "collections.deque") []) Q E s := by
 refine callType_codes (Q₁ := fun obj s₁ => obj = .ref s.heap.objs.size ∧ s₁ = { s with heap := s.heap.push dqO }) q0J (by rfl') q3F ?_ fun obj s₁ h₁ => ?_
 ·refine codeAny_call_builtin (by decide +kernel) q3E (v1k (a := ()) (by rfl') ?_)
  refine v1e (v1k (a := (Value.type "collections.deque", [])) (by rfl') ?_)
  show wpAny _ _ (Deque.new (.type "collections.deque") #[] none >>= ret) _ _ _
  refine v1e ?_
  unfold Deque.new
  first | refine v1s (decide_eq_false (by decide)) ?_ | rw [if_neg (by decide)]
  show wpAny _ _ (newObj (.type "collections.deque") (.fields #[.none, rawInt 0]) none) _ _ _
  refine v1i ?_ (by size_fits)
  exact v1h ⟨rfl, rfl⟩
 ·obtain ⟨rfl, rfl⟩ := h₁
  have hx : (s.heap.push dqO).get? s.heap.objs.size = some dqO := v0e _ rfl
  have hk : ∀ b o, s.heap.get? b = some o → (s.heap.push dqO).get? b = some o := fun b o e => q9X _ e
  refine ⟨⟨_, hx, rfl⟩, by unfold argsOk; rfl', ?_⟩
  obtain ⟨hp, g, d, tk, os⟩ := s
  dsimp only at hx hk h ⊢
  generalize hH : hp.push dqO = H at hx hk h ⊢
  unfold Builtin.«collections.deque.__init__»
  wp_walk
  refine ⟨rfl, h _ (fun b o e => (Heap.get?_update_ne _ _ _ _ (Nat.ne_of_lt (v0a e))).trans (hk b o e)) ?_⟩
  exact (v0k _ hx rfl).trans rfl
theorem q0K {a : Addr} {Q : Bool → Shared → Prop} (ha : s.heap.get? a = some dqO) (h : ∀ tk, Q false { s with toks := tk }) : wpAny (model prog w) A (truthy (.ref a)) Q E s := by
 have hT : s.TypeIs (.ref a) "collections.deque" := ⟨_, ha, rfl⟩
 unfold truthy
 refine v1e (wpAny_callSpecial?_none (name := Str.ofString "__bool__") hT (by rw [typeLookup_type, builtinLookup_eq_fast]; rfl') ?_)
 refine v1e (wpAny_specialOf (name := Str.ofString "__len__") hT slot_dql.lookup ?_)
 have key : wpAny (model prog w) A (runValue (.builtin "len" ⟨[.ref a], []⟩)) (fun r s' => ∃ t tk, r = .int 0 t ∧ s' = { s with toks := tk }) E s := by
  refine wpAny_runValue (codeAny_builtin entry_len ?_)
  rw [Around.under_plainId plain_len _]
  unfold Builtin.«len»
  refine v1e (m := oneArg "len" _) (v1h ?_)
  refine v1e (m := callSpecial? (.ref a) (Str.ofString "__len__")) (wpAny_callSpecial?_slot (name := Str.ofString "__len__") hT slot_dql
   (wpAny_call_entry slot_dql hT q3G ?_ (by unfold argsOk; rfl')))
  obtain ⟨hp, g, d, tk, os⟩ := s
  dsimp only at ha
  unfold Builtin.«collections.deque.__len__»
  wp_walk
  refine ⟨_, rfl, ?_⟩
  refine v1e (v1g (v1h ?_))
  refine v1e (wpAny_letGo ?_)
  first | refine v1s (decide_eq_false (by decide)) ?_ | rw [if_neg (by decide)]
  show wpAny _ _ (if ((0 : Nat) : Int) ≥ 2 ^ 63 then _ else _) _ _ _
  first | refine v1s (decide_eq_false (by decide)) ?_ | rw [if_neg (by decide)]
  exact v1e (wpAny_mkInt (v1h ⟨_, _, rfl, rfl⟩))
 refine v1e (v1j key (fun r s' h' => ?_) fun _ _ e => e)
 obtain ⟨t, tk, rfl, rfl⟩ := h'
 exact v1h (h tk)
end
section
variable {x : SX} {loc : Loc} {sto : Sto} {K : AV → Sto → Prop}
noncomputable def q2r (f : Value) (as : List AV) (kws : List (Str × AV)) (sto : Sto) (K : KA1) : Option Prop := onV none f (fun _ => none) (fun T => U4 none kws (List.casesOn as (sel (decide (T = "collections.deque")) (some (K (.ref sto.length) (sto ++ [.raw dqO]))) none)
 fun a r => List.casesOn r (sel (decide (T = "type")) (AV.casesOn a none (fun _ => none) (fun _ => some (K (.ext (.type "int")) sto)) (fun _ => some (K (.ext (.type "str")) sto)) (fun _ => none) (fun _ => none) fun _ => none) (sel (decide (T = "int")) (a.onI none fun n => some (K (.int n) sto)) none)) fun _ _ => none)) fun _ => none
theorem q4C {f : Value} {as : List AV} {kws : List (Str × AV)} {P : Prop} (h : q2r f as kws sto K = some P) (hP : P) : B7 x f ∧ CallS x f as kws loc sto K := by
 obtain ⟨T, rfl, g1⟩ := jT h
 obtain ⟨rfl, g2⟩ := jK g1
 refine ⟨M9 x _, fun c α s vs ks Q E O S r rk Po => ?_⟩
 obtain rfl := rk.nil
 cases as with
 | nil =>
  rcases G4 g2 with ⟨rfl, g3⟩ | g3
  ·obtain rfl := r.nil
   refine q3H fun h' hk hx => ?_
   have S' := S.heapK (n := s.toks) hk
   obtain ⟨f1, f2, f3⟩ := S.fresh
   refine Po _ _ _ _ _ (C6 g3 hP) .push (S'.addObj f1 f2 f3 hx (ao := .raw dqO) rfl) ⟨_, ?_, rfl⟩
   rw [← S.hs.len, v0d (v0h _), v0q]; rfl
  ·exact noO g3
 | cons a as => cases as with
  | cons _ _ => exact noO g2
  | nil =>
   obtain ⟨v, rfl, r1⟩ := r.one
   rcases G4 g2 with ⟨rfl, g3⟩ | g3
   ·refine AV.pickO g3 (fun _ => noO) B4 (fun n e g => ?_) (fun n e g => ?_) B4 B4 B4 <;> clear g1 g2 g3 h <;> subst e
    ·obtain ⟨t, rfl⟩ := r1
     exact call_type_of (Tx := "int") (typeIs_int _ _ _) (by decide +kernel) (Po _ _ _ _ _ (C6 g hP) .refl S rfl)
    ·obtain ⟨t, rfl⟩ := r1
     exact call_type_of (Tx := "str") (typeIs_str _ _ _) (by decide +kernel) (Po _ _ _ _ _ (C6 g hP) .refl S rfl)
   ·rcases G4 g3 with ⟨rfl, g4⟩ | g4
    ·obtain ⟨n, rfl, g5⟩ := AV.jI g4
     obtain ⟨t, rfl⟩ := r1
     exact call_int_int (Po _ _ _ _ _ (C6 g5 hP) .refl S ⟨_, rfl⟩)
    ·exact noO g4
noncomputable def q0L (a : AV) (sto : Sto) (K : KA1) : Option Prop := a.onR none fun i => onO none sto i fun ao => AO.casesOn ao (fun _ => none) (fun _ => none) (fun _ => none) (fun o => some (o = dqO ∧ K (.bool false) sto)) (fun _ _ _ => none) (fun _ => none) (fun _ => none) (fun _ => none) (fun _ _ => none) (fun _ => none) none
theorem q6N {a : AV} {P : Prop} (h : q0L a sto K = some P) (hP : P) : TrS x a loc sto K := by
 intro c α s val Q E O S r Po
 obtain ⟨i, rfl, g1⟩ := AV.jR h
 obtain ⟨ao, hx, g2⟩ := jO g1
 cases ao with
 | raw o =>
  obtain ⟨rfl, hK⟩ := C6 g2 hP
  obtain ⟨a, ha, rfl⟩ := r
  exact q0K (S.rawAt ha hx) fun tk => Po _ _ _ _ hK .refl (S.toks tk)
 | _ => exact noO g2
noncomputable def XK : XT := { X0 with cmp := cmpX, tru := q0L, call := q2r, mid := midX, att := r7, seta := setX }
theorem D4 (x : SX) : P1 x XK :=
 { q5z x with
  cmp := fun o a b loc sto K P h hP => q1Q h hP
  tru := fun a loc sto K P h hP => q6N h hP
  call := fun f as kws loc sto K P h hP => q4C h hP
  mid := fun a sto n f h => q6I h
  att := fun a n loc sto K h c α s av ex Q E O S r P => q1O h c α s av ex Q E O S r P
  seta := fun o n v loc sto K h c α s ov vv Q E O S r rv P => q6H h c α s ov vv Q E O S r rv P
  setam := fun o n v sto K K' k h => q3A k h }
end
end
noncomputable def E7 (s : Stmt) : PySem.Str := eY (A6 (sK s) 0)
noncomputable def forNp (s : Stmt) : Pos := (A6 (sK s) 0).pos
noncomputable def Q0 (s : Stmt) : Expr := A6 (sK s) 1
noncomputable def G2 (s : Stmt) : List Stmt := (sB s).1
noncomputable def forP (s : Stmt) : Pos := s.pos
noncomputable def H6 (st : Stmt) : Stmt := .For (.Name (E7 st) (forNp st)) (Q0 st) (G2 st) [] (forP st)
section
variable {x : SX} {loc : Loc} {sto : Sto} {K : KF}
theorem XSs.mid {B pre post : List Stmt} {st : Stmt} (hB : B = pre ++ st :: post) (h : XSs x pre loc sto fun f l s => match f with
  | .next => XS x st l s (fun f l s => match f with
   | .next => XSs x post l s K
   | f => K f l s)
  | f => K f l s) : XSs x B loc sto K := by
 subst hB
 refine XSs.append (SS.mono h fun f l s hk => ?_)
 cases f with
 | next => exact XSs.cons hk
 | brk => exact hk
 | cont => exact hk
 | ret v => exact hk
theorem SS.conv {t : Cx → Sem Flow} {i : Nat} {ao : AO} (ao' : AO) (hi : sto[i]? = some ao) (f : ∀ α ob, OR α ao ob → OR α ao' ob) (h : SS x t loc (sto.set i ao') K) : SS x t loc sto K :=
 fun c α s Q E O S P => h c α s Q E O (S.conv hi (f α)) P
theorem O0 {loc : Loc} {y : Str} {a : AV} (h : loc.lookup y = none) : ∀ z v, loc.lookup z = some v → (up loc y a).lookup z = some v := fun z v e => by
 rw [Z6]
 by_cases q : z = y
 ·rw [q, h] at e; cases e
 ·rw [if_neg q]; exact e
noncomputable def q5D (e : Expr) : Bool := Nat.beq e.ctorIdx 7
theorem F5 {iter : Expr} (h : q5D iter = false) (env : Env) (v : Value) : foldedSetIterable iter env v = pure v := by
 cases iter <;> first | rfl | exact absurd h v0o.symm
end
theorem q1m (l : List Nat) : (G6 l).length ≤ l.length := by
 have := len_lstrip ⟨l.toArray⟩
 unfold G6
 rw [v0D]
 exact this
noncomputable def B1 (ls : List (List Nat)) : Nat := (ls.map List.length).sum
theorem n5 : ∀ (ls : List (List Nat)) (i : Nat) (l : List Nat), i < ls.length → B1 (ls.set i (ls.getD i [] ++ l)) = B1 ls + l.length
 | a :: ls, 0, l, _ => by simp [B1]; lia
 | a :: ls, i + 1, l, h => by
  have := n5 ls i l (by simpa using h)
  simp only [B1, List.set_cons_succ, v0K, v0V, List.getD_cons_succ] at this ⊢
  lia
theorem Y2 {ls : List (List Nat)} {l : List Nat} (h : l ∈ ls) : l.length ≤ B1 ls := by
 induction ls with
 | nil => cases h
 | cons a r ih =>
  simp only [B1, v0K, v0V] at ih ⊢
  rcases v0F.mp h with rfl | h
  ·lia
  ·have := ih h; lia
theorem i6 : ∀ (ls : List (List Nat)) (i : Nat), B1 (ls.take i) ≤ B1 ls
 | [], i => by simp [B1]
 | a :: ls, 0 => by simp [B1]
 | a :: ls, i + 1 => by
  have := i6 ls i
  simp only [B1, List.take_succ_cons, v0K, v0V] at this ⊢
  lia
theorem q2s (rows : List (List Nat)) (s : List Nat) (m : Int) : B1 (C4 rows s m) ≤ B1 rows + s.length ∧ (C4 rows s m).length ≤ rows.length + 1 := by
 have hl := q1m s
 unfold C4
 split
 ·simp [B1]; lia
 ·split
  ·rename_i h _
   rw [n5 _ _ _ (by lia)]
   simp
  ·simp [B1]; lia
noncomputable def B5 (ps : List (List Nat)) (m : Int) : List (List Nat) := ps.foldl (fun rows p => C4 rows p m) []
theorem q1n (ps : List (List Nat)) (p : List Nat) (m : Int) : B5 (ps ++ [p]) m = C4 (B5 ps m) p m := by simp [B5]
theorem Y3 (ps : List (List Nat)) (m : Int) : B1 (B5 ps m) ≤ B1 ps ∧ (B5 ps m).length ≤ ps.length := by
 have : ∀ (ps rows : List (List Nat)), B1 (ps.foldl (fun rows p => C4 rows p m) rows) ≤ B1 rows + B1 ps ∧ (ps.foldl (fun rows p => C4 rows p m) rows).length ≤ rows.length + ps.length := by
  intro ps
  induction ps with
  | nil => intro rows; simp [B1]
  | cons p ps ih =>
   intro rows
   have h1 := ih (C4 rows p m)
   have h2 := q2s rows p m
   simp only [v0B, B1, v0K, v0V, v0U] at h1 h2 ⊢
   lia
 simpa [B1, B5] using this ps []
section
variable {x : SX} {loc : Loc} {sto : Sto} {K : AV → Sto → Prop}
def sMax (as : List AV) (sto : Sto) (K : KA1) : Prop := arg3 as fun a b d => a.onR False fun i => b.onS False fun s => d.onI False fun m => atS sto i fun rows => (rows.length ≤ 1000 ∧ B1 rows ≤ 1000 ∧ s.length ≤ 1000) ∧ K .none (sto.set i (.lsS (C4 rows s m)))
theorem cMax (hd : 1 ≤ x.d) {as : List AV} (h : sMax as sto K) : CallS x (.ref 73) as [] loc sto K := by
 ·obtain ⟨a, b, d, rfl, g1⟩ := is3 h
  obtain ⟨i, rfl, g2⟩ := AV.isR g1
  obtain ⟨s, rfl, g3⟩ := AV.isS g2
  obtain ⟨m, rfl, g4⟩ := AV.isI g3
  ·obtain ⟨rows, hx, h⟩ := n4 g4
   obtain ⟨⟨h1, h2, h3⟩, hK⟩ := h
   refine CallS.lift (as₀ := [.ref 0, .str s, .int m]) (sto₀ := [.lsS rows]) (K₀ := fun v s₁ => v = .none ∧ s₁ = [.lsS (C4 rows s m)]) [i] (fun loc₀ => q4A (x := I2 x) hd h1 (fun r hr => v0S (Y2 hr) h2) h3 ⟨rfl, rfl⟩) rfl (by simp) (fun k j hk => ?_) (fun o ho => by cases v0c.mp ho; trivial) (fun a ha => ?_) rfl fun v s₁ hv => ?_
   ·cases k with
    | zero => cases hk; exact hx
    | succ k => cases hk
   ·first | exact A7 (by rfl') _ ha | exact B9 (by rfl') _ ha | exact flJ rfl (by rfl') _ ha | exact C7 (by rfl') _ ha
   ·obtain ⟨rfl, rfl⟩ := hv
    exact ⟨[.lsS (C4 rows s m)], [], rfl, rfl, fun o ho => by cases v0c.mp ho; trivial, .inl ⟨trivial, hK⟩⟩
noncomputable def D1 : DT := dP 73 sMax D0
theorem D1_ok (hd : 1 ≤ x.d) : DOk x D1 := D9 (fun as loc sto K h => cMax hd h) (H5 x (by rfl')) (A9 _)
noncomputable def lP (m : Int) : Loc := [(S "pieces", .ref 0), (S "room", .int m)]
noncomputable def lP' (m : Int) : Loc := [(S "pieces", .ref 0), (S "room", .int m), (S "rows", .ref 1)]
theorem q4D (hd : 2 ≤ x.d) {ps : List (List Nat)} {m : Int} (hn : ps.length ≤ 100) (hs : B1 ps ≤ 500) (h : K (.ref 1) [.lsS ps, .lsS (B5 ps m)]) : CallS x (.ref 862) [.ref 0, .int m] [] loc [.lsS ps] K := by
 refine q0d (o := k862 x.w.params) (fd := C9 (k862 x.w.params)) (body := fdB (A0 53)) (scope := fdS (A0 53)) (loc₀ := lP m) (by rfl') (by rfl') (by rfl') (by rfl') (by rfl') (by rfl') (by rfl')
  (by decide +kernel) (fun α vs ks r rk => ?_) (by rfl') (show List.Nodup [S "pieces", S "room"] from by decide +kernel) (by lia) ?_ (by rfl') (by rfl') (by rfl')
 ·obtain ⟨v, w, rfl, r1, r2⟩ := r.two
  obtain rfl := rk.nil
  exact ⟨[(S "pieces", v), (S "room", w)], fun Se => by rfl', rfl, r1, rfl, r2, trivial⟩
 ·show XSs (inX x 53) (fdB (A0 53)) (lP m) [.lsS ps] (BodyK 1 K)
  have hd' : 1 ≤ (inX x 53).d := by show 1 ≤ x.d - 1; lia
  have TO := D6 (x := inX x 53) (D1_ok hd')
  refine XSs.mid (pre := (fdB (A0 53)).take 1) (st := H6 (nth (fdB (A0 53)) 1)) (post := (fdB (A0 53)).drop 2) (by rfl') (A1 TO 40 _ _ _ _ ?_)
  have e1 : ∀ KK : KF, xw (inX x 53) (B6 D1) 40 ((fdB (A0 53)).take 1) (lP m) [.lsS ps] KK = (0 ≤ sizeLine ∧ KK .next (lP' m) [.lsS ps, .lst []]) := fun KK => by kernel_rfl!
  rw [e1]
  refine ⟨sz (by lia), SS.conv (i := 1) (.lsS []) rfl (fun α ob h => h) ?_⟩
  show XS (inX x 53) (H6 (nth (fdB (A0 53)) 1)) (lP' m) [.lsS ps, .lsS []] _
  refine XS.for_ (by rfl') (F5 (by rfl')) (A4 TO 40 false _ _ _ _ ?_)
  have e2 : ∀ KK : KA1, ew (inX x 53) (B6 D1) 40 false (Q0 (nth (fdB (A0 53)) 1)) (lP' m) [.lsS ps, .lsS []] KK = KK (.ref 0) [.lsS ps, .lsS []] := fun KK => by kernel_rfl!
  rw [e2]
  refine ⟨_, _, _, .lsS rfl, fun o => ⟨fun i l s => l = lP' m ∧ s = [.raw o, .lsS (B5 (ps.take i) m)], ?_, ?_, ?_, ?_⟩⟩
  ·rintro i l s ⟨rfl, rfl⟩ p hp
   cases v0c.mp hp; rfl
  ·exact ⟨rfl, rfl⟩
  ·rintro i l s o' hi hl ⟨rfl, rfl⟩
   refine A1 TO 40 _ _ _ _ ?_
   generalize hrw : B5 (ps.take i) m = rows
   generalize hp : ps.getD i [] = p
   have e3 : ∀ KK : KF, xw (inX x 53) (B6 D1) 40 (G2 (nth (fdB (A0 53)) 1)) (up (lP' m) (E7 (nth (fdB (A0 53)) 1)) (.str p)) [.raw o, .lsS rows, .raw o'] KK =
     ((rows.length ≤ 1000 ∧ B1 rows ≤ 1000 ∧ p.length ≤ 1000) ∧ KK .next (up (lP' m) (E7 (nth (fdB (A0 53)) 1)) (.str p)) [.raw o, .lsS (C4 rows p m), .raw o']) := fun KK => by kernel_rfl!
   show xw (inX x 53) (B6 D1) 40 (G2 (nth (fdB (A0 53)) 1)) (up (lP' m) (E7 (nth (fdB (A0 53)) 1)) (.str p)) [.raw o, .lsS rows, .raw o'] _
   rw [e3]
   have hsum := Y3 (ps.take i) m
   have htk : ps.take (i + 1) = ps.take i ++ [p] := by
    rw [v0O, C0 (d := []) hi, hp]; rfl
   have hpl : p.length ≤ B1 ps := Y2 (hp ▸ q0I hi)
   have hts := i6 ps i
   have htl : (ps.take i).length ≤ ps.length := by simp; lia
   rw [hrw] at hsum
   refine ⟨⟨by lia, by lia, by lia⟩, ?_⟩
   refine ⟨lP' m, [.raw o, .lsS (C4 rows p m)], [], O0 (by rfl'), rfl, rfl, fun q hq => ?_, fun q hq => ?_, rfl, ?_⟩
   ·first | exact A7 (by rfl') _ hq | exact B9 (by rfl') _ hq | exact flJ rfl (by rfl') _ hq | exact C7 (by rfl') _ hq
   ·first | exact A7 (by rfl') _ hq | exact B9 (by rfl') _ hq | exact flJ rfl (by rfl') _ hq | exact C7 (by rfl') _ hq
   ·rw [htk, q1n, hrw]
  ·rintro l s hl ⟨rfl, rfl⟩
   rw [v0R]
   refine A1 TO 40 _ _ _ _ ?_
   generalize B5 ps m = q at h ⊢
   have e4 : ∀ KK : KF, xw (inX x 53) (B6 D1) 40 ((fdB (A0 53)).drop 2) (lP' m) [.lsS ps, .lsS q] KK = KK (.ret (.ref 1)) (lP' m) [.lsS ps, .lsS q] := fun KK => by kernel_rfl!
   show xw (inX x 53) (B6 D1) 40 ((fdB (A0 53)).drop 2) (lP' m) [.lsS ps, .lsS q] _
   rw [e4]
   exact BodyK.ret h
end
theorem fn126 : FnOk 126 k126 (A0 24) := by constructor <;> rfl'
theorem fn444 : FnOk 444 k444 (cAt (A0 30) 3) := by constructor <;> rfl'
theorem fn606 : FnOk 606 k606 (cAt (A0 30) 25) := by constructor <;> rfl'
section
variable {x : SX} {loc : Loc} {sto : Sto} {K : AV → Sto → Prop}
theorem q8z (hd : 1 ≤ x.d) {n : Int} {l : List Nat} (h1 : n ≤ 1000000) (h2 : -1000000 ≤ n) (h : K (.int n) sto) : CodeS x (.ref 126) [.int n, .str l] [] loc sto K := by
 refine D5 fn126 (loc₀ := [(S "n", .int n), (S "what", .str l)]) (fun α vs ks r rk => ?_) (by rfl') (show List.Nodup [S "n", S "what"] from by decide +kernel) hd (A1 (B2 (A9 _) (D4 _)) 40 _ _ _ _ ?_)
 ·obtain ⟨v, w, rfl, r1, r2⟩ := r.two
  obtain rfl := rk.nil
  exact ⟨[(S "n", v), (S "what", w)], fun Se => by rfl', rfl, r1, rfl, r2, trivial⟩
 ·have e : ∀ KK : KF, xw (inY x (A0 24)) (A5 D0 XK) 40 (fdB (A0 24)) [(S "n", .int n), (S "what", .str l)] sto KK =
   cnd (decide (1099511627776 < n)) False (cnd (decide (n < -1099511627776)) False (KK (.ret (.int n)) [(S "n", .int n), (S "what", .str l)] sto)) := fun KK => by rfl'
  rw [show inY x (A0 24) = inY x (A0 24) from rfl, e]
  exact cnd_iff.mpr ⟨fun q => (by have := of_decide_eq_true q; lia), fun _ => cnd_iff.mpr ⟨fun q => (by have := of_decide_eq_true q; lia), fun _ => BodyK.ret h⟩⟩
noncomputable def sio (t : List Nat) (p : Int) : AO := .attrs [(S "_StringIO__newline", .str [10]), (S "_StringIO__buf", .str t), (S "_StringIO__pos", .int p)]
theorem q8A (hd : 1 ≤ x.d) {a b : AO} {t : List Nat} {p : Int} {r : Sto} (h : K .none (a :: b :: sio t p :: .inst iC 2 :: r)) : CodeS x (.ref 444) [.ref 3] [] loc (a :: b :: sio t p :: .inst iC 2 :: r) K := by
 refine D5 fn444 (loc₀ := [(S "self", .ref 3)]) (fun α vs ks r rk => ?_) (by rfl') (show List.Nodup [S "self"] from by decide +kernel) hd (A1 (B2 (A9 _) (D4 _)) 40 _ _ _ _ ?_)
 ·obtain ⟨v, rfl, r1⟩ := r.one
  obtain rfl := rk.nil
  exact ⟨[(S "self", v)], fun Se => by rfl', rfl, r1, trivial⟩
 ·have e : ∀ (KK : KF), xw (inY x (cAt (A0 30) 3)) (A5 D0 XK) 40 (fdB (cAt (A0 30) 3)) [(S "self", .ref 3)] (a :: b :: sio t p :: .inst iC 2 :: r) KK =
   KK .next [(S "self", .ref 3)] (a :: b :: sio t p :: .inst iC 2 :: r) := fun KK => by rfl'
  rw [e]
  exact BodyK.ret (v := .none) (loc := []) h
noncomputable def dRd (S₀ : Sto) : DT := dP 126 (fun as sto K => W1 False as fun a b => a.onI False fun n => b.onS False fun _ => n ≤ 1000000 ∧ -1000000 ≤ n ∧ K (.int n) sto) (dP 444 (fun as sto K => as = [.ref 3] ∧ sto = S₀ ∧ K .none sto) D0)
theorem q8B (hd : 1 ≤ x.d) {a b : AO} {t : List Nat} {p : Int} {r : Sto} : DOk x (dRd (a :: b :: sio t p :: .inst iC 2 :: r)) :=
 D9 (fun as loc sto K h => by
  obtain ⟨a, b, rfl, g1⟩ := is2 h
  obtain ⟨n, rfl, g2⟩ := AV.isI g1
  obtain ⟨l, rfl, g3⟩ := AV.isS g2
  exact (q8z hd g3.1 g3.2.1 g3.2.2).call) (fn126.keep x) (D9 (fun as loc sto K h => by
  obtain ⟨rfl, rfl, h⟩ := h
  exact (q8A hd h).call) (fn444.keep x) (A9 _))
noncomputable def rdS (t : List Nat) (n : Nat) : List Nat := if n < t.length then [t.getD n 0] else []
noncomputable def rdP (t : List Nat) (n : Nat) : Nat := if n < t.length then n + 1 else n
theorem q8C {t : List Nat} {n : Nat} (h : n < t.length) : cutL (cutL t (some (n : Int)) (some ((n : Int) + 1)) ++ (Str.ofString " ").cps.toList) none (some (-1)) = [t.getD n 0] := by
 have e : cutL t (some (n : Int)) (some ((n : Int) + 1)) = [t.getD n 0] := by
  unfold cutL
  rw [show bnd (some (n : Int)) 0 t.length = n from by unfold bnd; dsimp only; rw [if_neg (by lia)]; lia, show bnd (some ((n : Int) + 1)) t.length t.length = n + 1 from by unfold bnd; dsimp only; rw [if_neg (by lia)]; lia,
   show n + 1 - n = 1 by lia, List.drop_eq_getElem_cons h, v0J, q9Z h]
  rfl
 rw [e]
 have : ∀ c : Nat, cutL ([c] ++ (Str.ofString " ").cps.toList) none (some (-1)) = [c] := fun c => by rfl'
 exact this _
theorem q6O {t : List Nat} {lo hi : Option Int} : (cutL t lo hi).length ≤ t.length := j0 t lo hi
theorem cRead (hd : 2 ≤ x.d) {a b : AO} {t : List Nat} {n : Nat} {r : Sto} (hn : n ≤ t.length) (hz : t.length ≤ 100000) (h : K (.str (rdS t n)) (a :: b :: sio t (rdP t n : Nat) :: .inst iC 2 :: r)) : CodeS x (.ref 606) [.ref 3, .int 1] [] loc (a :: b :: sio t (n : Nat) :: .inst iC 2 :: r) K := by
 refine D5 fn606 (loc₀ := [(S "self", .ref 3), (S "size", .int 1)]) (fun α vs ks r rk => ?_) (by rfl') (show List.Nodup [S "self", S "size"] from by decide +kernel) (by lia) (A1 (B2 (q8B (a := a) (b := b) (t := t) (p := n) (r := r) (by show 1 ≤ x.d - 1; lia)) (D4 _)) 40 _ _ _ _ ?_)
 ·obtain ⟨v, w, rfl, r1, r2⟩ := r.two
  obtain rfl := rk.nil
  exact ⟨[(S "self", v), (S "size", w)], fun Se => by rfl', rfl, r1, rfl, r2, trivial⟩
 ·generalize hp : ((n : Nat) : Int) = p
  have e : ∀ (KK : KF), xw (inY x (cAt (A0 30) 25)) (A5 (dRd (a :: b :: sio t p :: .inst iC 2 :: r)) XK) 40 (fdB (cAt (A0 30) 25)) [(S "self", .ref 3), (S "size", .int 1)] (a :: b :: sio t p :: .inst iC 2 :: r) KK =
   ((1 : Int) ≤ 1000000 ∧ (-1000000 : Int) ≤ 1 ∧ [AV.ref 3] = [AV.ref 3] ∧ (a :: b :: sio t p :: .inst iC 2 :: r : Sto) = a :: b :: sio t p :: .inst iC 2 :: r ∧ t.length ≤ sizeLine ∧
    cnd (decide ((t.length : Int) ≤ p)) (KK (.ret (.str [])) [(S "self", .ref 3), (S "size", .int 1), (S "start", .int p), (S "stop", .int t.length)] (a :: b :: sio t p :: .inst iC 2 :: r))
     (cnd (decide (p + 1 < (t.length : Int)))
      (t.length ≤ sizeLine ∧ (cutL t (some p) (some (p + 1))).length + (Str.ofString " ").cps.toList.length ≤ sizeLine ∧ (cutL t (some p) (some (p + 1)) ++ (Str.ofString " ").cps.toList).length ≤ sizeLine ∧
       KK (.ret (.str (cutL (cutL t (some p) (some (p + 1)) ++ (Str.ofString " ").cps.toList) none (some (-1))))) [(S "self", .ref 3), (S "size", .int 1), (S "start", .int p), (S "stop", .int (p + 1))] (a :: b :: sio t (p + 1) :: .inst iC 2 :: r))
      (t.length ≤ sizeLine ∧ (cutL t (some p) (some (t.length : Int))).length + (Str.ofString " ").cps.toList.length ≤ sizeLine ∧ (cutL t (some p) (some (t.length : Int)) ++ (Str.ofString " ").cps.toList).length ≤ sizeLine ∧
       KK (.ret (.str (cutL (cutL t (some p) (some (t.length : Int)) ++ (Str.ofString " ").cps.toList) none (some (-1))))) [(S "self", .ref 3), (S "size", .int 1), (S "start", .int p), (S "stop", .int t.length)] (a :: b :: sio t (t.length : Int) :: .inst iC 2 :: r)))) := fun KK => by rfl'
  rw [e]
  subst hp
  have s1 : (Str.ofString " ").cps.toList.length = 1 := by rfl'
  have c1 := q6O (t := t) (lo := some (n : Int)) (hi := some ((n : Int) + 1))
  refine ⟨by decide, by decide, rfl, rfl, sz (by lia), cnd_iff.mpr ⟨fun q => ?_, fun q => ?_⟩⟩
  ·have q := of_decide_eq_true q
   unfold rdS rdP at h
   rw [if_neg (by lia), if_neg (by lia)] at h
   exact BodyK.ret h
  ·have q := of_decide_eq_false q
   have hl : n < t.length := by lia
   have ec := q8C hl
   unfold rdS rdP at h
   rw [if_pos hl, if_pos hl, Int.natCast_add] at h
   refine cnd_iff.mpr ⟨fun _ => ⟨sz (by lia), sz (by lia), sz (by rw [v0G]; lia), ?_⟩, fun q2 => ?_⟩
   ·rw [ec]; exact BodyK.ret h
   ·have q2 := of_decide_eq_false q2
    have e2 : (t.length : Int) = (n : Int) + 1 := by lia
    refine ⟨sz (by lia), sz (by rw [e2]; lia), sz (by rw [v0G, e2]; lia), ?_⟩
    rw [e2, ec]; exact BodyK.ret h
end
noncomputable def WhileK (Inv : Nat → Loc → Sto → Prop) (K : KF) (n k : Nat) : KF := fun f loc' sto' => match f with
 | .brk => K .next loc' sto'
 | .ret v => K (.ret v) loc' sto'
 | _ => ∃ m loc₂ s₂ junk, m < n ∧ (∀ y v, loc₂.lookup y = some v → loc'.lookup y = some v) ∧ sto' = s₂ ++ junk ∧ s₂.length = k ∧ P9 k loc₂ ∧ C2 k s₂ ∧ Inv m loc₂ s₂
section
variable {x : SX} {loc : Loc} {sto : Sto} {K : KF}
theorem XS.while_ {test : Expr} {body : List Stmt} {pos : Pos} (Inv : Nat → Loc → Sto → Prop) (n₀ : Nat) (h0 : Inv n₀ loc sto)
  (turn : ∀ n loc s, s.length = sto.length → Inv n loc s → TS x test loc s fun b s₁ => I0 b (XSs x body loc s₁ (WhileK Inv K n sto.length)) (K .next loc s₁)) : XS x (.While test body [] pos) loc sto K := by
 intro c α s Q E O S P
 refine wpAny_While ?_
 have cm := S.cmLt
 refine codeAny_whileLoop (fun n s' => ∃ loc sto', Sat x c α loc sto' s' ∧ Inv n loc sto') ?_ n₀ ⟨loc, sto, S, h0⟩
 rintro n s' ⟨loc, sto', S', hI⟩
 have ln : sto'.length = sto.length := S'.hs.len.symm.trans S.hs.len
 refine turn n loc sto' ln hI c α s' _ _ O S' fun b s1 α1 t1 hb g1 S1 => ?_
 cases b with
 | false =>
  first | refine v1s (decide_eq_false v0o) ?_ | rw [if_neg v0o]
  exact v1n (P .next _ _ _ _ _ hb g1 S1 rfl)
 | true =>
  first | refine v1r (decide_eq_true rfl) ?_ | rw [if_pos rfl]
  refine hb c α1 t1 _ _ O S1 fun f l2 s2 α2 t2 fl h2 g2 S2 r2 => ?_
  have again : (∃ m loc₂ s₂ junk, m < n ∧ (∀ y v, loc₂.lookup y = some v → l2.lookup y = some v) ∧ s2 = s₂ ++ junk ∧ s₂.length = sto.length ∧ P9 sto.length loc₂ ∧ C2 sto.length s₂ ∧ Inv m loc₂ s₂) → ∃ m, m < n ∧ ∃ loc sto', Sat x c α loc sto' t2 ∧ Inv m loc sto' := by
   rintro ⟨m, loc₂, s₂, junk, hm, hsub, rfl, hl, lt, st, hv⟩
   obtain ⟨β, rfl⟩ := g1.trans g2
   have la := S.hs.len
   exact ⟨m, hm, loc₂, s₂, Sat.trunc (S2.forget hsub) (hl.trans la.symm) (la ▸ lt) (la ▸ st) cm, hv⟩
  cases f with
  | next => obtain rfl : fl = .next := r2; exact again h2
  | cont => obtain rfl : fl = .cont := r2; exact again h2
  | brk => obtain rfl : fl = .brk := r2; exact P .next _ _ _ _ _ h2 (g1.trans g2) S2 rfl
  | ret v => obtain ⟨u, rfl, hu⟩ := r2; exact P (.ret v) _ _ _ _ _ h2 (g1.trans g2) S2 ⟨u, rfl, hu⟩
theorem TS.constTrue {k : Nat} {pos : Pos} {K : AV → Sto → Prop} (h : K (.bool true) sto) : TS x (.Constant (.bool true) k pos) loc sto K := by
 intro c α s Q E O S P
 exact wpAny_isTrue_value (wpAny_Constant_bool (wpAny_truthy_bool (P _ _ _ _ h .refl S))) rfl
end
section
variable {x : SX} {loc : Loc} {sto : Sto} {K : AV → Sto → Prop} {c : Cx} {α : List Addr} {s : Shared}
noncomputable def dn (x : SX) : SX := { w := x.w, fr := x.fr, d := x.d - 1, scope := x.scope, cm := x.cm }
noncomputable def atA (c : Cx) (A : Around) : Cx := { A := A, base := c.base, fs := c.fs, h₀ := c.h₀, outer := c.outer, env := c.env, os := c.os, gd := c.gd }
theorem Ok.at (O : Ok x c) {A : Around} (h1 : A.handled = c.A.handled) (h2 : A.depth = c.A.depth) (h3 : A.frames = c.A.frames) (h4 : A.units ≤ c.A.units + 5) (hd : 1 ≤ x.d) : Ok (dn x) (atA c A) :=
 ⟨fun q => ⟨h3.trans (O.below q).1, (O.below q).2⟩, O.sub, O.dis, O.fd, O.gnd, O.top, h1.trans O.hh, by have := O.dep; show A.depth + (x.d - 1) < _; lia, by have := O.units; show A.units + 5 * (x.d - 1) + 200 < _; lia, O.kind, O.scope, O.glob, O.bi⟩
theorem Sat.at (S : Sat x c α loc sto s) (A : Around) : Sat (dn x) (atA c A) α loc sto s := ⟨S.fr, S.hs, S.off, S.os, S.gens, S.cel⟩
theorem Sat.off_ {A : Around} (S : Sat (dn x) (atA c A) α loc sto s) : Sat x c α loc sto s := ⟨S.fr, S.hs, S.off, S.os, S.gens, S.cel⟩
theorem CodeS.at {f : Value} {as : List AV} {kws : List (Str × AV)} (h : CodeS (dn x) f as kws loc sto K) (O : Ok x c) (S : Sat x c α loc sto s) {A : Around} (h1 : A.handled = c.A.handled) (h2 : A.depth = c.A.depth) (h3 : A.frames = c.A.frames) (h4 : A.units ≤ c.A.units + 5) (hd : 1 ≤ x.d) {vs ks : List Value} {R : Result → Shared → Prop}
  (rv : VRs α as vs) (rk : VRs α (kws.map (·.2)) ks) (P : ∀ v sto' α' s' val, K v sto' → Ex α α' → Sat x c α' loc sto' s' → VR α' v val → R (.ok (.ret val)) s') : codeAny (model pw x.w) A (.call f ⟨vs, (kws.map (·.1)).zip ks⟩) R s :=
 h (atA c A) α s vs ks R (O.at h1 h2 h3 h4 hd) (S.at A) rv rk fun v sto' α' s' val hv g S' r => P v sto' α' s' val hv g S'.off_ r
theorem fn726 : FnOk 726 k726 (cAt (A0 40) 1) := by constructor <;> rfl'
theorem q8D (hd : 1 ≤ x.d) {i j : Nat} {l : List (Str × AV)} {v : AV} (hi : sto[i]? = some (.inst sC j)) (hj : sto[j]? = some (.attrs l)) (hl : lk l (S "_punctuation_chars") = some v) (hh : Y1 v = true) (h : K v sto) : CodeS x (.ref 726) [.ref i] [] loc sto K := by
 refine D5 fn726 (loc₀ := [(S "self", .ref i)]) (fun α vs ks r rk => ?_) (by rfl') (show List.Nodup [S "self"] from by decide +kernel) hd (A1 (B2 (A9 _) (D4 _)) 40 _ _ _ _ ?_)
 ·obtain ⟨v, rfl, r1⟩ := r.one
  obtain rfl := rk.nil
  exact ⟨[(S "self", v)], fun Se => by rfl', rfl, r1, trivial⟩
 ·have e : ∀ (KK : KF), xw (inY x (cAt (A0 40) 1)) (A5 D0 XK) 40 (fdB (cAt (A0 40) 1)) [(S "self", .ref i)] sto KK = r7 (.ref i) (S "_punctuation_chars") sto (fun v s => KK (.ret v) [(S "self", .ref i)] s) := fun KK => by rfl'
  rw [e]
  unfold r7
  simp only [hi, hj, hl, hh]
  exact BodyK.ret h
structure q6P (P : Params) : Prop where
 fi : findIn (KK P) (.ref sC) (S "punctuation_chars") = some (some (.ref 727))
 sp : specialIn (KK P) (.ref 727) "__get__" = some (some (.builtin "property.__get__"))
 ta : takesIn (KK P) (.ref 727) = some true
 re : ∃ rest, recIn (KK P) 727 "property" = some (.ref 726 :: rest)
 cl : (clsIn (KK P) sC).isSome = true
theorem q4E (P : Params) : q6P P := ⟨by rfl', by rfl', by rfl', ⟨[.none, .none, .none, .str (S "punctuation_chars") 2743, .bool false], by rfl'⟩, by rfl'⟩
theorem q3I {Q E : Value → Shared → Prop} (hd : 2 ≤ x.d) (O : Ok x c) (S₁ : Sat x c α loc sto s) {i j : Nat} {l : List (Str × AV)} {v : AV} {a : Addr} {ex : Bool} (hi : sto[i]? = some (.inst sC j)) (hj : sto[j]? = some (.attrs l)) (ha : α[i]? = some a) (hl : lk l (S "_punctuation_chars") = some v) (hh : Y1 v = true) (hK : K v sto) (P : E0 x c α loc K Q) :
  wpAny (model pw x.w) c.A (getAttr (.ref a) (S "punctuation_chars") ex) Q E s := by
 obtain ⟨dx, es, k, h1, h2, h3, I⟩ := S₁.inst hi hj ha
 have C' := m9 x.w.params true
 obtain ⟨f1, f2, f3, ⟨rest, f4⟩, f5⟩ := q4E x.w.params
 refine get_bind (S₁.gnd O) I C'.ga (findObj_data f5 f1 f2 f3) C'.gm (v1q (prop_get (s := { s with toks := s.toks + 1 }) (S₁.gnd O) f4 ?_))
 refine CodeS.at (A := c.A.in1) (K := fun v s => Y1 v = true ∧ K v s) (as := [.ref i]) (kws := []) (ks := []) (vs := [.ref a]) (q8D (by show 1 ≤ x.d - 1; lia) hi hj hl hh ⟨hh, hK⟩) O (S₁.toks (s.toks + 1)) rfl rfl rfl (by show c.A.units + 1 ≤ c.A.units + 5; lia) (by lia) ⟨⟨a, ha, rfl⟩, trivial⟩ trivial fun v sto' α' s' val hv g S' r => ?_
 show wpAny _ _ (handedOut val) _ _ _
 rw [handedOut_of (q0G hv.1 r)]
 exact v1h (P _ _ _ _ _ hv.2 g S' r)
def attP (a : AV) (n : Str) (sto : Sto) (K : KA1) : Prop := match a with
 | .ref i => (match Fast.sEq n (S "punctuation_chars") with
  | true => (match sto[i]? with
   | some (.inst C j) => (match sto[j]? with
    | some (.attrs l) => (match lk l (S "_punctuation_chars") with
     | some v => (match Y1 v && Nat.beq C sC with
      | true => K v sto
      | false => False)
     | none => False)
    | _ => False)
   | _ => False)
  | false => r7 a n sto K)
 | _ => False
theorem q6Q (hd : 2 ≤ x.d) {a : AV} {n : Str} (h : attP a n sto K) (c : Cx) (α : List Addr) (s : Shared) (av : Value) (ex : Bool) (Q E : Value → Shared → Prop) (O : Ok x c) (S₁ : Sat x c α loc sto s) (r : VR α a av) (P : E0 x c α loc K Q) : wpAny (model pw x.w) c.A (getAttr av n ex) Q E s := by
 unfold attP at h
 split at h
 ·split at h
  ·rename_i q
   obtain ⟨a, ha, rfl⟩ := r
   rw [Fast.sEq_iff.mp q]
   split at h
   ·rename_i hi
    split at h
    ·rename_i hj
     split at h
     ·rename_i e2
      split at h
      ·rename_i e1
       obtain ⟨e1, e3⟩ := v0r.mp e1
       rw [v0t e3] at hi
       exact q3I hd O S₁ hi hj ha e2 e1 h P
      ·exact h.elim
     ·exact h.elim
    ·exact h.elim
   ·exact h.elim
  ·exact q1O h c α s av ex Q E O S₁ r P
 ·exact h.elim
noncomputable def XP : XT := { X0 with cmp := cmpX, tru := q0L, call := q2r, mid := midX, att := attP, seta := setX }
theorem q5E {x : SX} (hd : 2 ≤ x.d) : P1 x XP :=
 { D4 x with att := fun a n loc sto K h c α s av ex Q E O S r P => q6Q hd h c α s av ex Q E O S r P }
end
noncomputable def tx (s : String) : List Nat := (S s).cps.toList
noncomputable def figs : List Nat := tx "0123456789ABCDEF"
noncomputable def r8 : List Nat := tx "ABCDEFGHIJKLMNOPQRSTUVWXYZabcdefghijklmnopqrstuvwxyz0123456789-!*+/"
noncomputable def fig (k : Int) : List Nat := [figs.getD (ix k figs.length) 0]
noncomputable def enc (n : Int) : List Nat := match [n.toNat] == tx " " with
 | true => tx "_"
 | false => match N8 [n.toNat] r8 with
  | true => [n.toNat]
  | false => (tx "=" ++ fig (n.fdiv 16)) ++ fig (n.fmod 16)
noncomputable def E6 (bs : List UInt8) : List Nat := bs.foldl (fun p b => p ++ enc (b.toNat : Int)) []
theorem r9 {l r : Loc} : ∀ z v, l.lookup z = some v → (l ++ r).lookup z = some v := fun z v e => by
 rw [List.lookup_append, e]; rfl
theorem q4F : ∀ n : Nat, n < 256 → Builtin.divisionGoesByPylong (n : Int) 16 = false ∧ (idx ((n : Int).fdiv 16) 16).isSome = true ∧ (idx ((n : Int).fmod 16) 16).isSome = true := by decide +kernel
theorem Y4 : figs.length = 16 := by rfl'
theorem tx1 : (tx "=").length = 1 ∧ (tx "_").length = 1 := ⟨by rfl', by rfl'⟩
theorem q1R (n : Int) : (enc n).length ≤ 3 := by
 unfold enc
 split
 ·exact of_decide_eq_true (by rfl')
 ·split
  ·simp
  ·simp [fig, show (tx "=").length = 1 from by rfl']
theorem q0M (bs : List UInt8) (b : UInt8) : E6 (bs ++ [b]) = E6 bs ++ enc (b.toNat : Int) := by simp [E6]
theorem q1o (bs : List UInt8) : (E6 bs).length ≤ 3 * bs.length := by
 have : ∀ (bs : List UInt8) (p : List Nat), (bs.foldl (fun p b => p ++ enc (b.toNat : Int)) p).length ≤ p.length + 3 * bs.length := by
  intro bs
  induction bs with
  | nil => intro p; simp
  | cons b bs ih =>
   intro p
   have h1 := ih (p ++ enc (b.toNat : Int))
   have h2 := q1R (b.toNat : Int)
   simp only [v0B, v0G, v0U] at h1 ⊢
   lia
 simpa [E6] using this bs []
section
variable {x : SX} {loc : Loc} {sto : Sto} {K : AV → Sto → Prop}
noncomputable def lQ (bs : List UInt8) (p : List Nat) : Loc := [(S "group", .bytes bs), (S "figures", .str figs), (S "piece", .str p)]
noncomputable def lQ' (bs : List UInt8) (p : List Nat) (n : Int) : Loc := [(S "group", .bytes bs), (S "figures", .str figs), (S "piece", .str p), (S "octet", .int n), (S "c_v", .str [n.toNat])]
theorem q6R (hd : 1 ≤ x.d) {bs : List UInt8} (hn : bs.length ≤ 100) (h : K (.str (E6 bs)) []) : CallS x (.ref 848) [.bytes bs] [] loc [] K := by
 refine q0d (o := k848 x.w.params) (fd := C9 (k848 x.w.params)) (body := fdB (A0 51)) (scope := fdS (A0 51)) (loc₀ := [(S "group", .bytes bs)]) (by rfl') (by rfl') (by rfl') (by rfl') (by rfl') (by rfl') (by rfl')
  (by decide +kernel) (fun α vs ks r rk => ?_) (by rfl') (show List.Nodup [S "group"] from by decide +kernel) (by lia) ?_ (by rfl') (by rfl') (by rfl')
 ·obtain ⟨v, rfl, r1⟩ := r.one
  obtain rfl := rk.nil
  exact ⟨[(S "group", v)], fun Se => by rfl', rfl, r1, trivial⟩
 ·show XSs (inX x 51) (fdB (A0 51)) [(S "group", .bytes bs)] [] (BodyK 0 K)
  have TO := D6 (x := inX x 51) (A9 _)
  refine XSs.mid (pre := (fdB (A0 51)).take 2) (st := H6 (nth (fdB (A0 51)) 2)) (post := (fdB (A0 51)).drop 3) (by rfl') (A1 TO 40 _ _ _ _ ?_)
  have e1 : ∀ KK : KF, xw (inX x 51) (B6 D0) 40 ((fdB (A0 51)).take 2) [(S "group", .bytes bs)] [] KK = KK .next (lQ bs []) [] := fun KK => by kernel_rfl!
  rw [e1]
  refine XS.for_ (by rfl') (F5 (by rfl')) (A4 TO 40 false _ _ _ _ ?_)
  have e2 : ∀ KK : KA1, ew (inX x 51) (B6 D0) 40 false (Q0 (nth (fdB (A0 51)) 2)) (lQ bs []) [] KK = KK (.bytes bs) [] := fun KK => by kernel_rfl!
  rw [e2]
  refine ⟨_, _, _, .bytes, fun o => ⟨fun i l s => l = lQ bs (E6 (bs.take i)) ∧ s = [], ?_, ?_, ?_, ?_⟩⟩
  ·intro i l s _ p hp; cases hp
  ·exact ⟨rfl, rfl⟩
  ·rintro i l s o' hi hl ⟨rfl, rfl⟩
   refine A1 TO 40 _ _ _ _ ?_
   have hpl := q1o (bs.take i)
   have htk : bs.take (i + 1) = bs.take i ++ [bs.getD i 0] := by rw [v0O, C0 (d := 0) hi]; rfl
   have hb := (bs.getD i 0).toNat_lt
   generalize hrw : E6 (bs.take i) = P at hpl ⊢
   generalize hp : ((bs.getD i 0).toNat : Int) = n at hb ⊢
   have hP : P.length ≤ 300 := by simp at hpl; lia
   have e3 : ∀ KK : KF, xw (inX x 51) (B6 D0) 40 (G2 (nth (fdB (A0 51)) 2)) (up (lQ bs P) (E7 (nth (fdB (A0 51)) 2)) (.int n)) [.raw o'] KK =
     (0 ≤ n ∧ n ≤ 1114111 ∧ cnd ([n.toNat] == tx " ") (P.length + (tx "_").length ≤ sizeLine ∧ KK .next (lQ' bs (P ++ tx "_") n) [.raw o'])
      (cnd (N8 [n.toNat] r8) (P.length + [n.toNat].length ≤ sizeLine ∧ KK .next (lQ' bs (P ++ [n.toNat]) n) [.raw o'])
       ((16 : Int) ≠ 0 ∧ Builtin.divisionGoesByPylong n 16 = false ∧ okIx (n.fdiv 16) figs.length ∧ (tx "=").length + (fig (n.fdiv 16)).length ≤ sizeLine ∧ (16 : Int) ≠ 0 ∧ okIx (n.fmod 16) figs.length ∧
        (tx "=" ++ fig (n.fdiv 16)).length + (fig (n.fmod 16)).length ≤ sizeLine ∧ P.length + ((tx "=" ++ fig (n.fdiv 16)) ++ fig (n.fmod 16)).length ≤ sizeLine ∧ KK .next (lQ' bs (P ++ ((tx "=" ++ fig (n.fdiv 16)) ++ fig (n.fmod 16))) n) [.raw o']))) := fun KK => by kernel_rfl!
   show xw (inX x 51) (B6 D0) 40 (G2 (nth (fdB (A0 51)) 2)) (up (lQ bs P) (E7 (nth (fdB (A0 51)) 2)) (.int n)) [.raw o'] _
   rw [e3]
   obtain ⟨k, rfl⟩ : ∃ k : Nat, n = (k : Int) := ⟨(bs.getD i 0).toNat, hp.symm⟩
   have hk : k < 256 := by
    have e : (bs.getD i 0).toNat = k := by exact_mod_cast hp
    rw [e] at hb; simpa using hb
   obtain ⟨d1, d2, d3⟩ := q4F k hk
   have fin : ∀ e : List Nat, e = enc (k : Int) → q2j (fun l s => l = lQ bs (E6 (bs.take (i + 1))) ∧ s = []) (fun f l s => match f with | .next => XSs (inX x 51) ((fdB (A0 51)).drop 3) l s (BodyK 0 K) | f => BodyK 0 K f l s) 0 o' .next (lQ' bs (P ++ e) (k : Int)) [.raw o'] := fun e he =>
    ⟨lQ bs (P ++ e), [], [], r9 (r := [(S "octet", .int (k : Int)), (S "c_v", .str [(k : Int).toNat])]), rfl, rfl, B9 (by rfl'), fun q hq => (by cases hq), (by rw [htk, q0M, hrw, hp, he]), rfl⟩
   obtain ⟨t1, t2⟩ := tx1
   have f1 : ∀ z, (fig z).length = 1 := fun z => rfl
   refine ⟨by lia, by lia, cnd_iff.mpr ⟨fun hc => ⟨sz (by lia), fin _ (by unfold enc; rw [hc])⟩, fun hc => cnd_iff.mpr ⟨fun hc' => ⟨sz (by simp; lia), fin _ (by unfold enc; rw [hc, hc'])⟩, fun hc' => ?_⟩⟩⟩
   have q1 : (tx "=" ++ fig ((k : Int).fdiv 16)).length = 2 := by rw [v0G, t1, f1]
   have q2 : ((tx "=" ++ fig ((k : Int).fdiv 16)) ++ fig ((k : Int).fmod 16)).length = 3 := by rw [v0G, q1, f1]
   exact ⟨by decide, d1, ⟨by rw [Y4]; exact sz (by lia), by rw [Y4]; exact d2⟩, sz (by rw [t1, f1]; lia), by decide, ⟨by rw [Y4]; exact sz (by lia), by rw [Y4]; exact d3⟩, sz (by rw [q1, f1]; lia), sz (by rw [q2]; lia), fin _ (by unfold enc; rw [hc, hc'])⟩
  ·rintro l s hl ⟨rfl, rfl⟩
   rw [v0R]
   refine A1 TO 40 _ _ _ _ ?_
   generalize E6 bs = q at h ⊢
   have e4 : ∀ KK : KF, xw (inX x 51) (B6 D0) 40 ((fdB (A0 51)).drop 3) (lQ bs q) [] KK = KK (.ret (.str q)) (lQ bs q) [] := fun KK => by kernel_rfl!
   show xw (inX x 51) (B6 D0) 40 ((fdB (A0 51)).drop 3) (lQ bs q) [] _
   rw [e4]
   exact BodyK.ret h
end
noncomputable def retE (s : Stmt) : Expr := A6 (sK s) 0
noncomputable def stP (s : Stmt) : Pos := s.pos
noncomputable def q0e (e : Expr) : PySem.Str := eY (A6 (eK e) 0)
noncomputable def n6 (e : Expr) : Pos := (A6 (eK e) 0).pos
noncomputable def q5F (e : Expr) : List Expr := (eK e).tail
noncomputable def exP (e : Expr) : Pos := e.pos
noncomputable def lcE (e : Expr) : Expr := A6 (eK e) 0
noncomputable def lcG (e : Expr) : Comprehension := dite _ (fun h => @Expr.ListComp.elim (fun _ => Comprehension) e h fun _ g _ _ => g.headD ⟨.Name (S "") ⟨0, 0, 0, 0⟩, .Name (S "") ⟨0, 0, 0, 0⟩, [], 0⟩) fun _ => ⟨.Name (S "") ⟨0, 0, 0, 0⟩, .Name (S "") ⟨0, 0, 0, 0⟩, [], 0⟩
noncomputable def lcS (e : Expr) : Scope := eSc e
noncomputable def E5 (e : Expr) : PySem.Str := eY e
noncomputable def F3 (e : Expr) : Pos := e.pos
noncomputable def lcX (e : Expr) : Expr := .ListComp (lcE e) [⟨.Name (E5 (lcG e).target) (F3 (lcG e).target), (lcG e).iter, (lcG e).ifs, 0⟩] (lcS e) (exP e)
noncomputable def a5 (e : Expr) : Expr := .ListComp (lcE e) [⟨.Name (E5 (lcG e).target) (F3 (lcG e).target), (lcG e).iter, [], 0⟩] (lcS e) (exP e)
noncomputable def q5G (x : SX) (scope : Scope) : Bool := scope.names.all fun p => (match p.2 with
 | .free => (lk x.cm p.1).isSome
 | .cell => false
 | .local => (match lk scope.names p.1 with
  | some .local => true
  | _ => false)
 | _ => true)
theorem S7 {x : SX} {scope : Scope} (h : q5G x scope = true) (hk : scope.kind = .function) : p8 x scope := by
 have h := v0w.mp h
 refine ⟨fun p hp e => ?_, fun p hp e => ?_, hk, fun p hp e => ?_⟩
 ·have := h p hp; rw [e] at this; exact this
 ·have := h p hp; rw [e] at this; cases this
 ·have := h p hp
  rw [e] at this
  dsimp only at this
  rw [← F7]
  split at this
  ·assumption
  ·cases this
noncomputable def q3J (e a : Expr) : Expr := .Call (.Name (q0e e) (n6 e)) [a] [] (exP e)
section
variable {x : SX} {loc : Loc} {sto : Sto} {K : AV → Sto → Prop}
theorem q1S {α : List Addr} : ∀ {is : List Int} {vs : List Value}, VRs α (is.map .int) vs → IntsAre vs is
 | [], [], _ => .nil
 | n :: is, v :: vs, ⟨⟨t, e⟩, r⟩ => by rw [e]; exact .cons n t (q1S r)
 | [], _ :: _, h => h.elim
 | _ :: _, [], h => h.elim
noncomputable def bytesOf (is : List Int) : List UInt8 := is.map fun n => n.toNat.toUInt8
theorem q8E {i : Nat} {ao : AO} {is : List Int} (hx : sto[i]? = some ao) (he : ao.items = some (is.map .int)) (hr : ∀ n ∈ is, 0 ≤ n ∧ n < 256) (hz : is.length ≤ sizeLine) (h : K (.bytes (bytesOf is)) sto) : CallS x (.type "bytes") [.ref i] [] loc sto K := by
 intro c α s vs ks Q E O S rv rk P
 obtain rfl := rk.nil
 obtain ⟨v, rfl, a, ha, rfl⟩ := rv.one
 obtain ⟨o, vs, n, h1, h2, h3, h4, h5, h6, h7⟩ := S.list hx he ha
 refine call_bytes_ints (vs := vs.toList) (by simpa using h6) (q1S h5) hr (by rw [v0D, h7]; simpa using hz) O.hh fun h' t k hk => P _ _ _ _ _ h .refl (S.heapK hk) ⟨t, rfl⟩
noncomputable def grp (n k : Int) : Int := ((n.fdiv 2).fdiv (256 ^ k.toNat)).fmod 256
noncomputable def group (n : Int) : List UInt8 := bytesOf ((List.range (1 + n.fmod 2).toNat).map fun k : Nat => grp n (k : Int))
noncomputable abbrev cG : Expr := retE (nth (fdB (A0 50)) 0)
noncomputable abbrev lG : Expr := A6 (q5F cG) 0
noncomputable abbrev XG (x : SX) : SX := { w := x.w, fr := x.fr, d := x.d - 1, scope := fdS (A0 50), cm := [(S "n", 0)] }
noncomputable abbrev yG : Str := E5 (lcG lG).target
theorem mod2 (n : Int) : 1 + n.fmod 2 = 1 ∨ 1 + n.fmod 2 = 2 := by
 rw [Int.fmod_eq_emod_of_nonneg n (by decide)]; lia
theorem q6S (hd : 1 ≤ x.d) {n : Int} (h : K (.bytes (group n)) []) : CallS x (.ref 841) [.int n] [] loc [] K := by
 refine q3v (o := k841 x.w.params) (fd := C9 (k841 x.w.params)) (body := fdB (A0 50)) (scope := fdS (A0 50)) (cm := [(S "n", 0)]) (cvs := [.int n]) (cns := [S "n"]) (by rfl') (by rfl') (by rfl') (by rfl') (by rfl') (by rfl') (by rfl') (by rfl')
  (fun m i y hy => ?_) (fun y hy => ?_) (fun y i hy => ?_) rfl (by decide +kernel) (fun α vs r => ?_) hd ?_ (by rfl') (by rfl') (by rfl')
 ·cases i with
  | zero =>
   have e : S "n" = y := by simpa using hy
   rw [← e]
   have : ∀ m : Nat, (cellsFrom m (fdS (A0 50)).names []).lookup (S "n") = some (m + 0) := fun m => by rfl'
   exact this m
  | succ i => simp at hy
 ·rw [v0c.mp hy]; rfl'
 ·rw [v0n] at hy
  split at hy
  ·rename_i q
   cases hy
   exact ⟨v0h _, by rw [beq_iff_eq.mp q]; rfl⟩
  ·cases hy
 ·obtain ⟨v, rfl, r1⟩ := r.one
  have : ∀ (P : Params) (v : Value), bindArgs (C9 (k841 P)) ⟨[v], []⟩ = pure [(S "n", v)] := fun P v => by rfl'
  exact ⟨[v], this _ v, r1, trivial⟩
 ·show XSs (XG x) (fdB (A0 50)) [] [.cell (.int n)] (BodyK 0 K)
  have TO := D6 (x := XG x) (A9 _)
  have eb : fdB (A0 50) = [.Return (some (q3J cG (a5 lG))) (stP (nth (fdB (A0 50)) 0))] := by rfl'
  rw [eb]
  refine XSs.cons (XS.ret ?_)
  refine EV.call (K2 := fun f as ks s => f = .type "bytes" ∧ ks = [] ∧ CallS (XG x) f as [] [] s fun a s₁ => BodyK 0 K (.ret a) [] s₁) (ev := fun e s K => EV (XG x) e [] s K) (fun _ _ _ h => h) (by rfl') (A4 TO 40 false _ _ _ _ ?_) (fun f vs ks s hk => ?_)
  ·have e1 : ∀ KK : KA1, ew (XG x) (B6 D0) 40 false (.Name (q0e cG) (n6 cG)) [] [.cell (.int n)] KK = KK (.ext (.type "bytes")) [.cell (.int n)] := fun KK => by kernel_rfl!
   rw [e1]
   show EV (XG x) (a5 lG) [] [.cell (.int n)] fun v s₁ => (Value.type "bytes" = .type "bytes" ∧ ([] : List (Str × AV)) = [] ∧ CallS (XG x) (.type "bytes") [v] [] [] s₁ fun a s₁ => BodyK 0 K (.ret a) [] s₁)
   refine EV.comp (F5 (by rfl')) (S7 (by rfl') (by rfl')) (by rfl') (A4 TO 40 false _ _ _ _ ?_)
   have e2 : ∀ KK : KA1, ew (XG x) (B6 D0) 40 false (lcG lG).iter [] [.cell (.int n)] KK = ((2 : Int) ≠ 0 ∧ KK (.ref 1) [.cell (.int n), .rng 0 (1 + n.fmod 2) 1]) := fun KK => by kernel_rfl!
   rw [e2]
   refine ⟨by decide, ?_⟩
   have hm := mod2 n
   have hg : group n = bytesOf ((List.range (1 + n.fmod 2).toNat).map fun k : Nat => grp n (k : Int)) := rfl
   generalize hq : 1 + n.fmod 2 = q at hm hg ⊢
   refine ⟨q.toNat, _, _, .range rfl ?_ ?_, ?_, ?_, fun o => ⟨fun i ys s => ys = (List.range i).map (fun k : Nat => AV.int (grp n (k : Int))) ∧ s = [.cell (.int n), .rng 0 q 1], ?_, ⟨rfl, rfl⟩, ?_, ?_⟩⟩
   ·rcases hm with rfl | rfl <;> decide +kernel
   ·rcases hm with rfl | rfl <;> decide +kernel
   ·rcases hm with rfl | rfl <;> exact sz (by decide)
   ·intro p hp
    first | exact A7 (by rfl') _ hp | exact B9 (by rfl') _ hp | exact flJ rfl (by rfl') _ hp | exact C7 (by rfl') _ hp
   ·intro i ys s _ p hp; cases hp
   ·rintro i ys s o' hi hl ⟨rfl, rfl⟩
    generalize hys : (List.range i).map (fun k : Nat => AV.int (grp n (k : Int))) = ys
    show EV (cx (XG x) (lcS lG)) (lcE lG) [(yG, .int (0 + (i : Int)))] [.cell (.int n), .rng 0 q 1, .lst ys, .raw o'] _
    refine A4 (D6 (x := cx (XG x) (lcS lG)) (A9 _)) 40 false _ _ _ _ ?_
    have hi2 : i < 2 := by rcases hm with rfl | rfl <;> simp at hi <;> lia
    have e3 : ∀ (k : Int) (KK : KA1), ew (cx (XG x) (lcS lG)) (B6 D0) 40 false (lcE lG) [(yG, .int k)] [.cell (.int n), .rng 0 q 1, .lst ys, .raw o'] KK =
      ((2 : Int) ≠ 0 ∧ Builtin.divisionGoesByPylong n 2 = false ∧ 0 ≤ k ∧ (Builtin.Int.intBits 256 : Int) * k ≤ 2 ^ 27 ∧ (256 : Int) ^ k.toNat ≠ 0 ∧ Builtin.divisionGoesByPylong (n.fdiv 2) (256 ^ k.toNat) = false ∧ (256 : Int) ≠ 0 ∧ KK (.int (grp n k)) [.cell (.int n), .rng 0 q 1, .lst ys, .raw o']) := fun k KK => by kernel_rfl!
    rw [Int.zero_add, e3]
    have hp1 : Builtin.divisionGoesByPylong n 2 = false := by rfl'
    have hp2 : ∀ m : Int, ∀ i : Nat, i < 2 → Builtin.divisionGoesByPylong m (256 ^ (i : Int).toNat) = false := by
     intro m i hi
     match i, hi with
     | 0, _ => rfl'
     | 1, _ => rfl'
    have hb : (Builtin.Int.intBits 256 : Int) ≤ 100 := by decide +kernel
    refine ⟨by decide, hp1, by lia, ?_, ?_, hp2 _ i hi2, by decide, [.cell (.int n), .rng 0 q 1], [], rfl, rfl, trivial, ?_, ?_, rfl⟩
    ·match i, hi2 with
     | 0, _ => decide +kernel
     | 1, _ => decide +kernel
    ·match i, hi2 with
     | 0, _ => decide +kernel
     | 1, _ => decide +kernel
    ·intro p hp
     first | exact A7 (by rfl') _ hp | exact B9 (by rfl') _ hp | exact flJ rfl (by rfl') _ hp | exact C7 (by rfl') _ hp
    ·rw [v0N, v0M, hys]; rfl
   ·rintro ys s hl ⟨rfl, rfl⟩
    refine ⟨rfl, rfl, ?_⟩
    refine q8E (i := 1 + 1) (ao := .lst ((List.range q.toNat).map fun k : Nat => AV.int (grp n (k : Int)))) (is := (List.range q.toNat).map fun k : Nat => grp n (k : Int)) rfl (by show some _ = some _; rw [v0W]; rfl) (fun z hz => ?_) (by rw [v0I, v0X]; rcases hm with rfl | rfl <;> exact sz (by decide)) ?_
    ·obtain ⟨k, _, rfl⟩ := v0z.mp hz
     unfold grp
     rw [Int.fmod_eq_emod_of_nonneg _ (by decide)]
     lia
    ·rw [← hg]
     exact .inl ⟨[], _, rfl, rfl, trivial, (fun q hq => by cases hq), h⟩
  ·obtain ⟨rfl, rfl, hk⟩ := hk
   exact ⟨M9 _ _, hk⟩
theorem E8 {sto : Sto} {i : Nat} {o : AO} (h : sto[i]? = some o) : sto.set i o = sto := by
 obtain ⟨hi, e⟩ := q9W.mp h
 rw [← e]; exact List.set_getElem_self hi
def s8 (as : List AV) (sto : Sto) (K : KA1) : Prop := W1 False as fun a b => a.onR False fun i => b.onI False fun m => atS sto i fun ps => (ps.length ≤ 100 ∧ B1 ps ≤ 500) ∧ K (.ref sto.length) (sto ++ [.lsS (B5 ps m)])
theorem q1T (hd : 2 ≤ x.d) {as : List AV} (h : s8 as sto K) : CallS x (.ref 862) as [] loc sto K := by
 ·obtain ⟨a, b, rfl, g1⟩ := is2 h
  obtain ⟨i, rfl, g2⟩ := AV.isR g1
  obtain ⟨m, rfl, g4⟩ := AV.isI g2
  ·obtain ⟨ps, hx, h⟩ := n4 g4
   obtain ⟨⟨h1, h2⟩, hK⟩ := h
   refine CallS.lift (as₀ := [.ref 0, .int m]) (sto₀ := [.lsS ps]) (K₀ := fun v s₁ => v = .ref 1 ∧ s₁ = [.lsS ps, .lsS (B5 ps m)]) [i] (fun loc₀ => q4D (x := I2 x) hd h1 h2 ⟨rfl, rfl⟩) rfl (by simp) (fun k j hk => ?_) (fun o ho => by cases v0c.mp ho; trivial) (fun a ha => ?_) rfl fun v s₁ hv => ?_
   ·cases k with
    | zero => cases hk; exact hx
    | succ k => cases hk
   ·first | exact A7 (by rfl') _ ha | exact B9 (by rfl') _ ha | exact flJ rfl (by rfl') _ ha | exact C7 (by rfl') _ ha
   ·obtain ⟨rfl, rfl⟩ := hv
    refine ⟨[.lsS ps], [.lsS (B5 ps m)], rfl, rfl, fun o ho => by cases v0c.mp ho; trivial, .inr ⟨1, .lsS (B5 ps m), rfl, v0h _, rfl, trivial, ?_⟩⟩
    show K (.ref sto.length) (sto.set i (.lsS ps) ++ [.lsS (B5 ps m)])
    rw [E8 hx]; exact hK
def q3K (as : List AV) (sto : Sto) (K : KA1) : Prop := U3 False as fun a => a.onI False fun n => K (.bytes (group n)) sto
def q3L (as : List AV) (sto : Sto) (K : KA1) : Prop := U3 False as fun a => a.onY False fun bs => bs.length ≤ 100 ∧ K (.str (E6 bs)) sto
theorem q8F (hd : 1 ≤ x.d) {as : List AV} (h : q3K as sto K) : CallS x (.ref 841) as [] loc sto K := by
 ·obtain ⟨a, rfl, g1⟩ := is1 h
  obtain ⟨n, rfl, h⟩ := AV.isI g1
  refine CallS.lift (as₀ := [.int n]) (sto₀ := []) (K₀ := fun v s₁ => v = .bytes (group n) ∧ s₁ = []) [] (fun loc₀ => q6S (x := I2 x) hd ⟨rfl, rfl⟩) rfl (by simp) (fun k j hk => by simp at hk) (fun o ho => by cases ho) (fun a ha => by cases v0c.mp ha; trivial) rfl fun v s₁ hv => ?_
  obtain ⟨rfl, rfl⟩ := hv
  exact ⟨[], [], rfl, rfl, fun o ho => (by cases ho), .inl ⟨trivial, h⟩⟩
theorem q8G (hd : 1 ≤ x.d) {as : List AV} (h : q3L as sto K) : CallS x (.ref 848) as [] loc sto K := by
 ·obtain ⟨a, rfl, g1⟩ := is1 h
  obtain ⟨bs, rfl, h⟩ := AV.isY g1
  refine CallS.lift (as₀ := [.bytes bs]) (sto₀ := []) (K₀ := fun v s₁ => v = .str (E6 bs) ∧ s₁ = []) [] (fun loc₀ => q6R (x := I2 x) hd h.1 ⟨rfl, rfl⟩) rfl (by simp) (fun k j hk => by simp at hk) (fun o ho => by cases ho) (fun a ha => by cases v0c.mp ha; trivial) rfl fun v s₁ hv => ?_
  obtain ⟨rfl, rfl⟩ := hv
  exact ⟨[], [], rfl, rfl, fun o ho => (by cases ho), .inl ⟨trivial, h.2⟩⟩
end
theorem fn763 : FnOk 763 k763 (cAt (A0 40) 6) := by constructor <;> rfl'
noncomputable def wc : List Nat := (S "abcdfeghijklmnopqrstuvwxyzABCDEFGHIJKLMNOPQRSTUVWXYZ0123456789_").cps.toList ++ (S "ßàáâãäåæçèéêëìíîïðñòóôõöøùúûüýþÿÀÁÂÃÄÅÆÇÈÉÊËÌÍÎÏÐÑÒÓÔÕÖØÙÚÛÜÝÞ").cps.toList
noncomputable def lexL (ln : Int) (st : AV) (tok : List Nat) : AO := .attrs [(S "instream", .ref 3), (S "infile", .none), (S "posix", .bool true), (S "eof", .none), (S "commenters", .str []), (S "wordchars", .str wc), (S "whitespace", .str [32, 9, 13, 10]), (S "whitespace_split", .bool true), (S "quotes", .str [39, 34]), (S "escape", .str [92]), (S "escapedquotes", .str [34]), (S "state", st), (S "pushback", .ref 4), (S "lineno", .int ln), (S "debug", .int 0), (S "token", .str tok), (S "filestack", .ref 5), (S "source", .none), (S "_punctuation_chars", .str [])]
noncomputable def W2 (st : AV) (tok : List Nat) : AO := lexL 1 st tok
noncomputable def A3 (o : AO) (st : AV) (tok t : List Nat) (n : Nat) : Sto := W2 st tok :: .inst sC 0 :: sio t n :: .inst iC 2 :: .raw dqO :: .raw dqO :: [o]
noncomputable def dTk (S₀ S₁ : Sto) (rs : List Nat) : DT := dP 606 (fun as sto K => as = [.ref 3, .int 1] ∧ sto = S₀ ∧ K (.str rs) S₁) D0
noncomputable def whB (s : Stmt) : List Stmt := (sB s).1
theorem q3M : ∃ k p p', nth (fdB (cAt (A0 40) 6)) 2 = .While (.Constant (.bool true) k p) (whB (nth (fdB (cAt (A0 40) 6)) 2)) [] p' := ⟨eC (A6 (sK (nth (fdB (cAt (A0 40) 6)) 2)) 0), (A6 (sK (nth (fdB (cAt (A0 40) 6)) 2)) 0).pos, (nth (fdB (cAt (A0 40) 6)) 2).pos, by rfl'⟩
noncomputable def rtB : List Stmt := whB (nth (fdB (cAt (A0 40) 6)) 2)
noncomputable def lT (q : Bool) : Loc := [(S "self", .ref 1), (S "quoted", .bool q), (S "escapedstate", .str [32])]
noncomputable def lTn (q : Bool) (cs : List Nat) : Loc := lT q ++ [(S "nextchar", .str cs)]
section
variable {x : SX} {loc : Loc} {sto : Sto} {K : AV → Sto → Prop} {o : AO}
theorem q3N (hd : 2 ≤ x.d) {st : AV} {tok t : List Nat} {n : Nat} (hn : n ≤ t.length) (hz : t.length ≤ 100000) : DOk x (dTk (A3 o st tok t n) (A3 o st tok t (rdP t n)) (rdS t n)) :=
 D9 (fun as loc sto K h => by obtain ⟨rfl, rfl, h⟩ := h; exact (cRead hd hn hz h).call) (fn606.keep x) (A9 _)
abbrev TT (o : AO) (x : SX) (st : AV) (tok t : List Nat) (n n' : Nat) (q : Bool) (cs : List Nat) (KK : KF) : Prop := xw (inY x (cAt (A0 40) 6)) (A5 (dTk (A3 o st tok t n) (A3 o st tok t n') cs) XP) 60 rtB (lT q) (A3 o st tok t n) KK
theorem t32q {t : List Nat} {n n' : Nat} (KK : KF) : TT o x (.str [32]) [] t n n' false [39] KK =
  (([] : List Nat).length ≤ sizeLine ∧ [AV.ref 3, .int 1] = [AV.ref 3, .int 1] ∧ A3 o (.str [32]) [] t n = A3 o (.str [32]) [] t n ∧ [39].length ≤ sizeLine ∧ KK .next (lTn false [39]) (A3 o (.str [39]) [] t n')) := by rfl'
theorem t32e {t : List Nat} {n n' : Nat} (KK : KF) : TT o x (.str [32]) [] t n n' false [] KK =
  (([] : List Nat).length ≤ sizeLine ∧ [AV.ref 3, .int 1] = [AV.ref 3, .int 1] ∧ A3 o (.str [32]) [] t n = A3 o (.str [32]) [] t n ∧ ([] : List Nat).length ≤ sizeLine ∧ KK .brk (lTn false []) (A3 o .none [] t n')) := by rfl'
theorem tnone {t : List Nat} {n n' : Nat} (KK : KF) : TT o x .none [] t n n' false [] KK =
  (([] : List Nat).length ≤ sizeLine ∧ [AV.ref 3, .int 1] = [AV.ref 3, .int 1] ∧ A3 o .none [] t n = A3 o .none [] t n ∧ KK .brk (lTn false []) (A3 o .none [] t n')) := by rfl'
theorem t39q {tok t : List Nat} {n n' : Nat} {q : Bool} (KK : KF) : TT o x (.str [39]) tok t n n' q [39] KK =
  (([] : List Nat).length ≤ sizeLine ∧ [AV.ref 3, .int 1] = [AV.ref 3, .int 1] ∧ A3 o (.str [39]) tok t n = A3 o (.str [39]) tok t n ∧ [39].length ≤ sizeLine ∧ KK .next (lTn true [39]) (A3 o (.str [97]) tok t n')) := by rfl'
noncomputable def tAC : AO := .tup [.str [97], .str [99]]
theorem t97e {tok t : List Nat} {n n' : Nat} (KK : KF) : TT o x (.str [97]) tok t n n' true [] KK =
  (([] : List Nat).length ≤ sizeLine ∧ [AV.ref 3, .int 1] = [AV.ref 3, .int 1] ∧ A3 o (.str [97]) tok t n = A3 o (.str [97]) tok t n ∧ [AV.str [97], .str [99]].length ≤ sizeLine ∧ ([] : List Nat).length ≤ sizeLine ∧ KK .brk (lTn true []) (A3 o .none tok t n' ++ [tAC])) := by rfl'
theorem t97b {tok t : List Nat} {n n' : Nat} (KK : KF) : TT o x (.str [97]) tok t n n' true [32] KK =
  (([] : List Nat).length ≤ sizeLine ∧ [AV.ref 3, .int 1] = [AV.ref 3, .int 1] ∧ A3 o (.str [97]) tok t n = A3 o (.str [97]) tok t n ∧ [AV.str [97], .str [99]].length ≤ sizeLine ∧ [32].length ≤ sizeLine ∧ tok.length ≤ sizeLine ∧
   cnd (!tok.length == 0) (KK .brk (lTn true [32]) (A3 o (.str [32]) tok t n' ++ [tAC])) (KK .brk (lTn true [32]) (A3 o (.str [32]) tok t n' ++ [tAC]))) := by rfl'
noncomputable def lexQ (o : AO) (st : AV) (tok t : List Nat) (n : Nat) : Sto := lexL 2 st tok :: .inst sC 0 :: sio t n :: .inst iC 2 :: .raw dqO :: .raw dqO :: [o]
theorem t39c {tok t : List Nat} {n n' c : Nat} {q : Bool} (KK : KF) (h1 : ([c] == [10]) = false) (h2 : ([c] == [39]) = false) (h3 : tok.length + [c].length ≤ sizeLine) (h : KK .next (lTn true [c]) (A3 o (.str [39]) (tok ++ [c]) t n')) : TT o x (.str [39]) tok t n n' q [c] KK := by
 have e : TT o x (.str [39]) tok t n n' q [c] KK =
  (([] : List Nat).length ≤ sizeLine ∧ [AV.ref 3, .int 1] = [AV.ref 3, .int 1] ∧ A3 o (.str [39]) tok t n = A3 o (.str [39]) tok t n ∧ cnd ([c] == [10])
   ([c].length ≤ sizeLine ∧ cnd ([c] == [39]) (KK .next (lTn true [c]) (lexQ o (.str [97]) tok t n'))
    (cnd (N8 [c] [92]) (tok.length + [c].length ≤ sizeLine ∧ KK .next (lTn true [c]) (lexQ o (.str [39]) (tok ++ [c]) t n')) (tok.length + [c].length ≤ sizeLine ∧ KK .next (lTn true [c]) (lexQ o (.str [39]) (tok ++ [c]) t n'))))
   ([c].length ≤ sizeLine ∧ cnd ([c] == [39]) (KK .next (lTn true [c]) (A3 o (.str [97]) tok t n'))
    (cnd (N8 [c] [92]) (tok.length + [c].length ≤ sizeLine ∧ KK .next (lTn true [c]) (A3 o (.str [39]) (tok ++ [c]) t n')) (tok.length + [c].length ≤ sizeLine ∧ KK .next (lTn true [c]) (A3 o (.str [39]) (tok ++ [c]) t n'))))) := by rfl'
 rw [e, h1, h2]
 refine ⟨sz (by decide), rfl, rfl, sz (by simp), ?_⟩
 show cnd (N8 [c] [92]) _ _
 exact cnd_iff.mpr ⟨fun _ => ⟨h3, h⟩, fun _ => ⟨h3, h⟩⟩
def rtI (o : AO) (w t : List Nat) (n : Nat) : Nat → Loc → Sto → Prop := fun m l s =>
 (m = w.length + 5 ∧ l = lT false ∧ s = A3 o (.str [32]) [] t n) ∨
 (∃ k q, k ≤ w.length ∧ m = w.length - k + 3 ∧ l = lT q ∧ s = A3 o (.str [39]) (w.take k) t (n + 1 + k)) ∨
 (m = 1 ∧ l = lT true ∧ s = A3 o (.str [97]) w t (n + 2 + w.length))
structure a6 (t : List Nat) (n : Nat) (w : List Nat) : Prop where
 opn : t[n]? = some 39
 ins : ∀ k c, w[k]? = some c → t[n + 1 + k]? = some c ∧ c ≠ 39 ∧ c ≠ 10
 cls : t[n + 1 + w.length]? = some 39
theorem a7 {t : List Nat} {n c : Nat} (h : t[n]? = some c) : rdS t n = [c] ∧ rdP t n = n + 1 ∧ n < t.length := by
 obtain ⟨p, e⟩ := q9W.mp h
 unfold rdS rdP
 rw [if_pos p, if_pos p, v0J, h]
 exact ⟨rfl, rfl, p⟩
theorem rdS_end {t : List Nat} : rdS t t.length = [] ∧ rdP t t.length = t.length := by
 unfold rdS rdP
 rw [if_neg (by lia), if_neg (by lia)]
 exact ⟨rfl, rfl⟩
theorem lT_lt (q : Bool) : P9 7 (lT q) := fun p hp => by
 first | exact A7 (by rfl') _ hp | exact B9 (by rfl') _ hp | exact flJ rfl (by rfl') _ hp | exact C7 (by rfl') _ hp
theorem AV.ltB_of {k : Nat} {a : AV} (h : a.Lt k) : a.ltB k = true := by cases a <;> first | rfl | exact Nat.ble_eq_true_of_le h
theorem q6T {st : AV} (hs : st.Lt 7) (tok : List Nat) : (W2 st tok).Lt 7 := AO.lt_of (by
 have e : (W2 st tok).ltB 7 = (st.ltB 7 && true) := by rfl'
 rw [e, AV.ltB_of hs]; rfl)
theorem t7 (hol : o.Lt 7) {st : AV} (hs : st.Lt 7) (tok t : List Nat) (n : Nat) : C2 7 (A3 o st tok t n) := fun b ho => by
 rcases v0F.mp ho with e | ho
 ·rw [e]; exact q6T hs tok
 ·rcases v0f.mp (show b ∈ [.inst sC 0, sio t n, .inst iC 2, .raw dqO, .raw dqO] ++ [o] from ho) with ho | ho
  ·exact A7 (by rfl') _ ho
  ·rw [v0c.mp ho]; exact hol
theorem q6U (q : Bool) (cs : List Nat) : ∀ y v, (lT q).lookup y = some v → (lTn q cs).lookup y = some v := fun y v e => by
 show (lT q ++ _).lookup y = _
 rw [List.lookup_append, e]; rfl
theorem WhileK.on {Inv : Nat → Loc → Sto → Prop} {K : KF} {m m' : Nat} {q : Bool} {cs tok t : List Nat} {st : AV} {n : Nat} (hol : o.Lt 7) (hs : st.Lt 7) (hm : m' < m) (h : Inv m' (lT q) (A3 o st tok t n)) : WhileK Inv K m 7 .next (lTn q cs) (A3 o st tok t n) :=
 ⟨m', lT q, A3 o st tok t n, [], hm, q6U q cs, (v0H _).symm, rfl, lT_lt q, t7 hol hs tok t n, h⟩
theorem q8H (hol : o.Lt 7) {t w : List Nat} {n e : Nat} {st : AV} (hd : 3 ≤ x.d) (hz : t.length ≤ 100000) (W : a6 t n w) (hw : w ≠ []) (he : (t[n + 2 + w.length]? = some 32 ∧ e = n + 3 + w.length ∧ st = .str [32]) ∨ (t.length = n + 2 + w.length ∧ e = t.length ∧ st = .none)) {KK : KF}
  (h : ∀ cs, KK .next (lTn true cs) (A3 o st w t e ++ [tAC])) : XS (inY x (cAt (A0 40) 6)) (nth (fdB (cAt (A0 40) 6)) 2) (lT false) (A3 o (.str [32]) [] t n) KK := by
 have hcl := (a7 W.cls).2.2
 have dd : ∀ (st : AV) (tok : List Nat) (n : Nat), n ≤ t.length → DOk (inY x (cAt (A0 40) 6)) (dTk (A3 o st tok t n) (A3 o st tok t (rdP t n)) (rdS t n)) := fun st tok n hn => q3N (x := inY x (cAt (A0 40) 6)) (by show 2 ≤ x.d - 1; lia) hn hz
 have run : ∀ (st : AV) (tok cs : List Nat) (n n' : Nat) (q : Bool) (KK : KF), n ≤ t.length → rdS t n = cs → rdP t n = n' → TT o x st tok t n n' q cs KK → XSs (inY x (cAt (A0 40) 6)) rtB (lT q) (A3 o st tok t n) KK := fun st tok cs n n' q KK hn e1 e2 hT => by
  subst e1; subst e2
  exact A1 (B2 (dd st tok n hn) (q5E (x := inY x (cAt (A0 40) 6)) (by show 2 ≤ x.d - 1; lia))) 60 _ _ _ _ hT
 obtain ⟨k, p1, p2, q⟩ := q3M
 rw [q]
 have l6 : (A3 o (.str [32]) [] t n).length = 7 := rfl
 refine XS.while_ (rtI o w t n) (w.length + 5) (.inl ⟨rfl, rfl, rfl⟩) fun m l s _ hI => TS.constTrue ?_
 show XSs _ _ _ _ (WhileK _ _ _ 7)
 rcases hI with ⟨rfl, rfl, rfl⟩ | ⟨k, q, hk, rfl, rfl, rfl⟩ | ⟨rfl, rfl, rfl⟩
 ·obtain ⟨e1, e2, e3⟩ := a7 W.opn
  refine run _ _ _ _ _ _ _ (by lia) e1 e2 ?_
  rw [t32q]
  exact ⟨sz (by decide), rfl, rfl, sz (by simp), WhileK.on hol trivial (m' := w.length + 3) (by lia) (.inr (.inl ⟨0, false, by lia, by lia, rfl, rfl⟩))⟩
 ·by_cases hk' : k = w.length
  ·subst hk'
   obtain ⟨e1, e2, e3⟩ := a7 W.cls
   refine run _ _ _ _ _ _ _ (by lia) e1 e2 ?_
   rw [t39q]
   refine ⟨sz (by decide), rfl, rfl, sz (by simp), WhileK.on hol trivial (m' := 1) (by lia) (.inr (.inr ⟨rfl, rfl, ?_⟩))⟩
   rw [v0R, show n + 1 + w.length + 1 = n + 2 + w.length by lia]
  ·have hlt : k < w.length := by lia
   obtain ⟨i1, i2, i3⟩ := W.ins k _ (q9Z hlt)
   obtain ⟨e1, e2, e3⟩ := a7 i1
   refine run _ _ _ _ _ _ _ (by lia) e1 e2 (t39c _ (by simpa using i3) (by simpa using i2) (sz (by rw [List.length_take]; simp; lia)) (WhileK.on hol trivial (m' := w.length - (k + 1) + 3) (by lia) (.inr (.inl ⟨k + 1, true, hlt, rfl, rfl, ?_⟩))))
   rw [v0O, q9Z hlt]
   rfl
 ·rcases he with ⟨h1, rfl, rfl⟩ | ⟨h1, rfl, rfl⟩
  ·obtain ⟨e1, e2, e3⟩ := a7 h1
   refine run _ _ _ _ _ _ _ (by lia) e1 e2 ?_
   rw [t97b, show n + 2 + w.length + 1 = n + 3 + w.length by lia]
   exact ⟨sz (by decide), rfl, rfl, sz (by decide), sz (by simp), sz (by lia), cnd_iff.mpr ⟨fun _ => h _, fun _ => h _⟩⟩
  ·rw [← h1]
   refine run _ _ _ _ _ _ _ (by lia) rdS_end.1 rdS_end.2 ?_
   rw [t97e]
   exact ⟨sz (by decide), rfl, rfl, sz (by decide), sz (by simp), h _⟩
theorem rtPre {r : Sto} (KK : KF) : xw (inY x (cAt (A0 40) 6)) (A5 D0 XP) 60 ((fdB (cAt (A0 40) 6)).take 2) [(S "self", .ref 1)] r KK = KK .next (lT false) r := by rfl'
theorem q8I {st : AV} {t tok cs : List Nat} {n : Nat} {r : Sto} (KK : KF) : xw (inY x (cAt (A0 40) 6)) (A5 D0 XP) 60 ((fdB (cAt (A0 40) 6)).drop 3) (lTn true cs) (W2 st tok :: .inst sC 0 :: sio t n :: .inst iC 2 :: .raw dqO :: .raw dqO :: r) KK =
 KK (.ret (.str tok)) (lTn true cs ++ [(S "result", .str tok)]) (W2 st [] :: .inst sC 0 :: sio t n :: .inst iC 2 :: .raw dqO :: .raw dqO :: r) := by rfl'
theorem q6V {st : AV} {t cs : List Nat} {n : Nat} {r : Sto} (KK : KF) : xw (inY x (cAt (A0 40) 6)) (A5 D0 XP) 60 ((fdB (cAt (A0 40) 6)).drop 3) (lTn false cs) (W2 st [] :: .inst sC 0 :: sio t n :: .inst iC 2 :: .raw dqO :: .raw dqO :: r) KK =
 KK (.ret .none) (lTn false cs ++ [(S "result", .none)]) (W2 st [] :: .inst sC 0 :: sio t n :: .inst iC 2 :: .raw dqO :: .raw dqO :: r) := by rfl'
theorem XPy (hd : 3 ≤ x.d) : P1 (inY x (cAt (A0 40) 6)) XP := q5E (x := inY x (cAt (A0 40) 6)) (by show 2 ≤ x.d - 1; lia)
theorem q1U (hd : 3 ≤ x.d) {s₀ : Sto} (h : XS (inY x (cAt (A0 40) 6)) (nth (fdB (cAt (A0 40) 6)) 2) (lT false) s₀ (fun f l s => match f with
  | .next => xw (inY x (cAt (A0 40) 6)) (A5 D0 XP) 60 ((fdB (cAt (A0 40) 6)).drop 3) l s (BodyK s₀.length K)
  | f => BodyK s₀.length K f l s)) : CodeS x (.ref 763) [.ref 1] [] loc s₀ K := by
 refine D5 fn763 (loc₀ := [(S "self", .ref 1)]) (fun α vs ks r rk => ?_) (by rfl') (show List.Nodup [S "self"] from by decide +kernel) (by lia) ?_
 ·obtain ⟨v, rfl, r1⟩ := r.one
  obtain rfl := rk.nil
  exact ⟨[(S "self", v)], fun Se => by rfl', rfl, r1, trivial⟩
 ·refine XSs.mid (pre := (fdB (cAt (A0 40) 6)).take 2) (st := nth (fdB (cAt (A0 40) 6)) 2) (post := (fdB (cAt (A0 40) 6)).drop 3) (by rfl') (A1 (B2 (A9 _) (XPy hd)) 60 _ _ _ _ ?_)
  rw [rtPre]
  refine SS.mono h fun f l s hk => ?_
  cases f with
  | next => exact A1 (B2 (A9 _) (XPy hd)) 60 _ _ _ _ hk
  | brk => exact hk
  | cont => exact hk
  | ret v => exact hk
theorem cTok (hol : o.Lt 7) (hd : 3 ≤ x.d) {t w : List Nat} {n e : Nat} {st : AV} (hz : t.length ≤ 100000) (W : a6 t n w) (hw : w ≠ []) (he : (t[n + 2 + w.length]? = some 32 ∧ e = n + 3 + w.length ∧ st = .str [32]) ∨ (t.length = n + 2 + w.length ∧ e = t.length ∧ st = .none))
  (h : K (.str w) (A3 o st [] t e)) : CodeS x (.ref 763) [.ref 1] [] loc (A3 o (.str [32]) [] t n) K := by
 refine q1U hd (q8H hol hd hz W hw he fun cs => ?_)
 show xw _ _ _ _ _ (W2 st w :: .inst sC 0 :: sio t e :: .inst iC 2 :: .raw dqO :: .raw dqO :: [o, tAC]) _
 rw [q8I]
 have hs : st.Lt 7 := by rcases he with ⟨_, _, rfl⟩ | ⟨_, _, rfl⟩ <;> trivial
 exact .inl ⟨A3 o st [] t e, [tAC], rfl, rfl, trivial, t7 hol hs [] t e, h⟩
theorem cEof (hd : 3 ≤ x.d) {t : List Nat} {st : AV} (hz : t.length ≤ 100000) (hst : st = .none ∨ st = .str [32]) (h : K .none (A3 o .none [] t t.length)) : CodeS x (.ref 763) [.ref 1] [] loc (A3 o st [] t t.length) K := by
 refine q1U hd ?_
 obtain ⟨k, p1, p2, q⟩ := q3M
 rw [q]
 refine XS.while_ (fun m l s => l = lT false ∧ s = A3 o st [] t t.length) 0 ⟨rfl, rfl⟩ fun m l s _ hI => TS.constTrue ?_
 show XSs _ _ _ _ (WhileK _ _ _ 7)
 obtain ⟨rfl, rfl⟩ := hI
 refine A1 (B2 (q3N (x := inY x (cAt (A0 40) 6)) (o := o) (st := st) (tok := []) (by show 2 ≤ x.d - 1; lia) (v0h _) hz) (XPy hd)) 60 _ _ _ _ ?_
 rw [rdS_end.1, rdS_end.2]
 have fin : xw (inY x (cAt (A0 40) 6)) (A5 D0 XP) 60 ((fdB (cAt (A0 40) 6)).drop 3) (lTn false []) (A3 o .none [] t t.length) (BodyK 7 K) := by
  show xw _ _ _ _ _ (W2 .none [] :: .inst sC 0 :: sio t t.length :: .inst iC 2 :: .raw dqO :: .raw dqO :: [o]) _
  rw [q6V]
  exact BodyK.ret h
 rcases hst with rfl | rfl
 ·show TT o x .none [] t t.length t.length false [] _
  rw [tnone]
  exact ⟨sz (by simp), rfl, rfl, fin⟩
 ·show TT o x (.str [32]) [] t t.length t.length false [] _
  rw [t32e]
  exact ⟨sz (by simp), rfl, rfl, sz (by simp), fin⟩
end
theorem fn756 : FnOk 756 k756 (cAt (A0 40) 5) := by constructor <;> rfl'
theorem fn792 : FnOk 792 k792 (cAt (A0 40) 10) := by constructor <;> rfl'
noncomputable def Y5 (f : Addr) (as₀ : List AV) (S₀ : Sto) (v : AV) (S₁ : Sto) (D : DT) : DT := dP f (fun as sto K => as = as₀ ∧ sto = S₀ ∧ K v S₁) D
section
variable {x : SX} {loc : Loc} {sto : Sto} {o : AO}
theorem P3 {f : Addr} {as₀ : List AV} {S₀ : Sto} {v : AV} {S₁ : Sto} {D : DT} (h : ∀ loc (K : AV → Sto → Prop), K v S₁ → CallS x (.ref f) as₀ [] loc S₀ K) (hk : B7 x (.ref f)) (DO : DOk x D) : DOk x (Y5 f as₀ S₀ v S₁ D) :=
 D9 (fun as loc sto K h' => by obtain ⟨rfl, rfl, h'⟩ := h'; exact h loc K h') hk DO
noncomputable def OnceK (K : KF) : KF := fun f l s => match f with
 | .brk => K .next l s
 | .ret v => K (.ret v) l s
 | _ => False
theorem XS.once {test : Expr} {body : List Stmt} {pos : Pos} {K : KF} (h : TS x test loc sto fun b s₁ => I0 b (XSs x body loc s₁ (OnceK K)) (K .next loc s₁)) : XS x (.While test body [] pos) loc sto K := by
 refine XS.while_ (fun m l s => l = loc ∧ s = sto) 0 ⟨rfl, rfl⟩ fun m l s _ hI => ?_
 obtain ⟨rfl, rfl⟩ := hI
 intro c α s Q E O S P
 refine h c α s Q E O S fun b s₁ α' t hb => P b s₁ α' t (w3 hb (fun hx => SS.mono hx fun f l' s' hk => ?_) id)
 cases f with
 | next => exact hk.elim
 | brk => exact hk
 | cont => exact hk.elim
 | ret v => exact hk
noncomputable def whP (s : Stmt) : Pos := s.pos
noncomputable def gtE : Expr := A6 (sK (nth (fdB (cAt (A0 40) 5)) 3)) 0
noncomputable def lGt (v : AV) : Loc := [(S "self", .ref 1), (S "raw", v)]
theorem gtPre {st st' v : AV} {t : List Nat} {n n' : Nat} (KK : KF) : xw (inY x (cAt (A0 40) 5)) (A5 (Y5 763 [.ref 1] (A3 o st [] t n) v (A3 o st' [] t n') D0) XK) 60 ((fdB (cAt (A0 40) 5)).take 3) [(S "self", .ref 1)] (A3 o st [] t n) KK =
 (dqO = dqO ∧ [AV.ref 1] = [AV.ref 1] ∧ A3 o st [] t n = A3 o st [] t n ∧ KK .next (lGt v) (A3 o st' [] t n')) := by rfl'
theorem gtW {st : AV} {w t : List Nat} {n : Nat} (KK : KA1) : ew (inY x (cAt (A0 40) 5)) (A5 D0 XK) 60 true gtE (lGt (.str w)) (A3 o st [] t n) KK = KK (.bool false) (A3 o st [] t n) := by rfl'
theorem gtN {st : AV} {t : List Nat} {n : Nat} (KK : KA1) : ew (inY x (cAt (A0 40) 5)) (A5 D0 XK) 60 true gtE (lGt .none) (A3 o st [] t n) KK = KK (.bool true) (A3 o st [] t n) := by rfl'
theorem gtB {st : AV} {t : List Nat} {n : Nat} (KK : KF) : xw (inY x (cAt (A0 40) 5)) (A5 D0 XK) 60 (whB (nth (fdB (cAt (A0 40) 5)) 3)) (lGt .none) (A3 o st [] t n) KK = (dqO = dqO ∧ KK (.ret .none) (lGt .none) (A3 o st [] t n)) := by rfl'
theorem q8J {st : AV} {w t : List Nat} {n : Nat} (KK : KF) : xw (inY x (cAt (A0 40) 5)) (A5 D0 XK) 60 ((fdB (cAt (A0 40) 5)).drop 4) (lGt (.str w)) (A3 o st [] t n) KK = KK (.ret (.str w)) (lGt (.str w)) (A3 o st [] t n) := by rfl'
theorem cGet (hd : 2 ≤ x.d) {st st' v : AV} {t : List Nat} {n n' : Nat} {K : AV → Sto → Prop} (hv : v = .none ∨ ∃ w, v = .str w) (h1 : ∀ loc (K : AV → Sto → Prop), K v (A3 o st' [] t n') → CodeS (inY x (cAt (A0 40) 5)) (.ref 763) [.ref 1] [] loc (A3 o st [] t n) K) (h : K v (A3 o st' [] t n')) : CodeS x (.ref 756) [.ref 1] [] loc (A3 o st [] t n) K := by
 refine D5 fn756 (loc₀ := [(S "self", .ref 1)]) (fun α vs ks r rk => ?_) (by rfl') (show List.Nodup [S "self"] from by decide +kernel) (by lia) ?_
 ·obtain ⟨v, rfl, r1⟩ := r.one
  obtain rfl := rk.nil
  exact ⟨[(S "self", v)], fun Se => by rfl', rfl, r1, trivial⟩
 ·refine XSs.mid (pre := (fdB (cAt (A0 40) 5)).take 3) (st := nth (fdB (cAt (A0 40) 5)) 3) (post := (fdB (cAt (A0 40) 5)).drop 4) (by rfl') (A1 (B2 (P3 (fun loc K h => (h1 loc K h).call) (fn763.keep _) (A9 _)) (D4 _)) 60 _ _ _ _ ?_)
  rw [gtPre]
  refine ⟨rfl, rfl, rfl, ?_⟩
  show XS _ _ _ _ _
  obtain ⟨p, q⟩ : ∃ p, nth (fdB (cAt (A0 40) 5)) 3 = .While gtE (whB (nth (fdB (cAt (A0 40) 5)) 3)) [] p := ⟨whP (nth (fdB (cAt (A0 40) 5)) 3), by rfl'⟩
  rw [q]
  refine XS.once ?_
  have TO : D8 (inY x (cAt (A0 40) 5)) (A5 D0 XK) := B2 (A9 _) (D4 _)
  rcases hv with rfl | ⟨w, rfl⟩
  ·refine A4 TO 60 true _ _ _ _ ?_
   rw [gtN]
   show XSs _ _ _ _ _
   refine A1 TO 60 _ _ _ _ ?_
   rw [gtB]
   exact ⟨rfl, BodyK.ret (loc := []) h⟩
  ·refine A4 TO 60 true _ _ _ _ ?_
   rw [gtW]
   show XSs _ _ _ _ _
   refine A1 TO 60 _ _ _ _ ?_
   rw [q8J]
   exact BodyK.ret (loc := []) h
theorem nxW {st st' : AV} {w t : List Nat} {n n' : Nat} (KK : KF) : xw (inY x (cAt (A0 40) 10)) (A5 (Y5 756 [.ref 1] (A3 o st [] t n) (.str w) (A3 o st' [] t n') D0) XK) 60 (fdB (cAt (A0 40) 10)) [(S "self", .ref 1)] (A3 o st [] t n) KK =
 ([AV.ref 1] = [AV.ref 1] ∧ A3 o st [] t n = A3 o st [] t n ∧ KK (.ret (.str w)) [(S "self", .ref 1), (S "token", .str w)] (A3 o st' [] t n')) := by rfl'
noncomputable def lN : Loc := [(S "self", .ref 1), (S "token", .none)]
theorem nxN {st st' : AV} {t : List Nat} {n n' : Nat} (KK : KF) : xw (inY x (cAt (A0 40) 10)) (A5 (Y5 756 [.ref 1] (A3 o st [] t n) .none (A3 o st' [] t n') D0) XK) 60 ((fdB (cAt (A0 40) 10)).take 1) [(S "self", .ref 1)] (A3 o st [] t n) KK =
 ([AV.ref 1] = [AV.ref 1] ∧ A3 o st [] t n = A3 o st [] t n ∧ KK .next lN (A3 o st' [] t n')) := by rfl'
theorem cNext (hd : 1 ≤ x.d) {st st' : AV} {w t : List Nat} {n n' : Nat} {K : AV → Sto → Prop} (h1 : ∀ loc (K : AV → Sto → Prop), K (.str w) (A3 o st' [] t n') → CodeS (inY x (cAt (A0 40) 10)) (.ref 756) [.ref 1] [] loc (A3 o st [] t n) K) (h : K (.str w) (A3 o st' [] t n')) : CodeS x (.ref 792) [.ref 1] [] loc (A3 o st [] t n) K := by
 refine D5 fn792 (loc₀ := [(S "self", .ref 1)]) (fun α vs ks r rk => ?_) (by rfl') (show List.Nodup [S "self"] from by decide +kernel) (by lia) (A1 (B2 (P3 (fun loc K h => (h1 loc K h).call) (fn756.keep _) (A9 _)) (D4 _)) 60 _ _ _ _ ?_)
 ·obtain ⟨v, rfl, r1⟩ := r.one
  obtain rfl := rk.nil
  exact ⟨[(S "self", v)], fun Se => by rfl', rfl, r1, trivial⟩
 ·rw [nxW]
  exact ⟨rfl, rfl, BodyK.ret (loc := []) h⟩
end
section
variable {x : SX} {loc : Loc} {sto : Sto} {c : Cx} {α : List Addr} {s : Shared} {o : AO}
theorem q8K (O : Ok x c) (S : Sat x c α loc sto s) (hr : x.fr = true) {out : List Env} (ho : c.outer = c.env :: out) (hf : c.env.frame = some c.env.locals) {h : Heap} {e : Addr} {cls : String} {vs : List Value} {Q : Unit → Shared → Prop} {E : Value → Shared → Prop}
  (hx : Heap.MadeExc s.heap h e cls vs) (hQ : ∀ h', Sat x c α loc sto { s with heap := h' } → ({ s with heap := h' } : Shared).TypeIs (.ref e) cls → Q () { s with heap := h' }) : wpAny (model pw x.w) c.A (leaving c.env (.ref e)) Q E { s with heap := h } := by
 obtain ⟨p1, p2, p3⟩ := O.below hr
 obtain ⟨m, F, l⟩ := S.fr
 have FF := p3 _ _ F
 rw [ho] at p1 p2 FF
 have hin : ∀ env ∈ c.env :: out, ∀ a, env.frame = some a → a ∈ (c.env :: out).filterMap (·.frame) := fun env he b hb => v0T.mpr ⟨env, he, hb⟩
 refine wpAny_leaves_madeW (base := hideAll s.heap ((c.env :: out).filterMap (·.frame))) (h := s.heap) (s := { s with heap := h }) p1 hf (fun b o q => of_hideAll _ q) (funFrames_hide FF hin) hx.of fun h' t x1 x2 x3 x4 => hQ h' ?_ ?_
 ·have up : s.heap.UpToSlots h' := (Heap.UpToSlots.of_keeps hx.keeps).trans x4
  have kp : ∀ b o, b ∉ (c.env :: out).filterMap (·.frame) → s.heap.get? b = some o → h'.get? b = some o := fun b o hb e => x1.1 b o (hideAll_get _ e hb)
  have fs : ∀ b, b ∈ (c.env :: out).filterMap (·.frame) → b ∈ c.fs := p2
  have sl : ∀ b o, s.heap.get? b = some o → ∃ sl, h'.get? b = some { o with slots := sl } := fun b o e => by
   by_cases hb : b ∈ (c.env :: out).filterMap (·.frame)
   ·obtain ⟨_, o', e', hd⟩ := FF.mem hb
    rw [e] at e'; cases e'
    exact up b o e hd
   ·exact ⟨o.slots, kp b o hb e⟩
  have na : ∀ a ∈ α, a ∉ (c.env :: out).filterMap (·.frame) := fun a ha q => by
   rcases O.fd a (p2 a q) with z | ⟨o, z⟩
   ·exact (S.off a ha).1 z
   ·rw [(S.off a ha).2] at z; cases z
  exact ⟨⟨m, ⟨up.ns F.ns, F.keep.comp fun b o _ e => ⟨fun n => kp b o (fun q => n (fs b q)) e, sl b o e⟩, F.off⟩, l⟩, ⟨S.hs.len, S.hs.nd, fun i o e => by
   obtain ⟨a, ob, h1, h2, h3⟩ := S.hs.cell i o e
   exact ⟨a, ob, h1, kp a ob (na a (v0i h1)) h2, h3⟩⟩, S.off, S.os, S.gens, S.cel⟩
 ·exact x1.there
def CodeX (x : SX) (f : Value) (as : List AV) (loc : Loc) (sto : Sto) (cls : String) (K : Sto → Prop) : Prop :=
 ∀ c α s vs (R : Result → Shared → Prop), Ok x c → Sat x c α loc sto s → VRs α as vs → (∀ sto' α' s' e, K sto' → Ex α α' → Sat x c α' loc sto' s' → s'.TypeIs (.ref e) cls → R (.error (.ref e)) s') →
  codeAny (model pw x.w) c.A (.call f ⟨vs, []⟩) R s
theorem q8L : fdB (cAt (A0 40) 10) = (fdB (cAt (A0 40) 10)).take 1 ++ nth (fdB (cAt (A0 40) 10)) 1 :: (fdB (cAt (A0 40) 10)).drop 2 := by rfl'
noncomputable def ifT (s : Stmt) : Expr := A6 (sK s) 0
theorem q8M : ∃ o p1 p2 p3, nth (fdB (cAt (A0 40) 10)) 1 = .If (ifT (nth (fdB (cAt (A0 40) 10)) 1)) [.Raise (some (.Name (S "StopIteration") p1)) none p2] o p3 := ⟨(sB (nth (fdB (cAt (A0 40) 10)) 1)).2, (A6 (sK (nth (sB (nth (fdB (cAt (A0 40) 10)) 1)).1 0)) 0).pos, (nth (sB (nth (fdB (cAt (A0 40) 10)) 1)).1 0).pos, (nth (fdB (cAt (A0 40) 10)) 1).pos, by rfl'⟩
theorem nxT {st : AV} {t : List Nat} {n : Nat} (KK : KA1) : ew (inY x (cAt (A0 40) 10)) (A5 D0 XK) 60 true (ifT (nth (fdB (cAt (A0 40) 10)) 1)) lN (A3 o st [] t n) KK = KK (.bool true) (A3 o st [] t n) := by rfl'
theorem w8 (O : Ok x c) (Sa : Sat x c α loc sto s) {y : Str} {pos : Pos} {v : Value} {Q E : Value → Shared → Prop} (hd : Fast.sEq y "__debug__" = false) (hk : lk x.scope.names y = some .globalImplicit) (hg : m7 y = some v) (h : Q v s) : wpAny (model pw x.w) c.A (eval (.Name y pos) c.env) Q E s := by
 obtain ⟨m, F, l⟩ := Sa.fr
 obtain ⟨mg, mb, Tp⟩ := O.top
 have Tp := Tp.keeps (O.stay F)
 have X := O.gnd.keeps (O.stay F)
 refine Name_function_global O.kind (B8 O hk) ?_ (G3 hd)
 rcases i9 hg with e | ⟨e, e', n⟩
 ·exact loadGlobal_global (by rw [O.glob]; exact Tp.g) (mg_of X Tp.g e) h
 ·exact loadGlobal_builtin (by rw [O.glob]; exact Tp.g) (mg_none_of X Tp.g e) (by rw [O.bi]; exact Tp.b) ((Tp.builtins y n).trans e') h
theorem q8N (hol : o.Lt 7) (hd : 2 ≤ x.d) (hr : x.fr = true) {st st' : AV} {t : List Nat} {n n' : Nat} {K : Sto → Prop} (hs : st'.Lt 7) (h1 : ∀ loc (K : AV → Sto → Prop), K .none (A3 o st' [] t n') → CodeS (inY x (cAt (A0 40) 10)) (.ref 756) [.ref 1] [] loc (A3 o st [] t n) K) (h : K (A3 o st' [] t n')) : CodeX x (.ref 792) [.ref 1] loc (A3 o st [] t n) "StopIteration" K := by
 intro c α s vs R O Sa rv P
 refine U2 (x' := inY x (cAt (A0 40) 10)) (as := [.ref 1]) (kws := []) (loc₀ := [(S "self", .ref 1)]) (fn792.lk _) (fn792.da _) (fn792.bd _) (fn792.sc _) (fn792.gl _) (fn792.bi _) (fn792.cd _) fn792.ce (fun α vs ks r rk => ?_) (by rfl') (show List.Nodup [S "self"] from by decide +kernel) (by lia) rfl fn792.co fn792.ge fn792.ki O Sa rv (ks := []) trivial fun s₁ _ O₁ S₁ => ?_
 ·obtain ⟨v, rfl, r1⟩ := r.one
  obtain rfl := rk.nil
  exact ⟨[(S "self", v)], fun Se => by rfl', rfl, r1, trivial⟩
 ·rw [q8L, E4]
  have TO : D8 (inY x (cAt (A0 40) 10)) (A5 D0 XK) := B2 (A9 _) (D4 _)
  refine v1e (A1 (K := fun f l s => f = FL.next ∧ l = lN ∧ s = A3 o st' [] t n') (B2 (P3 (fun loc K h => (h1 loc K h).call) (fn756.keep _) (A9 _)) (D4 _)) 60 _ _ _ (by
   rw [nxN (n' := n') (st' := st')]
   exact ⟨rfl, rfl, rfl, rfl, rfl⟩) _ _ _ _ _ O₁ S₁ fun f l2 s2 α2 t2 fl hf g2 S2 r2 => ?_)
  obtain ⟨rfl, rfl, rfl⟩ := hf
  obtain rfl : fl = .next := r2
  obtain ⟨a, p1, p2, p3, q⟩ := q8M
  show wpAny _ _ (execs (nth (fdB (cAt (A0 40) 10)) 1 :: _) _) _ _ _
  rw [q]
  refine v1m (wpAny_If (A4 (K := fun v s => v = AV.bool true ∧ s = A3 o st' [] t n') TO 60 true _ _ _ (by
   rw [nxT]
   exact ⟨rfl, rfl⟩) _ _ _ _ _ O₁ S2 fun b s3 α3 t3 hb g3 S3 => ?_))
  obtain ⟨e, rfl⟩ := hb
  cases e
  first | refine v1r (decide_eq_true rfl) ?_ | rw [if_pos rfl]
  refine v1m (owsi_raiseC O₁.hh (w8 O₁ S3 (by rfl') (by rfl') (by rfl') ⟨rfl, rfl⟩) fun h' e hm => ?_)
  refine q8K O₁ S3 hr rfl rfl hm fun h'' S5 T5 => ?_
  have ex := g2.trans g3
  obtain ⟨β, rfl⟩ := ex
  have la := Sa.hs.len
  refine P (A3 o st' [] t n') _ _ e h .refl (Sat.back (g := hideAll s.heap α) Sa rfl rfl (fun b hb => c7 Sa b hb) (V8 Sa) (V7 Sa) S5 .refl (fun a ha => List.mem_append_left _ ha) (HS.cut (show HS (α ++ β) (A3 o st' [] t n' ++ []) h'' from by rw [v0H]; exact S5.hs) la.symm (by rw [la]; exact t7 hol hs [] t n'))) T5
end
theorem fn785 : FnOk 785 k785 (cAt (A0 40) 9) := by constructor <;> rfl'
structure LexOk (P : Params) : Prop where
 it : findIn (KK P) (.ref sC) "__iter__" = some (some (.ref 785))
 nx : findIn (KK P) (.ref sC) "__next__" = some (some (.ref 792))
 ln : findIn (KK P) (.ref sC) "__len__" = some none
 lh : findIn (KK P) (.ref sC) "__length_hint__" = some none
 fi : typeIn (KK P) (.ref 785) = some (.type "function")
 fx : typeIn (KK P) (.ref 792) = some (.type "function")
theorem q0N (P : Params) : LexOk P := ⟨by rfl', by rfl', by rfl', by rfl', by rfl', by rfl'⟩
section
variable {M : Model} {A : Around} {E : Value → Shared → Prop} {s : Shared} {K : Frag} {x C f : Addr} {ox : Obj} {od : Option Obj}
theorem q1V {Q : Option Value → Shared → Prop} (X : K.In s.heap) (I : InstAt s.heap x ox C od) (hs : findIn K (.ref C) "__next__" = some (some (.ref f))) (hf : typeIn K (.ref f) = some (.type "function"))
  (h : wpAny M A (call (.ref f) [.ref x]) (fun v s' => Q (some v) s') (OwitStop M A Q E) s) : wpAny M A (pyNext (.ref x)) Q E s := by
 unfold pyNext
 refine v1e (wpAny_attempt (special_fn (name := "__next__") (args := []) X I hs hf (v1j h (fun v s' hq => ?_) (fun e s' he => ?_))))
 ·exact v1h hq
 ·refine v1e (v1j he (fun b s₂ hb => ?_) fun _ _ z => z)
  cases b with
  | true => exact v1h hb
  | false => exact wpAny_throw hb
theorem q6W {Q : Value → Shared → Prop} (X : K.In s.heap) (I : InstAt s.heap x ox C od) (hs : findIn K (.ref C) "__iter__" = some (some (.ref f))) (hf : typeIn K (.ref f) = some (.type "function"))
  (h : wpAny M A (call (.ref f) [.ref x]) (OwitIt M A Q E) E s) : wpAny M A (pyIter (.ref x)) Q E s := by
 have fin : wpAny M A (call (.ref f) [.ref x] >>= fun v => pure (some v)) (fun r s' => ∃ v, r = some v ∧ OwitIt M A Q E v s') E s :=
  v1e (v1j h (fun v s' h' => v1h ⟨v, rfl, h'⟩) fun _ _ z => z)
 have one : ∀ refuse : Sem Value, wpAny M A (callSpecialIfBoundUnlessNone? (.ref x) "__iter__" refuse) (fun r s' => ∃ v, r = some v ∧ OwitIt M A Q E v s') E s := by
  intro refuse
  simp only [callSpecialIfBoundUnlessNone?, bindSpecialIfBound?]
  refine v1g (v1e (v1e (v1e (I.type.here ((looks_findIn X hs).here ?_)))))
  refine v1e (wpAny_askSetting (wpAny_ite ?_))
  have fin2 : wpAny M A (if (Value.ref f == Value.none) = true then (refuse >>= fun v => pure (some v)) else (call (.ref f) [.ref x] >>= fun v => pure (some v))) (fun r s' => ∃ v, r = some v ∧ OwitIt M A Q E v s') E s := by
   first | refine v1s (decide_eq_false (show ¬ ((Value.ref f == Value.none) = true) from v0o)) ?_ | rw [if_neg (show ¬ ((Value.ref f == Value.none) = true) from v0o)]
   exact fin
  split
  ·exact v1e ((bind_fn X _ hf).here (v1h (by exact fin2)))
  ·exact wpAny_tryCatch (v1e ((bind_fn X _ hf).here (v1h (by exact fin2))))
 unfold pyIter
 refine v1e (v1e (I.type.here ((looks_findIn X hs).here ?_)))
 show wpAny M A (callSpecialIfBoundUnlessNone? (.ref x) "__iter__" _ >>= _) Q E s
 refine v1e (v1j (one _) (fun r s' hr => ?_) fun _ _ z => z)
 obtain ⟨v, rfl, hv⟩ := hr
 refine v1e (v1j hv (fun r s₂ hr => ?_) fun _ _ z => z)
 cases r with
 | none => exact hr.elim
 | some g => exact v1h hr
theorem q6X {Q : Value → Shared → Prop} {g : Value} (X : K.In s.heap) (I : InstAt s.heap x ox C od) (hs : findIn K (.ref C) "__next__" = some (some g)) (h : Q (.ref x) s) : OwitIt M A Q E (.ref x) s := by
 unfold OwitIt
 exact v1e (I.type.here ((looks_findIn X hs).here h))
end
section
variable {x : SX} {loc : Loc} {sto : Sto} {K : AV → Sto → Prop} {c : Cx} {α : List Addr} {s : Shared} {o : AO}
theorem cIter (hd : 1 ≤ x.d) {i : Nat} (h : K (.ref i) sto) : CodeS x (.ref 785) [.ref i] [] loc sto K := by
 refine D5 fn785 (loc₀ := [(S "self", .ref i)]) (fun α vs ks r rk => ?_) (by rfl') (show List.Nodup [S "self"] from by decide +kernel) hd (A1 (B2 (A9 _) (D4 _)) 40 _ _ _ _ ?_)
 ·obtain ⟨v, rfl, r1⟩ := r.one
  obtain rfl := rk.nil
  exact ⟨[(S "self", v)], fun Se => by rfl', rfl, r1, trivial⟩
 ·have e : ∀ (KK : KF), xw (inY x (cAt (A0 40) 9)) (A5 D0 XK) 40 (fdB (cAt (A0 40) 9)) [(S "self", .ref i)] sto KK = KK (.ret (.ref i)) [(S "self", .ref i)] sto := fun KK => by rfl'
  rw [e]
  exact BodyK.ret h
theorem CodeX.at {f : Value} {as : List AV} {cls : String} {K : Sto → Prop} (h : CodeX (dn x) f as loc sto cls K) (O : Ok x c) (S : Sat x c α loc sto s) {A : Around} (h1 : A.handled = c.A.handled) (h2 : A.depth = c.A.depth) (h3 : A.frames = c.A.frames) (h4 : A.units ≤ c.A.units + 5) (hd : 1 ≤ x.d) {vs : List Value} {R : Result → Shared → Prop}
  (rv : VRs α as vs) (P : ∀ sto' α' s' e, K sto' → Ex α α' → Sat x c α' loc sto' s' → s'.TypeIs (.ref e) cls → R (.error (.ref e)) s') : codeAny (model pw x.w) A (.call f ⟨vs, []⟩) R s :=
 h (atA c A) α s vs R (O.at h1 h2 h3 h4 hd) (S.at A) rv fun sto' α' s' e hv g S' t => P sto' α' s' e hv g S'.off_ t
def Line (t : List Nat) : Nat → List (List Nat) → Prop
 | n, [] => n = t.length
 | n, w :: ws => a6 t n w ∧ w ≠ [] ∧ (match ws with
  | [] => t.length = n + 2 + w.length
  | _ :: _ => t[n + 2 + w.length]? = some 32 ∧ Line t (n + 3 + w.length) ws)
noncomputable def sOf (ws : List (List Nat)) : AV := match ws with
 | [] => .none
 | _ :: _ => .str [32]
noncomputable def nOf (t : List Nat) (n : Nat) (w : List Nat) (ws : List (List Nat)) : Nat := match ws with
 | [] => t.length
 | _ :: _ => n + 3 + w.length
theorem Line.next {t w : List Nat} {n : Nat} {ws : List (List Nat)} (h : Line t n (w :: ws)) : a6 t n w ∧ w ≠ [] ∧ ((t[n + 2 + w.length]? = some 32 ∧ nOf t n w ws = n + 3 + w.length ∧ sOf ws = .str [32]) ∨ (t.length = n + 2 + w.length ∧ nOf t n w ws = t.length ∧ sOf ws = .none)) ∧ Line t (nOf t n w ws) ws := by
 obtain ⟨h1, h2, h3⟩ := h
 cases ws with
 | nil => exact ⟨h1, h2, .inr ⟨h3, rfl, rfl⟩, rfl⟩
 | cons w' ws => exact ⟨h1, h2, .inl ⟨h3.1, rfl, rfl⟩, h3.2⟩
theorem nextW (hol : o.Lt 7) (hd : 5 ≤ x.d) {t w : List Nat} {n : Nat} {ws : List (List Nat)} (hz : t.length ≤ 100000) (L : Line t n (w :: ws)) (h : K (.str w) (A3 o (sOf ws) [] t (nOf t n w ws))) : CodeS x (.ref 792) [.ref 1] [] loc (A3 o (.str [32]) [] t n) K := by
 obtain ⟨W, hw, he, _⟩ := L.next
 exact cNext (by lia) (fun loc K h => cGet (x := inY x (cAt (A0 40) 10)) (by show 2 ≤ x.d - 1; lia) (.inr ⟨w, rfl⟩) (fun loc K h => cTok (x := inY (inY x (cAt (A0 40) 10)) (cAt (A0 40) 5)) hol (by show 3 ≤ x.d - 1 - 1; lia) hz W hw he h) h) h
theorem nextE (hol : o.Lt 7) (hr : x.fr = true) (hd : 5 ≤ x.d) {t : List Nat} {st : AV} (hst : st = .none ∨ st = .str [32]) (hz : t.length ≤ 100000) {K : Sto → Prop} (h : K (A3 o .none [] t t.length)) : CodeX x (.ref 792) [.ref 1] loc (A3 o st [] t t.length) "StopIteration" K :=
 q8N (st' := .none) hol (by lia) hr trivial (fun loc K h => cGet (x := inY x (cAt (A0 40) 10)) (by show 2 ≤ x.d - 1; lia) (.inl rfl) (fun loc K h => cEof (x := inY (inY x (cAt (A0 40) 10)) (cAt (A0 40) 5)) (by show 3 ≤ x.d - 1 - 1; lia) hz hst h) h) h
theorem Ex.two {α α' : List Addr} (g : Ex α α') {i : Nat} {a : Addr} (h : α[i]? = some a) : α'[i]? = some a := by
 obtain ⟨β, rfl⟩ := g
 rw [q9V (q9W.mp h).1]; exact h
theorem q6Y (hr : x.fr = true) (hd : 6 ≤ x.d) (O : Ok x c) {t : List Nat} (hz : t.length ≤ 100000) {A : Around} (h1 : A.handled = c.A.handled) (h2 : A.depth = c.A.depth) (h3 : A.frames = c.A.frames) (h4 : A.units ≤ c.A.units + 3) {a Sa : Addr} {res : Value} : ∀ (ws : List (List Nat)) (acc : List (List Nat)) (n : Nat) (st : AV) (α : List Addr) (s : Shared) {R : Result → Shared → Prop},
  acc.length + ws.length ≤ 100000 → Line t n ws → (st = .str [32] ∨ (st = .none ∧ ws = [])) → α[1]? = some a → α[6]? = some Sa → Sat x c α loc (A3 (.lsS acc) st [] t n) s →
  (∀ α' s', Ex α α' → Sat x c α' loc (A3 (.lsS (acc ++ ws)) .none [] t t.length) s' → R (.ok (.ret res)) s') → codeAny (model pw x.w) A (.builtin "list.extend.loop" ⟨[.ref Sa, .ref a, res], []⟩) R s := by
 intro ws
 induction ws with
 | nil =>
  intro acc n st α s R hl L hst ha hS Sx hR
  obtain rfl : n = t.length := L
  refine codeAny_builtin PySem.F.entry_extend_loop ?_
  rw [Around.under_plainId PySem.F.plain_extend_loop _]
  show wpAny _ A.in1 (pyNext (.ref a) >>= _) _ _ s
  obtain ⟨dx, es, k, i1, i2, i3, I⟩ := Sx.inst (i := 1) (j := 0) rfl rfl ha
  have lx := q0N x.w.params
  refine v1e (q1V (Sx.gnd O) I lx.nx lx.fx (v1q (CodeX.at (x := x) (A := A.in1) (vs := [.ref a]) (K := fun s => s = A3 (.lsS acc) .none [] t t.length) (nextE (x := dn x) (o := .lsS acc) trivial hr (by show 5 ≤ x.d - 1; lia) (hst.elim .inr fun q => .inl q.1) hz rfl) O Sx h1 h2 h3 (by show A.units + 1 ≤ c.A.units + 5; lia) (by lia) (as := [.ref 1]) ⟨⟨a, ha, rfl⟩, trivial⟩ fun sto' α' s' e hv g S' T' => ?_)))
  subst hv
  show OwitStop _ _ _ _ _ _
  unfold OwitStop
  refine wpAny_isInstance T' isSubtype_stop ?_
  show (if true = true then _ else _)
  first | refine v1r (decide_eq_true rfl) ?_ | rw [if_pos rfl]
  exact v1h (hR α' s' g (by rw [v0H]; exact S'))
 | cons w ws ih =>
  intro acc n st α s R hl L hst ha hS Sx hR
  obtain rfl : st = .str [32] := hst.elim id fun q => by cases q.2
  refine codeAny_builtin PySem.F.entry_extend_loop ?_
  rw [Around.under_plainId PySem.F.plain_extend_loop _]
  show wpAny _ A.in1 (pyNext (.ref a) >>= _) _ _ s
  obtain ⟨dx, es, k, i1, i2, i3, I⟩ := Sx.inst (i := 1) (j := 0) rfl rfl ha
  have lx := q0N x.w.params
  refine v1e (q1V (Sx.gnd O) I lx.nx lx.fx (v1q (CodeS.at (x := x) (A := A.in1) (vs := [.ref a]) (K := fun v s => v = .str w ∧ s = A3 (.lsS acc) (sOf ws) [] t (nOf t n w ws)) (nextW (x := dn x) (o := .lsS acc) trivial (by show 5 ≤ x.d - 1; lia) hz L ⟨rfl, rfl⟩) O Sx h1 h2 h3 (by show A.units + 1 ≤ c.A.units + 5; lia) (by lia) (as := [.ref 1]) (ks := []) ⟨⟨a, ha, rfl⟩, trivial⟩ trivial fun v sto' α' s' val hv g S' r => ?_)))
  obtain ⟨rfl, rfl⟩ := hv
  have hS' := g.two hS
  obtain ⟨ob, e2, e3⟩ := S'.objAt hS' rfl
  obtain ⟨c1, ⟨c2, c3⟩, vs, m, c4, c5⟩ := e3
  obtain ⟨oc, od, odt, osl⟩ := ob
  dsimp only at c1 c2 c3 c4
  subst c1 c2 c3 c4
  have vl := c5.length
  rw [v0I] at vl
  simp only [v0U] at hl
  have vz : vs.size ≤ 100000 := by have q : acc.length = vs.size := vl; lia
  show wpAny _ A.in1 (updateSeq Sa (·.push val) >>= _) _ _ _
  refine v1e ?_
  refine v1p e2 rfl (v1h ⟨plainId_quiet PySem.F.plain_extend_loop _, ?_⟩) (sz (by lia)) (by show (vs.push val).size ≤ _; rw [Array.size_push]; exact Nat.succ_le_succ (sz (by lia)))
  refine ih (acc ++ [w]) (nOf t n w ws) (sOf ws) α' _ (by rw [v0G]; simp only [v0U, List.length_nil]; lia) L.next.2.2.2 (by cases ws with | nil => exact .inr ⟨rfl, rfl⟩ | cons _ _ => exact .inl rfl) (g.two ha) hS' (S'.upd (i := 6) (ao := .lsS (acc ++ [w])) (n := s'.toks) hS' e2 ⟨rfl, ⟨rfl, rfl⟩, _, _, rfl, ?_⟩ rfl) fun α'' s'' g' S'' => ?_
  ·show VRs α' ((acc ++ [w]).map AV.str) (vs.push val).toList
   rw [Array.toList_push, v0M]
   exact c5.append ⟨r, trivial⟩
  ·refine hR α'' s'' (g.trans g') ?_
   rw [v0P] at S''
   exact S''
noncomputable def lex6 (st : AV) (t : List Nat) : Sto := W2 st [] :: .inst sC 0 :: sio t ((0 : Nat) : Int) :: .inst iC 2 :: .raw dqO :: [.raw dqO]
theorem cList (hr : x.fr = true) (hd : 6 ≤ x.d) {t : List Nat} {ws : List (List Nat)} {st : AV} (hz : t.length ≤ 100000) (hw : ws.length ≤ 100000) (L : Line t 0 ws) (hst : st = .str [32] ∨ (st = .none ∧ ws = [])) (h : K (.ref 6) (A3 (.lsS ws) .none [] t t.length)) : CallS x (.type "list") [.ref 1] [] loc (lex6 st t) K := by
 intro c α s vs ks Q E O Sx rv rk P
 obtain ⟨v, rfl, a, ha, rfl⟩ := rv.one
 obtain rfl := rk.nil
 show wpAny _ _ (call (.type "list") [.ref a]) _ _ _
 refine callType_codes (Q₁ := fun obj s₁ => obj = .ref s.heap.objs.size ∧ s₁ = { s with heap := s.heap.push { cls := .type "list", data := .seq #[] } }) PySem.F.called_list (PySem.F.typeCall_list_1 _) PySem.F.entry_list_init
  (code_list_new _ ⟨rfl, rfl⟩) fun obj s₁ h₁ => ?_
 obtain ⟨rfl, rfl⟩ := h₁
 have hS : (s.heap.push { cls := .type "list", data := .seq #[] }).get? s.heap.objs.size = some { cls := .type "list", data := .seq #[] } := v0e _ rfl
 have S1 := Sx.push (ao := .lsS []) (o := { cls := .type "list", data := .seq #[] }) (n := s.toks) ⟨rfl, ⟨rfl, rfl⟩, #[], _, rfl, trivial⟩ rfl
 have l6 : α.length = 6 := Sx.hs.len
 have e6 : (α ++ [s.heap.objs.size])[6]? = some s.heap.objs.size := by rw [v0d (by lia), show 6 - α.length = 0 by lia]; rfl
 have e1 : (α ++ [s.heap.objs.size])[1]? = some a := by rw [q9V (by lia)]; exact ha
 have S1 : Sat x c (α ++ [s.heap.objs.size]) loc (A3 (.lsS []) st [] t 0) { s with heap := s.heap.push { cls := .type "list", data := .seq #[] } } := S1
 have hne : s.heap.objs.size ≠ a := fun q => by
  obtain ⟨ob, p2, _⟩ := Sx.objAt ha rfl
  exact absurd (v0a p2) (by rw [q]; exact Nat.lt_irrefl _)
 generalize s.heap.objs.size = Sa at *
 generalize hs₁ : ({ s with heap := s.heap.push { cls := .type "list", data := .seq #[] } } : Shared) = s₁ at *
 have hS : s₁.heap.get? Sa = some { cls := .type "list", data := .seq #[] } := by rw [← hs₁]; exact hS
 refine ⟨⟨_, hS, rfl⟩, PySem.F.args_list_init_2 _ _, ?_⟩
 show wpAny _ c.A.in1.in1 (do let old ← Builtin.List.listItems (.ref Sa); Builtin.List.listUpdate (.ref Sa) (fun _ => #[]); letGo old.toList.reverse; Builtin.List.listExtendWith (.ref Sa) (.ref a) .none) _ _ s₁
 refine v1e ?_
 unfold Builtin.List.listItems
 refine v1e (wpAny_seqItems hS rfl (v1h ?_))
 show wpAny _ _ (updateSeq Sa (fun _ => #[]) >>= fun _ => letGo (#[] : Array Value).toList.reverse >>= fun _ => Builtin.List.listExtendWith (.ref Sa) (.ref a) .none) _ _ s₁
 refine v1e (v1p hS rfl ?_)
 have S2 := S1.upd (i := 6) (ao := .lsS []) (n := s₁.toks) (f := Obj.mapSeq (fun _ => (#[] : Array Value))) e6 hS ⟨rfl, ⟨rfl, rfl⟩, #[], _, rfl, trivial⟩ rfl
 have hS₂ := v0k (Obj.mapSeq (fun _ => (#[] : Array Value))) hS rfl
 refine v1e (wpAny_letGo ?_)
 have S2 : Sat x c (α ++ [Sa]) loc (A3 (.lsS []) st [] t 0) { s₁ with heap := s₁.heap.update Sa (Obj.mapSeq (fun _ => (#[] : Array Value))) } := S2
 have hS₂ : ∃ k, ({ s₁ with heap := s₁.heap.update Sa (Obj.mapSeq (fun _ => (#[] : Array Value))) } : Shared).heap.get? Sa = some { cls := .type "list", data := .seq #[] k } := ⟨_, hS₂⟩
 generalize ({ s₁ with heap := s₁.heap.update Sa (Obj.mapSeq (fun _ => (#[] : Array Value))) } : Shared) = s₂ at *
 unfold Builtin.List.listExtendWith
 obtain ⟨dx, es, k, i1, i2, i3, I⟩ := S2.inst (i := 1) (j := 0) rfl rfl e1
 have lx := q0N x.w.params
 refine v1e (I.type.here ?_)
 have q1 : Builtin.List.listSameRef (.ref Sa) (.ref a) = false := by simp [Builtin.List.listSameRef, hne]
 have q2 : (Value.ref sC == Value.type "list") = false := rfl
 have q3 : (Value.ref sC == Value.type "tuple") = false := rfl
 simp only [q1, q2, q3, Bool.or_false, v0C, if_false]
 refine v1e (q6W (S2.gnd O) I lx.it lx.fi (v1q (CodeS.at (x := x) (A := c.A.in1.in1) (vs := [.ref a]) (K := fun v s => v = .ref 1 ∧ s = A3 (.lsS []) st [] t 0) (cIter (x := dn x) (by show 1 ≤ x.d - 1; lia) ⟨rfl, rfl⟩) O S2 rfl rfl rfl (by show c.A.units + 1 + 1 ≤ c.A.units + 5; lia) (by lia) (as := [.ref 1]) (ks := []) ⟨⟨a, e1, rfl⟩, trivial⟩ trivial fun v sto' α' s3 val hv g S3 r => ?_)))
 obtain ⟨rfl, rfl⟩ := hv
 obtain ⟨a', ha', rfl⟩ := r
 have e1' := g.two e1
 rw [e1'] at ha'; cases ha'
 obtain ⟨dx', es', k', j1, j2, j3, I'⟩ := S3.inst (i := 1) (j := 0) rfl rfl e1'
 show OwitIt _ _ _ _ _ _
 refine q6X (S3.gnd O) I' lx.nx ?_
 refine v1e (v1g ?_)
 unfold Builtin.List.listLengthHint
 have X3 := S3.gnd O
 refine v1e (v1e (I'.type.here ((looks_findIn X3 lx.ln).here ?_)))
 show wpAny _ _ (specialOf (Value.ref a) (Str.ofString "__length_hint__") >>= _) _ _ _
 refine v1e (v1e (I'.type.here ((looks_findIn X3 lx.lh).here ?_)))
 refine v1h ?_
 show wpAny _ _ (rule "list.extend.makes-room" >>= fun _ => Builtin.List.listTouch (.ref Sa) >>= fun _ => again (.builtin "list.extend.loop" ⟨[.ref Sa, .ref a, .none], []⟩)) _ _ _
 have e6' := g.two e6
 obtain ⟨ob, p2, p3⟩ := S3.objAt e6' rfl
 obtain ⟨c1, ⟨c2, c3⟩, vs, m, c4, c5⟩ := p3
 obtain ⟨oc, od, odt, osl⟩ := ob
 dsimp only at c1 c2 c3 c4
 subst c1 c2 c3 c4
 have vl : 0 = vs.size := c5.length
 obtain rfl : vs = #[] := Array.eq_empty_of_size_eq_zero vl.symm
 refine v1e (wpAny_rule ?_)
 refine v1e ?_
 show wpAny _ _ (updateSeq Sa (·.push .none) >>= fun _ => updateSeq Sa (·.pop)) _ _ _
 refine v1e (v1p p2 rfl ?_)
 have S4 := S3.upd (i := 6) (ao := .lst [.none]) (n := s3.toks) e6' p2 (f := Obj.mapSeq (·.push Value.none)) ⟨rfl, ⟨rfl, rfl⟩, _, _, rfl, rfl, trivial⟩ rfl
 have p4 := v0k (Obj.mapSeq (·.push Value.none)) p2 rfl
 refine v1p (hz := by seq_fits) p4 rfl ?_
 have S5 := S4.upd (i := 6) (ao := .lsS []) (n := s3.toks) e6' p4 (f := Obj.mapSeq (·.pop)) ⟨rfl, ⟨rfl, rfl⟩, #[], _, rfl, trivial⟩ rfl
 have S5 : Sat x c α' loc (A3 (.lsS []) st [] t 0) { s3 with heap := (s3.heap.update Sa (Obj.mapSeq (·.push Value.none))).update Sa (Obj.mapSeq (·.pop)) } := S5
 refine v1h ⟨plainId_quiet PySem.F.plain_extend_loop _, q6Y (A := c.A.in1) hr hd O hz rfl rfl rfl (by show c.A.units + 1 ≤ c.A.units + 3; lia) ws [] 0 st α' _ (by simp only [List.length_nil]; lia) L hst e1' e6' S5 fun α'' s'' g' S'' => ?_⟩
 exact ⟨rfl, P _ _ _ _ _ h ((Ex.push).trans (g.trans g')) S'' ⟨Sa, g'.two e6', rfl⟩⟩
end
theorem q3O {α : Type} {K : Frag} {M : Model} {A : Around} {E : Value → Shared → Prop} {Q : α → Shared → Prop} {s : Shared} (X : K.In s.heap) (t : Sem α) :
  (peekA K ⟨M.prog, M.w.params⟩ t).elim False (fun p => wpAny M A (p.2 s.heap.objs.size) Q E { s with heap := s.heap.push p.1 }) → wpAny M A t Q E s := by
 induction t with
 | rule _ k ih => exact fun h Γ p hΓ => ih () h Γ p hΓ
 | point _ k ih => exact fun h Γ p hΓ => ih () h Γ p hΓ
 | ask k ih => exact fun h Γ p hΓ => ih _ h Γ p hΓ
 | load a _ k ih =>
  intro h Γ p hΓ
  cases ho : K.lookup a with
  | none => simp only [peekA, ho] at h; exact h.elim
  | some ob => simp only [peekA, ho] at h; exact ⟨ob, X _ _ ho, ih ob h Γ p hΓ⟩
 | alloc ob k _ => exact fun h => v1e (m := alloc ob) (f := k) (wpAny_alloc h)
 | _ => exact fun h => False.elim h
theorem U5 {α : Type} {K : Frag} {M : Model} {A : Around} {E : Value → Shared → Prop} {Q : α → Shared → Prop} {s : Shared} {o : Obj} (X : K.In s.heap) (t : Sem α) (g : Addr → Sem α) (e : peekA K ⟨M.prog, M.w.params⟩ t = some (o, g)) (q : wpAny M A (g s.heap.objs.size) Q E { s with heap := s.heap.push o }) : wpAny M A t Q E s :=
 q3O X t (by rw [e]; exact q)
structure IoOk (P : Params) : Prop where
 lk : (KK P).lookup 660 = some (k660 P)
 mb : ∀ St, peek (KK P) St (Bind.madeBy (.ref 660)) = some none
 it : ∀ St, peek (KK P) St (isInstance (.ref 660) (.type "type")) = some true
 mr : ∀ St, peek (KK P) St (mroOf (.ref 660)) = some [(.ref 660), (.ref 183), (.ref 156), (.type "object")]
 cl : ∀ St, peek (KK P) St (specialOf (.ref 660) "__call__") = some (some (.builtin "type.__call__"))
 ss : ∀ St, peek (KK P) St (isSubtype (.ref 660) (.ref 660)) = some true
 ty : typeIn (KK P) (.ref 660) = some (.type "type")
 re : readsIn (KK P) 660 (.type "type") = true
 fc : findCls (KK P) (.ref 660) (.type "type") (S "__new__") = some (.get (.builtin "staticmethod.__get__") (.ref 157) .none (.ref 660))
 rc : recIn (KK P) 157 "staticmethod" = some (.ref 153 :: [])
 ini : findIn (KK P) (.ref 660) "__init__" = some (some (.ref 430))
 fi : typeIn (KK P) (.ref 430) = some (.type "function")
 on : findCls (KK P) (.type "object") (.type "type") (S "__new__") = some (.val (.builtin "object.__new__"))
theorem q5H (P : Params) : IoOk P := ⟨by rfl', fun St => by rfl', fun St => by rfl', fun St => by rfl', fun St => by rfl', fun St => by rfl', by rfl', by rfl', by rfl', by rfl', by rfl', by rfl', by rfl'⟩
section
variable {w : World} {A : Around} {s : Shared} {R : Result → Shared → Prop} {Q E : Value → Shared → Prop}
@[irreducible] noncomputable def nG (P : Params) (St : Setting) (t : Sem Fin) : Addr → Sem Fin := ((peekA (KK P) St t).getD (emptyDict, fun _ => pure (.done (.ret .none)))).2
noncomputable abbrev nT : Sem Fin := Builtin.«object.__new__» ⟨[.ref 660], []⟩
theorem nio0 (P : Params) (St : Setting) : peek (KK P) St (checkBuiltinCall "object.__new__" ⟨[.ref 660], []⟩) = some () := by rfl'
theorem nio1 (P : Params) (St : Setting) : peekA (KK P) St nT = some (emptyDict, nG P St nT) := by rfl'
theorem nio2 (P : Params) (St : Setting) (a : Addr) : peekA (KK P) St (nG P St nT a) = some (instObj iC a, nG P St (nG P St nT a)) := by rfl'
theorem nio3 (P : Params) (St : Setting) (a b : Addr) : peek (KK P) St (nG P St (nG P St nT a) b) = some (.done (.ret (.ref b))) := by rfl'
theorem q6Z (X : (KK w.params).In s.heap) {Q : Fin → Shared → Prop} {E : Value → Shared → Prop} (hq : Q (.done (.ret (.ref (s.heap.push emptyDict).objs.size))) { s with heap := (s.heap.push emptyDict).push (instObj iC s.heap.objs.size) }) : wpAny (model pw w) A nT Q E s := by
 have X1 : (KK w.params).In (s.heap.push emptyDict) := X.keeps fun b o e => q9X _ e
 have X2 : (KK w.params).In ((s.heap.push emptyDict).push (instObj iC s.heap.objs.size)) := X1.keeps fun b o e => q9X _ e
 refine U5 X nT _ (nio1 _ _) ?_
 refine U5 (s := { s with heap := s.heap.push emptyDict }) X1 _ _ (nio2 _ _ _) ?_
 exact (Looks.of_peek X2 (nio3 _ _ _ _)).here hq
theorem q8O (X : (KK w.params).In s.heap) (hq : R (.ok (.ret (.ref (s.heap.objs.size + 1)))) { s with heap := (s.heap.push emptyDict).push (instObj iC s.heap.objs.size) }) :
  codeAny (model pw w) A (.call (.builtin "object.__new__") ⟨[.ref 660], []⟩) R s := by
 have L : Looks (model pw w) s.heap (checkBuiltinCall "object.__new__" ⟨[.ref 660], []⟩) () := Looks.of_peek X (nio0 _ _)
 have F := PySem.F.objNew
 refine codeAny_call_builtin_code (Code.quiet_builtin _ F.quiet) (L.here ?_)
 refine codeAny_builtin F.entry (q6Z X ?_)
 show R (.ok (.ret (.ref _))) _
 rw [v0E]
 exact hq
theorem q3P {name : Str} {K : Frag} {T : String} {v : Value} {pl : Sem Bool} {Q : Value × List Value → Shared → Prop} (X : K.In s.heap) (ht : typeOf (.type T) = pure (.type "type")) (hs : Manifest.isStub T = false)
  (e : findCls K (.type T) (.type "type") name = some (.val v)) (hh : handedIn v = true) (h : Q (v, []) { s with toks := s.toks + 1 }) : wpAny (model pw w) A (getMethod (.type T) name pl) Q E s := by
 have hstub : opaqueClassAbove (.type T) = pure none := by unfold opaqueClassAbove; dsimp only; rw [hs]; rfl
 have L0 : Looks (model pw w) s.heap (typeOf (.type T)) (.type "type") := Looks.of_pure ht
 have hg : findIn K (.type "type") "__getattribute__" = some (some (.builtin "type.__getattribute__")) := type_tga
 unfold getMethod specialOf
 refine v1e (v1e (L0.here ((looks_findIn X hg).here ?_)))
 dsimp only
 first | refine v1r (decide_eq_true canon_tga) ?_ | rw [if_pos canon_tga]
 refine v1e (v1j (Q := fun v => Q (v, [])) (E := E) ?_ (fun _ _ z => v1h z) fun _ _ z => z)
 have LO : Looks (model pw w) s.heap (opaqueClassAbove (.type T)) none := Looks.of_pure hstub
 refine cls_open X LO L0 hg (looks_hook X (r := none) (by rfl)) (by show subIn K _ _ = _; rfl) e
  (v1h (by show wpAny _ _ (handedOut v) _ _ _; rw [handedOut_of hh]; exact v1h h))
theorem q3Q {a : Addr} {o : Obj} {fd : FuncData} {body : List Stmt} {args : Args} {binds : List (Str × Value)} {s₁ : Shared}
  (hroom : A.depth < recursionLimit) (ho : s.heap.get? a = some o) (hdata : o.data = .func fd) (hlim : s₁.heap.NoLimit) (hcd : s.heap.CodeRec fd.code fd.qualname)
  (hbody : fd.body = .stmts body) (hbind : ∀ (Q : List (Str × Value) → Shared → Prop) E, Q binds s₁ → wpAny (model pw w) A.in1 (bindArgs fd args) Q E s)
  (hcell : ∀ x ∈ fd.scope.names, x.2 ≠ .cell) (hloc : ∀ x ∈ binds, fd.scope.names.lookup x.1 = some .local)
  (h : ∀ h₀, h₀.Ns s₁.heap.objs.size (fun x => binds.reverse.lookup x) → (∀ b o, s₁.heap.get? b = some o → h₀.get? b = some o) →
   wpAny (model pw w) (A.deeper (callEnv fd s₁.heap.objs.size a)) (execs body (callEnv fd s₁.heap.objs.size a)) (fun f s' => R (.ok (.ret (match f with | .ret v => v | _ => .none))) s')
    (fun e s' => wpAny (model pw w) (A.deeper (callEnv fd s₁.heap.objs.size a)) (leaving (callEnv fd s₁.heap.objs.size a) e) (fun _ s'' => R (.error e) s'') (fun e' s'' => R (.error e') s'') s')
    { s₁ with heap := h₀, toks := s₁.toks + binds.length })
  (hco : fd.scope.isCoroutine = false) (hgen : fd.scope.isGenerator = false) (hk : fd.scope.kind = .function) :
  codeAny (model pw w) A (.call (.ref a) args) R s := by
 refine codeAny_call_function hroom ho hdata hco hgen hbody hcd (hbind _ _ ?_)
 refine wpAny_newFunctionEnv hcell hloc (fun h₀ hns₀ hsb₀ => ⟨hlim.fresh _ hsb₀, codeAny_func (h h₀ hns₀ fun b o e => ?_)⟩) hk
 exact hsb₀.extBut b o (Nat.ne_of_lt (v0a e)) (q9X _ e)
end
section
variable {x : SX} {loc : Loc} {sto : Sto} {K : AV → Sto → Prop} {c : Cx} {α : List Addr} {s : Shared}
theorem q8P {s₁ : Shared} {args : Args} {f : Addr} {o : Params → Obj} {st : Stmt} {loc₀ : Loc} {binds : List (Str × Value)} (FN : FnOk f o st)
  (O : Ok x c) (X : (KK x.w.params).In s.heap) (Sx : Sat x c α loc sto s₁)
  (hbind : ∀ (Q : List (Str × Value) → Shared → Prop) E, Q binds s₁ → wpAny (model pw x.w) c.A.in1 (bindArgs (C9 (o x.w.params)) args) Q E s) (hbr : BR α loc₀ binds)
  (hloc : q2q st loc₀ = true) (hnd : (loc₀.map (·.1)).Nodup) (hd : 1 ≤ x.d) {R : Result → Shared → Prop}
  (h : XSs (inY x st) (fdB st) loc₀ sto (BodyK sto.length K))
  (P : ∀ v sto' α' s' val, K v sto' → Ex α α' → Sat x c α' loc sto' s' → VR α' v val → R (.ok (.ret val)) s') :
  codeAny (model pw x.w) c.A (.call (.ref f) args) R s := by
 obtain ⟨mg, mb, Tp⟩ := O.top
 have Tp' := Tp.keeps (Sx.stay O)
 have hs := FN.sc x.w.params
 have none_ : (hideAll s₁.heap α).get? s₁.heap.objs.size = none := by
  cases e : (hideAll s₁.heap α).get? s₁.heap.objs.size with
  | none => rfl
  | some o => exact absurd (v0a (of_hideAll _ e)) (Nat.lt_irrefl _)
 refine q3Q (fd := C9 (o x.w.params)) (body := fdB st) (binds := binds) (s₁ := s₁) (by have := O.dep; lia) (X _ _ (FN.lk _)) (FN.da _) Tp'.nolimit (codeRec_of X (FN.cd _)) (FN.bd _) hbind (by rw [hs]; exact FN.ce) (fun y hy => ?_) (fun h₁ hns hk₁ => ?_) (by rw [hs]; exact FN.co) (by rw [hs]; exact FN.ge) (by rw [hs]; exact FN.ki)
 ·have := v0w.mp hloc
  have hm : y.1 ∈ loc₀.map (·.1) := by rw [← hbr.names]; exact List.mem_map_of_mem hy
  obtain ⟨p, hp, e⟩ := v0z.mp hm
  have h2 := this p hp
  rw [e, F7] at h2
  rw [hs]
  split at h2
  ·assumption
  ·cases h2
 ·have O₁ : Ok (inY x st) (inC c s₁ α (callEnv (C9 (o x.w.params)) s₁.heap.objs.size f)) := q0w O Sx rfl rfl rfl rfl hd rfl hs (by show (C9 (o x.w.params)).scope.kind = _; rw [hs]; exact FN.ki) (FN.gl _) (FN.bi _)
  refine h _ α _ _ _ O₁ ⟨⟨_, ⟨hns, .of fun b o e => hk₁ b o (of_hideAll _ e), none_⟩, hbr.lr hnd⟩, ⟨Sx.hs.len, Sx.hs.nd, fun i o e => ?_⟩, fun a ha => ⟨fun q => Sx.fresh.1 ((show a = s₁.heap.objs.size from q) ▸ ha), hideAll_none _ ha⟩, rfl, Sx.gens, fun y i e => by cases e⟩ fun f' l2 s2 α2 t2 fl hf g2 S2 r2 => ?_
  ·obtain ⟨a, ob, h1, h2, h3⟩ := Sx.hs.cell i o e; exact ⟨a, ob, h1, hk₁ _ _ h2, h3⟩
  ·have := Sx.bodyEnd (R := R) P hf g2 S2 r2
   cases fl <;> exact this
noncomputable def rtE (s : Stmt) : Expr := A6 (sK s) 0
theorem q8Q : ∃ p ap pa pos, rtE (nth (fdB (cAt (A0 26) 1)) 1) = .Call (.Attribute (.Name (S "object") p) (S "__new__") ap) [.Name (S "cls") pa] [] pos ∧ mOk (.Name (S "object") p) [.Name (S "cls") pa] ap pos = true := ⟨(A6 (eK (A6 (eK (rtE (nth (fdB (cAt (A0 26) 1)) 1))) 0)) 0).pos, (A6 (eK (rtE (nth (fdB (cAt (A0 26) 1)) 1))) 0).pos, (A6 (eK (rtE (nth (fdB (cAt (A0 26) 1)) 1))) 1).pos, (rtE (nth (fdB (cAt (A0 26) 1)) 1)).pos, by rfl', by rfl'⟩
theorem EV.objNew {T : Tab} (TO : D8 x T) {p ap pa pos : Pos} (hm : mOk (.Name (S "object") p) [.Name (S "cls") pa] ap pos = true) (hk : lk x.scope.names (S "object") = some .globalImplicit) (hc : EV x (.Name (S "cls") pa) loc sto fun a s => a = .ext (.ref 660) ∧ s = sto)
  (h : K (.ref (sto.length + 1)) (sto ++ [.attrs [], .inst iC sto.length])) : EV x (.Call (.Attribute (.Name (S "object") p) (S "__new__") ap) [.Name (S "cls") pa] [] pos) loc sto K := by
 intro c α s Q E O Sx P
 simp only [mOk, v0s] at hm
 obtain ⟨⟨⟨h1, h2⟩, h3⟩, h4⟩ := hm
 have hbase : attributeBase (.Name (S "object") p) (S "__new__") c.env (eval (.Name (S "object") p) c.env) = eval (.Name (S "object") p) c.env := rfl
 rw [arm_eval_Call, hbase]
 refine v1e (w8 O Sx (v := .type "object") (by rfl') hk (by rfl') ?_)
 refine v1e (v1f ?_)
 have hform : methodCallForm ([Expr.Name (S "cls") pa].length + ([] : List Keyword).length) (backTo pos (starEach [.Name (S "cls") pa] c.env)) (backToKw pos (keywordEach [] c.env)) = true := rfl
 have hpos : methodCallPos true (.Name (S "object") p) c.env ap pos = pure pos := by
  unfold methodCallPos
  rw [show (ap.endLine == pos.line) = true from by rw [beq_iff_eq]; exact v0t h2]; rfl
 unfold methodCall
 rw [hform]
 refine v1e (v1g ?_)
 show wpAny _ _ (getMethod (.type "object") (S "__new__") _) _ E s
 have hst : Manifest.isStub "object" = false := by rfl'
 have hh : handedIn (.builtin "object.__new__") = true := by rfl'
 refine q3P (K := KK x.w.params) (name := S "__new__") (v := .builtin "object.__new__") (T := "object") (Sx.gnd O) PySem.F.isi_meta_object hst (q5H x.w.params).on hh ?_
 refine v1e (v1k hpos ?_)
 refine callWith_of (P := fun h => (KK x.w.params).In h) (by rw [O7 h4]; rfl) (fun h hh => B0 x _ h hh) ?_
 refine O8 (ks := []) (ev := fun e s K => EV x e loc s K) (KK := fun vs ks s => vs = [.ext (.ref 660)] ∧ ks = [] ∧ s = sto) (fun e s K h => h) (by
  show EV x (.Name (S "cls") pa) loc sto _
  exact EV.mono hc fun a s ⟨h1, h2⟩ => ⟨by rw [h1], rfl, h2⟩) (by rw [cOk, h4]; rfl) c α _ pos _ _ E O (Sx.toks _) fun vs ks s2 α2 t2 vals kvals h5 g2 S2 r2 r3 => ?_
 obtain ⟨rfl, rfl, rfl⟩ := h5
 obtain ⟨v, rfl, r4⟩ := r2.one
 obtain rfl : v = .ref 660 := r4
 obtain rfl := r3.nil
 refine ⟨S2.gnd O, v1q (q8O (S2.gnd O) ?_)⟩
 have S3 := S2.push (ao := .attrs []) (o := emptyDict) (n := t2.toks) ⟨[], _, rfl, trivial⟩ rfl
 have S4 := S3.push (ao := .inst iC s2.length) (o := instObj iC t2.heap.objs.size) (n := t2.toks) ⟨_, ?_, rfl⟩ rfl
 ·have l2 := S2.hs.len
  refine P (.ref (s2.length + 1)) (s2 ++ [.attrs [], .inst iC s2.length]) (α2 ++ [t2.heap.objs.size] ++ [(t2.heap.push emptyDict).objs.size]) _ _ h (g2.trans (Ex.push.trans Ex.push)) (by rw [show s2 ++ [AO.attrs [], .inst iC s2.length] = s2 ++ [.attrs []] ++ [.inst iC s2.length] from (v0P s2 [AO.attrs []] [.inst iC s2.length]).symm]; exact S4) ⟨(t2.heap.push emptyDict).objs.size, ?_, congrArg Value.ref (v0E _ _).symm⟩
  rw [v0d (by simp [l2]), show s2.length + 1 - (α2 ++ [t2.heap.objs.size]).length = 0 by simp [l2]]
  rfl
 ·have l2 := S2.hs.len
  rw [v0d (by lia), show s2.length - α2.length = 0 by lia]
  rfl
end
theorem fn153 : FnOk 153 k153 (cAt (A0 26) 1) := by constructor <;> rfl'
theorem fn430 : FnOk 430 k430 (cAt (A0 30) 1) := by constructor <;> rfl'
theorem fn437 : FnOk 437 k437 (cAt (A0 30) 2) := by constructor <;> rfl'
theorem fn719 : FnOk 719 k719 (cAt (A0 40) 0) := by constructor <;> rfl'
noncomputable def lNew (t d : Addr) : Loc := [(S "cls", .ext (.ref 660)), (S "args", .ext (.ref t)), (S "kwargs", .ext (.ref d))]
noncomputable def O3 (l : List Nat) : AO := .attrs [(S "_StringIO__newline", .str [10]), (S "_StringIO__buf", .str l), (S "_StringIO__pos", .int 0)]
noncomputable def lIo (l : List Nat) : Loc := [(S "self", .ref 3), (S "initial_value", .str l), (S "newline", .str [10])]
noncomputable def rtP (s : Stmt) : Pos := s.pos
section
variable {x : SX} {loc : Loc} {sto : Sto} {K : AV → Sto → Prop} {c : Cx} {α : List Addr} {s : Shared} {a b : AO}
theorem q8R {t d : Addr} {r : Sto} (KK : KF) : xw (inY x (cAt (A0 26) 1)) (A5 D0 XK) 60 ((fdB (cAt (A0 26) 1)).take 1) (lNew t d) r KK = (c9 660 = true ∧ c9 413 = true ∧ KK .next (lNew t d) r) := by rfl'
theorem ioTr {l : List Nat} (KK : KF) : xw (inY x (cAt (A0 30) 2)) (A5 D0 XK) 60 (fdB (cAt (A0 30) 2)) [(S "self", .ref 3), (S "s", .str l)] [a, b, O3 [], .inst iC 2] KK =
 KK (.ret (.str l)) [(S "self", .ref 3), (S "s", .str l), (S "newline", .str [10])] [a, b, O3 [], .inst iC 2] := by rfl'
theorem ioIn {l : List Nat} (KK : KF) : xw (inY x (cAt (A0 30) 1)) (A5 (Y5 437 [.ref 3, .str l] [a, b, O3 [], .inst iC 2] (.str l) [a, b, O3 [], .inst iC 2] D0) XK) 60 (fdB (cAt (A0 30) 1)) (lIo l) [a, b, .attrs [], .inst iC 2] KK =
 ([AV.ref 3, .str l] = [AV.ref 3, .str l] ∧ [a, b, O3 [], .inst iC 2] = [a, b, O3 [], .inst iC 2] ∧ KK .next (lIo l) [a, b, O3 l, .inst iC 2]) := by rfl'
theorem cTr (hd : 1 ≤ x.d) {l : List Nat} (h : K (.str l) [a, b, O3 [], .inst iC 2]) : CodeS x (.ref 437) [.ref 3, .str l] [] loc [a, b, O3 [], .inst iC 2] K := by
 refine D5 fn437 (loc₀ := [(S "self", .ref 3), (S "s", .str l)]) (fun α vs ks r rk => ?_) (by rfl') (show List.Nodup [S "self", S "s"] from by decide +kernel) (by lia) (A1 (B2 (A9 _) (D4 _)) 60 _ _ _ _ ?_)
 ·obtain ⟨v, w, rfl, r1, r2⟩ := r.two
  obtain rfl := rk.nil
  exact ⟨[(S "self", v), (S "s", w)], fun Se => by rfl', rfl, r1, rfl, r2, trivial⟩
 ·rw [ioTr]
  exact BodyK.ret h
theorem q7a (hd : 2 ≤ x.d) {l : List Nat} (h : K .none [a, b, O3 l, .inst iC 2]) : CodeS x (.ref 430) [.ref 3, .str l] [] loc [a, b, .attrs [], .inst iC 2] K := by
 refine D5 fn430 (loc₀ := lIo l) (fun α vs ks r rk => ?_) (by rfl') (show List.Nodup [S "self", S "initial_value", S "newline"] from by decide +kernel) (by lia) (A1 (B2 (P3 (fun loc K h => (cTr (x := inY x (cAt (A0 30) 1)) (a := a) (b := b) (l := l) (by show 1 ≤ x.d - 1; lia) h).call) (fn437.keep _) (A9 _)) (D4 _)) 60 _ _ _ _ ?_)
 ·obtain ⟨v, w, rfl, r1, r2⟩ := r.two
  obtain rfl := rk.nil
  exact ⟨[(S "self", v), (S "initial_value", w), (S "newline", .str ⟨#[10]⟩ 2379)], fun Se => by rfl', rfl, r1, rfl, r2, rfl, ⟨2379, rfl⟩, trivial⟩
 ·rw [ioIn]
  exact ⟨rfl, rfl, BodyK.ret (v := .none) (loc := []) h⟩
@[irreducible] noncomputable def bG1 (P : Params) (St : Setting) (v : Value) : Addr → Sem (List (Str × Value)) := match peekA (KK P) St (bindArgs (C9 (k153 P)) ⟨[.ref 660, v], []⟩) with
 | some (_, g) => g
 | none => fun _ => pure []
@[irreducible] noncomputable def bG2 (P : Params) (St : Setting) (v : Value) (C : Addr) : Addr → Sem (List (Str × Value)) := match peekA (KK P) St (bG1 P St v C) with
 | some (_, g) => g
 | none => fun _ => pure []
theorem q8S (P : Params) (St : Setting) (v : Value) : peekA (KK P) St (bindArgs (C9 (k153 P)) ⟨[.ref 660, v], []⟩) = some (({ cls := .type "tuple", data := .seq #[v] } : Obj), bG1 P St v) := by rfl'
theorem q8T (P : Params) (St : Setting) (v : Value) (C : Addr) : peekA (KK P) St (bG1 P St v C) = some (emptyDict, bG2 P St v C) := by rfl'
theorem q8U (P : Params) (St : Setting) (v : Value) (C D : Addr) : peek (KK P) St (bG2 P St v C D) = some [(S "cls", .ref 660), (S "args", .ref C), (S "kwargs", .ref D)] := by rfl'
theorem newIO (hd : 2 ≤ x.d) (O : Ok x c) (Sx : Sat x c α loc sto s) {v : Value} {R : Result → Shared → Prop} (P : ∀ α' s' ix, Ex α α' → Sat x c α' loc (sto ++ [.attrs [], .inst iC sto.length]) s' → α'[sto.length + 1]? = some ix → R (.ok (.ret (.ref ix))) s') :
  codeAny (model pw x.w) c.A (.call (.ref 153) ⟨[.ref 660, v], []⟩) R s := by
 have X := Sx.gnd O
 have k1 : ∀ b o, s.heap.get? b = some o → ((s.heap.push ({ cls := .type "tuple", data := .seq #[v] } : Obj)).push emptyDict).get? b = some o := fun b o e => q9X _ (q9X _ e)
 have S1 := Sx.heapK (n := s.toks) k1
 refine q8P (s₁ := { s with heap := (s.heap.push ({ cls := .type "tuple", data := .seq #[v] } : Obj)).push emptyDict }) (loc₀ := lNew s.heap.objs.size (s.heap.push ({ cls := .type "tuple", data := .seq #[v] } : Obj)).objs.size) (K := fun v' s' => v' = .ref (sto.length + 1) ∧ s' = sto ++ [.attrs [], .inst iC sto.length])
  (binds := [(S "cls", .ref 660), (S "args", .ref s.heap.objs.size), (S "kwargs", .ref (s.heap.push ({ cls := .type "tuple", data := .seq #[v] } : Obj)).objs.size)]) fn153 O X S1 (fun Q E hQ => ?_) ⟨rfl, rfl, rfl, rfl, rfl, rfl, trivial⟩ (by rfl') (show List.Nodup [S "cls", S "args", S "kwargs"] from by decide +kernel) (by lia) ?_ fun v' sto' α' s' val hv g S' r => ?_
 ·refine U5 X _ _ (q8S _ _ _) ?_
  have X1 : (KK x.w.params).In (s.heap.push ({ cls := .type "tuple", data := .seq #[v] } : Obj)) := X.keeps fun b o e => q9X _ e
  refine U5 (s := { s with heap := s.heap.push ({ cls := .type "tuple", data := .seq #[v] } : Obj) }) X1 _ _ (q8T _ _ _ _) ?_
  exact (Looks.of_peek (X.keeps k1) (q8U _ _ _ _ _)).here hQ
 ·generalize s.heap.objs.size = t
  generalize (s.heap.push ({ cls := .type "tuple", data := .seq #[v] } : Obj)).objs.size = d
  have TO : D8 (inY x (cAt (A0 26) 1)) (A5 D0 XK) := B2 (A9 _) (D4 _)
  refine XSs.mid (pre := (fdB (cAt (A0 26) 1)).take 1) (st := nth (fdB (cAt (A0 26) 1)) 1) (post := []) (by rfl') (A1 TO 60 _ _ _ _ ?_)
  rw [q8R]
  refine ⟨by rfl', by rfl', ?_⟩
  show XS _ _ _ _ _
  obtain ⟨p, q⟩ : ∃ p, nth (fdB (cAt (A0 26) 1)) 1 = .Return (some (rtE (nth (fdB (cAt (A0 26) 1)) 1))) p := ⟨rtP (nth (fdB (cAt (A0 26) 1)) 1), by rfl'⟩
  rw [q]
  obtain ⟨p1, p2, p3, p4, q1, q2⟩ := q8Q
  rw [q1]
  refine XS.ret (EV.objNew TO q2 (by rfl') (A4 TO 60 false _ _ _ _ ?_) ?_)
  ·have e : ∀ KK : KA1, ew (inY x (cAt (A0 26) 1)) (A5 D0 XK) 60 false (.Name (S "cls") p3) (lNew t d) sto KK = KK (.ext (.ref 660)) sto := fun KK => by rfl'
   rw [e]; exact ⟨rfl, rfl⟩
  ·exact BodyK.ret ⟨rfl, rfl⟩
 ·obtain ⟨rfl, rfl⟩ := hv
  obtain ⟨ix, h1, rfl⟩ := r
  exact P α' s' ix g S' h1
theorem q0O (A : Around) (C : Addr) (vs : List Value) (kw : List (Str × Value)) : (A.under (.builtin "type.__call__" ⟨.ref C :: vs, kw⟩)).depth = A.depth + 1 ∧ (A.under (.builtin "type.__call__" ⟨.ref C :: vs, kw⟩)).frames = A.frames ∧ (A.under (.builtin "type.__call__" ⟨.ref C :: vs, kw⟩)).handled = A.handled ∧ (A.under (.builtin "type.__call__" ⟨.ref C :: vs, kw⟩)).units = A.units + 1 := ⟨rfl, rfl, rfl, rfl⟩
theorem Ok.at1 (O : Ok x c) {A : Around} (h1 : A.handled = c.A.handled) (h2 : A.depth ≤ c.A.depth + 1) (h3 : A.frames = c.A.frames) (h4 : A.units ≤ c.A.units + 5) (hd : 1 ≤ x.d) : Ok (dn x) (atA c A) :=
 ⟨fun q => ⟨h3.trans (O.below q).1, (O.below q).2⟩, O.sub, O.dis, O.fd, O.gnd, O.top, h1.trans O.hh, by have := O.dep; show A.depth + (x.d - 1) < _; lia, by have := O.units; show A.units + 5 * (x.d - 1) + 200 < _; lia, O.kind, O.scope, O.glob, O.bi⟩
theorem q8V (hd : 4 ≤ x.d) {l : List Nat} (h : K (.ref 3) [a, b, O3 l, .inst iC 2]) : CodeS x (.ref 660) [.str l] [] loc [a, b] K := by
 intro c α s vs ks R O Sx rv rk P
 obtain ⟨v, rfl, r1⟩ := rv.one
 obtain rfl := rk.nil
 have X := Sx.gnd O
 have I := q5H x.w.params
 have hC := X _ _ I.lk
 have call : Looks (model pw x.w) s.heap (specialOf (.ref 660) "__call__") (some (.builtin "type.__call__")) := Looks.of_peek X (I.cl _)
 have typ : Looks (model pw x.w) s.heap (isInstance (.ref 660) (.type "type")) true := Looks.of_peek X (I.it _)
 have hm : Looks (model pw x.w) s.heap (mroOf (.ref 660)) [(.ref 660), (.ref 183), (.ref 156), (.type "object")] := Looks.of_peek X (I.mr _)
 have mb : Looks (model pw x.w) s.heap (Bind.madeBy (.ref 660)) none := Looks.of_peek X (I.mb _)
 refine codeAny_of_tree ?_
 show wpAny _ _ (callAny (.ref 660) _) _ _ _
 refine nd_load hC ?_
 show wpAny _ _ (callAny.viaDunder (.ref 660) _) _ _ _
 unfold callAny.viaDunder
 refine v1e (call.at ?_)
 dsimp only
 rw [tc_bind]
 refine v1e (v1h (v1e (v1h ?_)))
 refine v1h (a := Fin.again (.call (.builtin "type.__call__") ⟨[.ref 660, v], []⟩)) (And.intro rfl ?_)
 refine codeAny_call_builtin_at (Code.quiet_builtin _ (by decide +kernel)) entry_typeCall (check_slot tc_kind tc_split typ (tc_args _ _ _) ?_)
 obtain ⟨u1, u2, u3, u4⟩ := q0O c.A 660 [v] []
 generalize c.A.under (.builtin "type.__call__" ⟨[.ref 660, v], []⟩) = A' at *
 unfold Builtin.«type.__call__»
 refine v1e (hm.at ?_)
 simp only [List.isEmpty_cons, v0C, if_false]
 refine v1e (mb.at ?_)
 dsimp only
 refine v1e (cls_bind X I.re I.fc (v1q (sm_get (s := { s with toks := s.toks + 1 }) X I.rc (handed_on rfl ?_))))
 refine v1e (v1g (v1q ?_))
 have O1 := O.at1 (A := A') u3 (by lia) u2 (by lia) (by lia)
 refine newIO (x := dn x) (c := atA c A') (by show 2 ≤ x.d - 1; lia) O1 ((Sx.toks (s.toks + 1)).at A') fun α' s' ix g S1 h1 => ?_
 have S1 : Sat (dn x) (atA c A') α' loc [a, b, .attrs [], .inst iC 2] s' := S1
 have h1 : α'[3]? = some ix := h1
 have X1 := S1.gnd O1
 obtain ⟨dx, es, k, i1, i2, i3, I1⟩ := S1.inst (i := 3) (j := 2) rfl rfl h1
 have ss : Looks (model pw x.w) s'.heap (isSubtype (.ref 660) (.ref 660)) true := Looks.of_peek X1 (I.ss _)
 show wpAny _ A' (isInstance (.ref ix) (.ref 660) >>= _) _ _ s'
 unfold isInstance
 refine v1e (v1e (I1.type.here (ss.here ?_)))
 simp only [Bool.not_true, v0C, if_false]
 refine v1e (v1g ?_)
 refine special_fn (name := "__init__") (args := [v]) X1 I1 I.ini I.fi (v1q ?_)
 refine q7a (x := dn x) (by show 2 ≤ x.d - 1; lia) (K := fun v' s' => v' = .none ∧ s' = [a, b, O3 l, .inst iC 2]) ⟨rfl, rfl⟩ (atA c A') α' s' [.ref ix, v] [] _ O1 S1 ⟨⟨ix, h1, rfl⟩, g.vr r1, trivial⟩ trivial fun v' sto' α'' s'' val hv g' S2 r => ?_
 obtain ⟨rfl, rfl⟩ := hv
 obtain rfl : val = .none := r
 show wpAny _ A' (if (Value.none != Value.none) = true then _ else _) _ _ _
 first | refine v1s (decide_eq_false (by decide)) ?_ | rw [if_neg (by decide)]
 exact v1h (P _ _ _ _ _ h (g.trans g') S2.off_ ⟨ix, g'.two h1, rfl⟩)
end
noncomputable def lLex (t : List Nat) : Loc := [(S "self", .ref 1), (S "instream", .str t), (S "infile", .none), (S "posix", .bool true), (S "punctuation_chars", .bool false)]
noncomputable def lLex' : Loc := [(S "self", .ref 1), (S "instream", .ref 3), (S "infile", .none), (S "posix", .bool true), (S "punctuation_chars", .str [])]
noncomputable def lexI : AO := .attrs [(S "instream", .ref 3), (S "infile", .none), (S "posix", .bool true), (S "eof", .none), (S "commenters", .str [35]), (S "wordchars", .str wc), (S "whitespace", .str [32, 9, 13, 10]), (S "whitespace_split", .bool false), (S "quotes", .str [39, 34]), (S "escape", .str [92]), (S "escapedquotes", .str [34]), (S "state", .str [32]), (S "pushback", .ref 4), (S "lineno", .int 1), (S "debug", .int 0), (S "token", .str []), (S "filestack", .ref 5), (S "source", .none), (S "_punctuation_chars", .str [])]
noncomputable def q0P (t : List Nat) : Sto := [lexI, .inst sC 0, O3 t, .inst iC 2, .raw dqO, .raw dqO]
theorem fn807 : FnOk 807 k807 (A0 41) := by constructor <;> rfl'
noncomputable def vEq : Value → Value → Bool
 | .ref a, g => (match g with
  | .ref b => Nat.beq a b
  | _ => false)
 | .type a, g => (match g with
  | .type b => decide (a = b)
  | _ => false)
 | _, _ => false
theorem q8W {a b : Value} (h : vEq a b = true) : a = b := by
 unfold vEq at h
 split at h
 ·split at h
  ·rw [v0t h]
  ·cases h
 ·split at h
  ·rw [of_decide_eq_true h]
  ·cases h
 ·cases h
noncomputable def q2t (f : Value) (as₀ : List AV) (ks₀ : List (Str × AV)) (S₀ : Sto) (v : AV) (S₁ : Sto) (X : XT) : XT := { X with call := fun g as ks sto K => match vEq g f with
 | true => some (as = as₀ ∧ ks = ks₀ ∧ sto = S₀ ∧ K v S₁)
 | false => X.call g as ks sto K }
theorem q0Q {x : SX} {f : Value} {as₀ : List AV} {ks₀ : List (Str × AV)} {S₀ : Sto} {v : AV} {S₁ : Sto} {X : XT} (h : ∀ loc (K : AV → Sto → Prop), K v S₁ → CallS x f as₀ ks₀ loc S₀ K) (hk : B7 x f) (XO : P1 x X) : P1 x (q2t f as₀ ks₀ S₀ v S₁ X) :=
 { XO with
  call := fun g as ks loc sto K P h' hP => by
   have h' : (match vEq g f with
    | true => some (as = as₀ ∧ ks = ks₀ ∧ sto = S₀ ∧ K v S₁)
    | false => X.call g as ks sto K) = some P := h'
   split at h'
   ·rename_i q
    cases h'
    rw [q8W q]
    obtain ⟨rfl, rfl, rfl, hK⟩ := hP
    exact ⟨hk, h loc K hK⟩
   ·exact XO.call g as ks loc sto K P h' hP }
section
variable {x : SX} {loc : Loc} {sto : Sto} {K : AV → Sto → Prop} {c : Cx} {α : List Addr} {s : Shared} {a b : AO}
theorem lexIn {t : List Nat} (KK : KF) : xw (inY x (cAt (A0 40) 0)) (A5 (Y5 660 [.str t] [.attrs [], .inst sC 0] (.ref 3) [.attrs [], .inst sC 0, O3 t, .inst iC 2] D0) XK) 90 (fdB (cAt (A0 40) 0)) (lLex t) [.attrs [], .inst sC 0] KK =
 ("str" = "str" ∧ [AV.str t] = [AV.str t] ∧ [AO.attrs [], AO.inst sC 0] = [AO.attrs [], AO.inst sC 0] ∧ (S "abcdfeghijklmnopqrstuvwxyzABCDEFGHIJKLMNOPQRSTUVWXYZ0123456789_").cps.toList.length + (S "ßàáâãäåæçèéêëìíîïðñòóôõöøùúûüýþÿÀÁÂÃÄÅÆÇÈÉÊËÌÍÎÏÐÑÒÓÔÕÖØÙÚÛÜÝÞ").cps.toList.length ≤ sizeLine ∧ (S "").cps.toList.length ≤ sizeLine ∧ KK .next lLex' (q0P t)) := by rfl'
theorem q8X : Nat.ble ((S "abcdfeghijklmnopqrstuvwxyzABCDEFGHIJKLMNOPQRSTUVWXYZ0123456789_").cps.toList.length + (S "ßàáâãäåæçèéêëìíîïðñòóôõöøùúûüýþÿÀÁÂÃÄÅÆÇÈÉÊËÌÍÎÏÐÑÒÓÔÕÖØÙÚÛÜÝÞ").cps.toList.length) 1000 = true := by rfl'
theorem q4G (hd : 6 ≤ x.d) {t : List Nat} (h : K .none (q0P t)) : CodeS x (.ref 719) [.ref 1, .str t] [(S "posix", .bool true)] loc [.attrs [], .inst sC 0] K := by
 refine D5 fn719 (loc₀ := lLex t) (fun α vs ks r rk => ?_) (by rfl') (show List.Nodup [S "self", S "instream", S "infile", S "posix", S "punctuation_chars"] from by decide +kernel) (by lia) (A1 (B2 (P3 (fun loc K h => (q8V (x := inY x (cAt (A0 40) 0)) (a := .attrs []) (b := .inst sC 0) (l := t) (by show 4 ≤ x.d - 1; lia) h).call) (fun h X => keeps_K (K := KK x.w.params) (by rfl') h X) (A9 _)) (D4 _)) 90 _ _ _ _ ?_)
 ·obtain ⟨v, w, rfl, r1, r2⟩ := r.two
  obtain ⟨u, rfl, r3⟩ := VRs.one rk
  exact ⟨[(S "self", v), (S "instream", w), (S "infile", .none), (S "posix", u), (S "punctuation_chars", .bool false)], fun Se => by rfl', rfl, r1, rfl, r2, rfl, rfl, rfl, r3, rfl, rfl, trivial⟩
 ·rw [lexIn]
  exact ⟨rfl, rfl, rfl, sz (by have := v0v q8X; lia), sz (by decide), BodyK.ret (v := .none) (loc := []) h⟩
theorem q7b (hd : 8 ≤ x.d) {t : List Nat} (h : K (.ref 1) (q0P t)) : CodeS x (.ref 795) [.str t] [(S "posix", .bool true)] loc [] K := by
 intro c α s vs ks R O Sx rv rk P
 obtain ⟨v, rfl, r1⟩ := rv.one
 obtain ⟨u, rfl, r2⟩ := VRs.one rk
 have X := Sx.gnd O
 obtain rfl : α = [] := v0Y Sx.hs.len
 have S1 := Sx.push (ao := .attrs []) (o := emptyDict) (n := s.toks) ⟨[], _, rfl, trivial⟩ rfl
 have S2 := S1.push (ao := .inst sC 0) (o := instObj sC s.heap.objs.size) (n := s.toks) ⟨_, rfl, rfl⟩ rfl
 have hi : findIn (KK x.w.params) (.ref 795) "__init__" = some (some (.ref 719)) := by rfl'
 have hf : typeIn (KK x.w.params) (.ref 719) = some (.type "function") := by rfl'
 have hm : makesIn (KK x.w.params) 795 = true := by rfl'
 obtain ⟨u1, u2, u3, u4⟩ := q0O c.A 795 [v] [(S "posix", u)]
 obtain ⟨hp, g, d, tk, os⟩ := s
 refine make_core (makes_of X hm) (looks_findIn X hi) (fun self => bind_fn X self hf) (.inl rfl) ?_
 have O1 := O.at1 (A := c.A.under (.builtin "type.__call__" ⟨[.ref 795, v], [(S "posix", u)]⟩)) u3 (Nat.le_of_eq u1) u2 (by rw [u4]; lia) (by lia)
 refine q4G (x := dn x) (t := t) (by show 6 ≤ x.d - 1; lia) (K := fun v' s' => v' = .none ∧ s' = q0P t) ⟨rfl, rfl⟩ (atA c _) _ _ [.ref (hp.objs.size + 1), v] [u] _ O1 (S2.at _) ⟨⟨_, ?_, rfl⟩, ?_, trivial⟩ ⟨?_, trivial⟩ fun v' sto' α'' s'' val hv g' S3 r => ?_
 ·show some _ = some _
  rw [show (Heap.push hp emptyDict).objs.size = hp.objs.size + 1 from v0E ..]
 ·exact Ex.push.vr (Ex.push.vr r1)
 ·exact Ex.push.vr (Ex.push.vr r2)
 ·obtain ⟨rfl, rfl⟩ := hv
  obtain rfl : val = .none := r
  refine ⟨rfl, P (.ref 1) _ α'' _ _ h ((Ex.push.trans Ex.push).trans g') S3.off_ ⟨_, g'.two (i := 1) (a := hp.objs.size + 1) ?_, rfl⟩⟩
  show some _ = some _
  rw [show (Heap.push hp emptyDict).objs.size = hp.objs.size + 1 from v0E ..]
end
noncomputable def xSpl (t : List Nat) (ws : List (List Nat)) : XT := q2t (.ref 795) [.str t] [(S "posix", .bool true)] [] (.ref 1) (q0P t) (q2t (.type "list") [.ref 1] [] (lex6 (.str [32]) t) (.ref 6) (A3 (.lsS ws) .none [] t t.length) XK)
noncomputable def lSpl (t : List Nat) : Loc := [(S "s", .str t), (S "comments", .bool false), (S "posix", .bool true)]
section
variable {x : SX} {loc : Loc} {sto : Sto} {K : AV → Sto → Prop}
theorem splIn {t : List Nat} {ws : List (List Nat)} (KK : KF) : xw (inY x (A0 41)) (A5 D0 (xSpl t ws)) 90 (fdB (A0 41)) (lSpl t) [] KK =
 ([AV.str t] = [AV.str t] ∧ [(S "posix", AV.bool true)] = [(S "posix", AV.bool true)] ∧ ([] : Sto) = [] ∧ [AV.ref 1] = [AV.ref 1] ∧ ([] : List (Str × AV)) = [] ∧ lex6 (.str [32]) t = lex6 (.str [32]) t ∧ KK (.ret (.ref 6)) (lSpl t ++ [(S "lex", .ref 1)]) (A3 (.lsS ws) .none [] t t.length)) := by rfl'
theorem q7c (hr : x.fr = true) (hd : 10 ≤ x.d) {t : List Nat} {ws : List (List Nat)} (hz : t.length ≤ 100000) (hw : ws.length ≤ 100000) (L : Line t 0 ws) (hn : ws ≠ []) (h : K (.ref 0) [.lsS ws]) : CodeS x (.ref 807) [.str t] [] loc [] K := by
 refine D5 fn807 (loc₀ := lSpl t) (fun α vs ks r rk => ?_) (by rfl') (show List.Nodup [S "s", S "comments", S "posix"] from by decide +kernel) (by lia)
  (A1 (B2 (A9 _) (q0Q (fun loc K h => (q7b (x := inY x (A0 41)) (t := t) (by show 8 ≤ x.d - 1; lia) h).call) (fun h X => keeps_K (K := KK x.w.params) (by rfl') h X) (q0Q (fun loc K h => cList (x := inY x (A0 41)) (t := t) (ws := ws) (st := .str [32]) hr (by show 6 ≤ x.d - 1; lia) hz hw L (.inl rfl) h) (M9 _ _) (D4 _)))) 90 _ _ _ _ ?_)
 ·obtain ⟨v, rfl, r1⟩ := r.one
  obtain rfl := rk.nil
  exact ⟨[(S "s", v), (S "comments", .bool false), (S "posix", .bool true)], fun Se => by rfl', rfl, r1, rfl, rfl, rfl, rfl, trivial⟩
 ·show xw (inY x (A0 41)) (A5 D0 (xSpl t ws)) 90 (fdB (A0 41)) (lSpl t) [] _
  rw [splIn]
  exact ⟨rfl, rfl, rfl, rfl, rfl, rfl, .inr (.inl ⟨[], _, 6, .lsS ws, rfl, rfl, rfl, by decide, rfl, trivial, (fun o ho => by cases ho), h⟩)⟩
theorem q8Y (hr : x.fr = true) (hd : 10 ≤ x.d) {t : List Nat} {ws : List (List Nat)} (hz : t.length ≤ 100000) (hw : ws.length ≤ 100000) (L : Line t 0 ws) (hn : ws ≠ []) (h : K (.ref sto.length) (sto ++ [.lsS ws])) : CallS x (.ref 807) [.str t] [] loc sto K := by
 refine CallS.lift (as₀ := [.str t]) (sto₀ := []) (K₀ := fun v s₁ => v = .ref 0 ∧ s₁ = [.lsS ws]) [] (fun loc₀ => (q7c (x := I2 x) hr hd hz hw L hn ⟨rfl, rfl⟩).call) rfl List.nodup_nil (fun k j hk => by cases hk) (fun o ho => by cases ho) (fun a ha => by cases v0c.mp ha; trivial) rfl fun v s₁ hv => ?_
 obtain ⟨rfl, rfl⟩ := hv
 exact ⟨[], _, rfl, rfl, (fun o ho => by cases ho), .inr ⟨0, .lsS ws, rfl, v0h _, rfl, trivial, h⟩⟩
end
section
variable {M : Model} {A : Around} {E : Value → Shared → Prop} {s : Shared}
theorem Y6 {α β : Type} {f : α → β → Sem (ForInStep β)} (I : Nat → β → Shared → Prop) (l : List α) {Q : β → Shared → Prop} :
  ∀ (k : Nat) (b : β) (s : Shared), I k b s → (∀ i x b s, l[i]? = some x → I (k + i) b s → wpAny M A (f x b) (fun r s' => ∃ b', r = .yield b' ∧ I (k + i + 1) b' s') E s) → (∀ b s, I (k + l.length) b s → Q b s) → wpAny M A (forIn l b f) Q E s := by
 induction l with
 | nil => intro k b s hI _ hQ; exact v1h (hQ b s hI)
 | cons x l ih =>
  intro k b s hI h hQ
  rw [List.forIn_cons]
  refine v1e (v1j (h 0 x b s rfl hI) (fun r s' hr => ?_) fun _ _ e => e)
  obtain ⟨b', rfl, hb⟩ := hr
  refine ih (k + 1) b' s' hb (fun i y b s hi hI => ?_) fun b s hI => hQ b s ?_
  ·have := h (i + 1) y b s hi (by rw [show k + (i + 1) = k + 1 + i by lia]; exact hI)
   rw [show k + (i + 1) + 1 = k + 1 + i + 1 by lia] at this; exact this
  ·rw [v0U, show k + (l.length + 1) = k + 1 + l.length by lia]; exact hI
theorem w9 {β : Type} {f : Nat → β → Sem (ForInStep β)} {n : Nat} (I : Nat → β → Shared → Prop) {Q : β → Shared → Prop} {b : β} (h0 : I 0 b s) (h : ∀ i b s, i < n → I i b s → wpAny M A (f i b) (fun r s' => ∃ b', r = .yield b' ∧ I (i + 1) b' s') E s) (hQ : ∀ b s, I n b s → Q b s) : wpAny M A (forIn [0 : n] b f) Q E s := by
 rw [Std.Legacy.Range.forIn_eq_forIn_range']
 have l0 : (List.range' ([0 : n] : Std.Legacy.Range).start ([0 : n] : Std.Legacy.Range).size ([0 : n] : Std.Legacy.Range).step).length = n := by simp [Std.Legacy.Range.size]
 refine Y6 I _ 0 b s h0 (fun i x b s hx hI => ?_) fun b s hI => hQ b s ?_
 ·have hi := (q9W.mp hx).1
  rw [l0] at hi
  obtain ⟨_, e⟩ := q9W.mp hx
  have : x = i := by rw [← e]; simp
  subst this
  rw [Nat.zero_add] at hI ⊢
  exact h x b s hi hI
 ·rw [Nat.zero_add, l0] at hI; exact hI
theorem q3R {id : String} {bs : List UInt8} (hz : bs.length ≤ sizeLine) {Q : Array Nat × Nat → Shared → Prop} (h : Q ((bs.map (·.toNat)).toArray, bs.length) s) : wpAny M A (Builtin._codecs.runDecoder id Builtin._codecs.latin1Decoder none true bs.toArray 0 []) Q E s := by
 unfold Builtin._codecs.runDecoder
 refine v1e (w9 (n := bs.toArray.size) (fun i st s' => s' = s ∧ st.1 = i ∧ st.2.1 = ((bs.map (·.toNat)).take i).toArray) ⟨rfl, rfl, rfl⟩ ?_ ?_)
 ·rintro i ⟨p, out, st⟩ s' hi ⟨rfl, h1, h2⟩
  dsimp only at h1 h2
  subst h1 h2
  have hi' : p < bs.length := by simpa using hi
  have l1 : ((bs.map (·.toNat)).take p).length = p := by rw [List.length_take, v0I]; lia
  dsimp only
  rw [if_neg (by rw [v0p, l1]; lia), if_neg (by rw [v0p]; lia)]
  show wpAny _ _ (pure (ForInStep.yield (p + 1, ((bs.map (·.toNat)).take p).toArray ++ [(bs.toArray.getD p 0).toNat].toArray, st))) _ _ _
  refine v1h ⟨_, rfl, rfl, rfl, ?_⟩
  show _ ++ _ = _
  rw [List.append_toArray, v0O, v0L, q9Z hi']
  congr 2
  show [(bs.toArray.getD p 0).toNat] = [bs[p].toNat]
  rw [v0Z, v1a, q9Z hi']
  rfl
 ·rintro ⟨p, out, st⟩ s' ⟨rfl, h1, h2⟩
  dsimp only at h1 h2
  subst h1 h2
  rw [v0p, List.take_of_length_le (by simp)]
  exact v1h h
theorem q7d {c : UInt8} {b : List UInt8} {t t1 : Tok} : Builtin.«bytes.decode» ⟨[.bytes (c :: b).toArray t, .str (S "latin1") t1], []⟩ = (mkStr (S "utf-8") >>= fun _ => mkStr (S "latin1") >>= fun e => mkStr (S "bytes.decode") >>= fun d =>
  call (.builtin "_codecs.decode.text") [.bytes (c :: b).toArray t, e, .none, d] >>= fun v => ret v) := by rfl'
theorem q4H {id : String} {b : Array UInt8} : Builtin._codecs.decodeRoad id b (S "latin1") none [] = (Builtin._codecs.runDecoder id Builtin._codecs.latin1Decoder none true b 0 [] >>= fun r => mkStr ⟨r.1⟩) := by rfl'
theorem Z2 (a b : Value) : argsOk "bytes.decode" ⟨[a, b], []⟩ := by unfold argsOk; rfl'
end
section
variable {w : World} {A : Around} {s : Shared} {Q E : Value → Shared → Prop}
theorem q1p {bs : List UInt8} {t t1 t2 : Tok} {d : PySem.Str} (hz : bs.length ≤ sizeLine) :
  Meets (Builtin.«_codecs.decode.text» ⟨[.bytes bs.toArray t, .str (S "latin1") t1, .none, .str d t2], []⟩) (fun _ R s => R (.ok (.ret (.str ⟨(bs.map (·.toNat)).toArray⟩ s.toks))) { s with toks := s.toks + 1 }) := by
 refine .of_wp fun prog w A R s h => ?_
 show wpAny _ _ (Builtin.Bytes.bytesLike _ (.bytes bs.toArray t) >>= fun r => _) _ _ s
 refine v1e (v1k KBd.like_eq ?_)
 refine v1e (v1k KBd.held_eq ?_)
 show wpAny _ _ (Builtin._codecs.decodeRoad _ bs.toArray (S "latin1") none [] >>= fun v => _) _ _ s
 rw [q4H]
 refine v1e (v1e (q3R hz ?_))
 exact wpAny_mkStr (v1h ⟨_, rfl, h⟩) (by show (Array.size _ : Nat) ≤ _; simpa using hz)
theorem q1q {bs : List UInt8} {t t1 : Tok} (hn : bs ≠ []) (hz : bs.length ≤ sizeLine) (h : ∀ t' k, Q (.str ⟨(bs.map (·.toNat)).toArray⟩ t') { s with toks := k }) : wpAny (model pw w) A (call (.builtin "bytes.decode") [.bytes bs.toArray t, .str (S "latin1") t1]) Q E s := by
 obtain ⟨c, cs, rfl⟩ : ∃ c cs, bs = c :: cs := by cases bs with | nil => exact absurd rfl hn | cons c cs => exact ⟨c, cs, rfl⟩
 refine call_meets (S := fun _ R s => ∀ t' k, R (.ok (.ret (.str ⟨((c :: cs).map (·.toNat)).toArray⟩ t'))) { s with toks := k }) FB.slot_bytes_decode (typeIs_bytes _ _ _) FB.entry_bytes_decode (Z2 _ _) (.of_wp fun prog w A R s h => ?_) h
 rw [q7d]
 refine v1e (wpAny_mkStr ?_ (by decide))
 refine v1e (wpAny_mkStr ?_ (by decide))
 refine v1e (wpAny_mkStr ?_ (by decide))
 exact v1e (call_function_meets KBd.kind_text KBd.plain_text KBd.entry_text (KBd.args_text _ _ _ _) (q1p hz) (v1h ⟨_, rfl, h _ _⟩))
theorem q8Z {x : PySem.Str} {t t1 : Tok} : Builtin.«str.encode» ⟨[.str x t, .str (S "latin-1") t1], []⟩ = ((Builtin._codecs.encodeNarrow "str.encode" Builtin._codecs.latin1Codec none (.str x t) x >>= fun b => mkBytes b) >>= fun v => ret v) := by rfl'
theorem q2u (l : List Nat) (out : Array UInt8) : l.toArray.foldl (fun acc y => acc ++ (Builtin._codecs.latin1Codec.bytesOf y).toArray) out = out ++ (l.map (·.toUInt8)).toArray := by
 rw [List.foldl_toArray]
 induction l generalizing out with
 | nil => simp
 | cons y l ih =>
  rw [v0B, ih]
  show out ++ [y.toUInt8].toArray ++ _ = _
  rw [Array.append_assoc]
  congr 1
  apply Array.ext'
  simp
theorem nobad {l : List Nat} (h : ∀ c ∈ l, c < 256) : (l.toArray.findIdx? Builtin._codecs.latin1Codec.bad).getD l.toArray.size = l.toArray.size := by
 rw [show l.toArray.findIdx? Builtin._codecs.latin1Codec.bad = none from by
  rw [Array.findIdx?_eq_none_iff]
  intro x hx
  show decide (x ≥ 256) = false
  have := h x (by simpa using hx)
  simpa using this]
 rfl
def EI (s : Shared) (l : List Nat) (rest : List Nat) (b : Nat × Array UInt8 × Builtin._codecs.Faults) (s' : Shared) : Prop := s' = s ∧ ((b.1 = 0 ∧ b.2.1 = #[] ∧ rest.length = l.length) ∨ (b.1 = l.length ∧ b.2.1 = (l.map (·.toUInt8)).toArray))
section
variable {s s' : Shared} {l rest : List Nat} {b : Nat × Array UInt8 × Builtin._codecs.Faults}
theorem EI.small_ (hb : EI s l rest b s') (hz : l.length ≤ sizeLine) : ¬ b.2.1.size > sizeLine := by
 rcases hb.2 with ⟨_, e, _⟩ | ⟨_, e⟩ <;> rw [e]
 ·exact Nat.not_lt.mpr (Nat.zero_le _)
 ·simpa using hz
theorem EI.done {x : Nat} (hb : EI s l (x :: rest) b s') (he : l.toArray[b.1]? = none) : s' = s ∧ b.2.1 = (l.map (·.toUInt8)).toArray := by
 refine ⟨hb.1, ?_⟩
 rcases hb.2 with ⟨e, _, hr⟩ | ⟨_, e⟩
 ·rw [e] at he
  have : l = [] := by simpa using he
  rw [this] at hr; cases hr
 ·exact e
theorem EI.next {c : Nat} (h : ∀ c ∈ l, c < 256) (hb : EI s l rest b s') (he : l.toArray[b.1]? = some c) (rest' : List Nat) : EI s l rest' (b.1 + ((l.toArray.extract b.1).findIdx? Builtin._codecs.latin1Codec.bad).getD (l.toArray.extract b.1).size, ((l.toArray.extract b.1).extract 0 (((l.toArray.extract b.1).findIdx? Builtin._codecs.latin1Codec.bad).getD (l.toArray.extract b.1).size)).foldl (fun acc y => acc ++ (Builtin._codecs.latin1Codec.bytesOf y).toArray) b.2.1, b.2.2) s' := by
 refine ⟨hb.1, .inr ?_⟩
 rcases hb.2 with ⟨e, e2, _⟩ | ⟨e, _⟩
 ·have e0 : l.toArray.extract 0 = l.toArray := by simp
  rw [e, e2, e0, nobad h]
  refine ⟨by dsimp only; rw [Nat.zero_add, v0p], ?_⟩
  dsimp only
  rw [Array.extract_size, q2u]; simp
 ·rw [e] at he; simp at he
theorem EI.ok {c : Nat} (h : ∀ c ∈ l, c < 256) (he : l.toArray[b.1]? = some c) : (!Builtin._codecs.latin1Codec.bad c) = true := by
 show (!decide (c ≥ 256)) = true
 have := h c (v0i (i := b.1) (by simpa using he))
 simpa using this
end
theorem q7e {l : List Nat} (h : ∀ c ∈ l, c < 256) {M : Model} {A : Around} {id : String} {self : Value} {Q : Array UInt8 → Shared → Prop} {E : Value → Shared → Prop} (hz : l.length ≤ sizeLine) (hQ : Q (l.map (·.toUInt8)).toArray s) : wpAny M A (Builtin._codecs.encodeNarrow id Builtin._codecs.latin1Codec none self ⟨l.toArray⟩) Q E s := by
 unfold Builtin._codecs.encodeNarrow
 dsimp only
 rw [Std.Legacy.Range.forIn_eq_forIn_range']
 refine v1e (v1j (wpAny_forIn_list _ (EI s l) (fun b s' => s' = s ∧ b.2.1 = (l.map (·.toUInt8)).toArray) ?_ ?_ _ _ ⟨rfl, .inl ⟨rfl, rfl, ?_⟩⟩) (fun b s' hb => ?_) fun _ _ e => e)
 ·intro x rest b s' hb
  refine v1s (decide_eq_false (hb.small_ hz)) ?_
  generalize he : l.toArray[b.1]? = o
  cases o with
  | none => exact v1h (hb.done he)
  | some c => exact v1r (decide_eq_true (EI.ok h he)) (v1h (hb.next h he rest))
 ·rintro ⟨i, out, st⟩ s' ⟨rfl, hI⟩
  dsimp only at hI
  refine ⟨rfl, ?_⟩
  rcases hI with ⟨rfl, rfl, hr⟩ | ⟨rfl, rfl⟩
  ·have : l = [] := v0Y (by simpa using hr.symm)
   subst this; rfl
  ·rfl
 ·simp [Std.Legacy.Range.size]
  rfl
 ·rw [hb.1, hb.2]
  exact v1h hQ
theorem i0 (a b : Value) : argsOk "str.encode" ⟨[a, b], []⟩ := by unfold argsOk; rfl'
theorem i7 {l : List Nat} {t t1 : Tok} (hc : ∀ c ∈ l, c < 256) (hz : l.length ≤ sizeLine) (h : ∀ t' k, Q (.bytes (l.map (·.toUInt8)).toArray t') { s with toks := k }) : wpAny (model pw w) A (call (.builtin "str.encode") [.str ⟨l.toArray⟩ t, .str (S "latin-1") t1]) Q E s := by
 refine call_meets (S := fun _ R s => ∀ t' k, R (.ok (.ret (.bytes (l.map (·.toUInt8)).toArray t'))) { s with toks := k }) PySem.F.slot_str_encode (typeIs_str _ _ _) PySem.F.entry_str_encode (i0 _ _) (.of_wp fun prog w A R s h => ?_) h
 rw [q8Z]
 refine v1e (v1e (q7e hc hz ?_))
 exact wpAny_mkBytes (v1h ⟨_, rfl, h _ _⟩)
end
noncomputable def lEq : List Nat → List Nat → Bool
 | [], [] => true
 | a :: r, b :: q => Nat.beq a b && lEq r q
 | _, _ => false
theorem q0R : ∀ {a b : List Nat}, lEq a b = true → a = b
 | [], [], _ => rfl
 | a :: r, b :: q, h => by
  obtain ⟨h1, h2⟩ := v0r.mp h
  rw [v0t h1, q0R h2]
 | [], _ :: _, h => by cases h
 | _ :: _, [], h => by cases h
noncomputable def q0f (c : Nat) : Bool := (Nat.ble 48 c && Nat.ble c 57) || (Nat.ble 65 c && Nat.ble c 90) || (Nat.ble 97 c && Nat.ble c 122) || Nat.beq c 45 || Nat.beq c 33 || Nat.beq c 42 || Nat.beq c 43 || Nat.beq c 47
theorem q7f : ((List.range 256).all fun c => N8 [c] r8 == q0f c) = true := by rfl'
noncomputable def encI (b : Bool) (n : Int) : List Nat := sel ([n.toNat] == tx " ") (tx "_") (sel b [n.toNat] ((tx "=" ++ fig (n.fdiv 16)) ++ fig (n.fmod 16)))
noncomputable def U6 (c : Nat) : List Nat := sel (Nat.beq c 32) [95] (sel (q0f c) [c] [61, hx (c / 16), hx (c % 16)])
theorem q4I : ((List.range 256).all fun c => lEq (encI (q0f c) (c : Int)) (U6 c)) = true := by rfl'
theorem n7 {c : Nat} (h : c < 256) : enc (c : Int) = U6 c := by
 have e : enc (c : Int) = encI (N8 [c] r8) (c : Int) := by
  show enc (c : Int) = encI (N8 [(c : Int).toNat] r8) (c : Int)
  unfold enc encI
  cases [(c : Int).toNat] == tx " " <;> cases N8 [(c : Int).toNat] r8 <;> rfl
 rw [e, beq_iff_eq.mp (v0w.mp q7f c (v0Q.mpr h))]
 exact q0R (v0w.mp q4I c (v0Q.mpr h))
noncomputable def d7 (P : Params) : List Value := dite _ (fun h => @Data.seq.elim (fun _ => List Value) (k57 P).data h fun vs _ => vs.toList) fun _ => []
noncomputable def n57 (P : Params) : Nat := dite _ (fun h => @Data.seq.elim (fun _ => Nat) (k57 P).data h fun _ n => n) fun _ => 0
noncomputable def isTx (l : List Nat) : Value → Bool
 | .str s _ => s.cps.toList == l
 | _ => false
noncomputable def q2v : Nat → List Value → Bool
 | _, [] => true
 | n, v :: r => isTx (U6 n) v && q2v (n + 1) r
theorem chk57 (P : Params) : q2v 0 (d7 P) = true := by rfl'
theorem len57 (P : Params) : (d7 P).length = 256 := by rfl'
theorem at57 {P : Params} {c : Nat} (h : c < 256) : ∃ t, (d7 P)[c]? = some (.str ⟨(enc (c : Int)).toArray⟩ t) := by
 have key : ∀ (l : List Value) (n i : Nat) (v : Value), q2v n l = true → l[i]? = some v → isTx (U6 (n + i)) v = true := by
  intro l
  induction l with
  | nil => intro n i v _ e; cases e
  | cons w l ih =>
   intro n i v h e
   obtain ⟨h1, h2⟩ := v0r.mp h
   cases i with
   | zero => cases e; exact h1
   | succ i => rw [show n + (i + 1) = n + 1 + i by lia]; exact ih (n + 1) i v h2 e
 have hl : c < (d7 P).length := by rw [len57]; exact h
 have := key _ 0 c _ (chk57 P) (q9Z hl)
 rw [Nat.zero_add] at this
 rw [q9Z hl]
 generalize (d7 P)[c] = v at this
 unfold isTx at this
 split at this
 ·rename_i s t
  refine ⟨t, ?_⟩
  have e : s.cps.toList = U6 c := by simpa using this
  rw [n7 h, ← e, Array.toArray_toList]
 ·cases this
theorem lk57 (P : Params) : (KK P).lookup 57 = some (k57 P) := by rfl'
section
variable {w : World} {A : Around} {s : Shared} {Q E : Value → Shared → Prop}
theorem isl57 (X : (KK w.params).In s.heap) : s.heap.IsList 57 (d7 w.params).toArray := by
 exact ⟨k57 w.params, X _ _ (lk57 _), rfl, n57 w.params, by rfl'⟩
theorem tl57 {c : Nat} (hc : c < 256) (X : (KK w.params).In s.heap) {Q : Builtin.Str.Mapped → Shared → Prop} (h : Q (.text ⟨(enc (c : Int)).toArray⟩) { s with toks := s.toks + 1 }) : wpAny (model pw w) A (Builtin.Str.tableLookup (.ref 57) c) Q E s := by
 obtain ⟨t, e⟩ := at57 (P := w.params) hc
 unfold Builtin.Str.tableLookup
 refine v1e (wpAny_attempt (v1e (wpAny_mkInt (wpAny_getItem_list (x := .str ⟨(enc (c : Int)).toArray⟩ t) (isl57 (s := { s with toks := s.toks + 1 }) X) (by lia) (by lia) (by simpa using e) ?_))))
 dsimp only
 exact v1h h
noncomputable def trl (l : List Nat) : List Nat := (l.map fun (c : Nat) => enc ((c : Nat) : Int)).flatten
theorem q0S (l : List Nat) (c : Nat) : trl (l ++ [c]) = trl l ++ enc (c : Int) := by simp [trl]
structure TrI (l : List Nat) (s : Shared) (rest : List Nat) (b : List PySem.Str × Nat × Bool × List (Nat × Option Nat) × Bool) (s' : Shared) : Prop where
 st : ∃ k, s' = { s with toks := k }
 pr : ∃ pre, l = pre ++ rest ∧ (b.1.reverse.map (·.cps.toList)).flatten = trl pre ∧ b.2.1 = (trl pre).length
 kn : ∀ c a, b.2.2.2.1.lookup c = some a → ∃ d, a = some d ∧ enc (c : Int) = [d]
 dr : b.2.2.2.2 = false
theorem TrI.next {l : List Nat} {s s₁ s₂ : Shared} {c : Nat} {rest : List Nat} {b : List PySem.Str × Nat × Bool × List (Nat × Option Nat) × Bool} (I : TrI l s (c :: rest) b s₁) {p : PySem.Str} {f' dr : Bool} {kn' : List (Nat × Option Nat)} {m : Nat} (hs : ∃ n, s₂ = { s₁ with toks := n }) (hp : p.cps.toList = enc (c : Int)) (hm : m = (enc (c : Int)).length) (hk : ∀ c a, kn'.lookup c = some a → ∃ d, a = some d ∧ enc (c : Int) = [d]) (hd : dr = false) : TrI l s rest (p :: b.1, b.2.1 + m, f', kn', dr) s₂ := by
 obtain ⟨pre, h1, h2, h3⟩ := I.pr
 refine ⟨?_, ⟨pre ++ [c], by rw [h1, v0P]; rfl, ?_, ?_⟩, hk, hd⟩
 ·obtain ⟨n, e⟩ := hs
  obtain ⟨k, e'⟩ := I.st
  exact ⟨n, by rw [e, e']⟩
 ·dsimp only
  rw [List.reverse_cons, v0M, List.flatten_append, h2, q0S]
  simp [hp]
 ·dsimp only
  rw [q0S, v0G, h3, hm]
theorem U7 (l : List Nat) : (trl l).length ≤ 3 * l.length := by
 induction l with
 | nil => exact v0h _
 | cons c l ih => show (enc _ ++ trl l).length ≤ _; rw [v0G, v0U]; have := q1R (c : Int); lia
theorem TrI.short {l : List Nat} {s s₁ : Shared} {rest : List Nat} {b : List PySem.Str × Nat × Bool × List (Nat × Option Nat) × Bool} (I : TrI l s rest b s₁) (hz : l.length ≤ 100000) : Builtin.Str.tooLong b.2.1 = false := by
 obtain ⟨pre, h1, _, h3⟩ := I.pr
 have hpre : pre.length ≤ l.length := by rw [h1]; simp
 have tl := U7 pre
 rw [h3]
 exact decide_eq_false (Nat.not_lt.mpr (sz (by lia)))
theorem TrI.mem {l : List Nat} {s s₁ : Shared} {c : Nat} {rest : List Nat} {b : List PySem.Str × Nat × Bool × List (Nat × Option Nat) × Bool} (I : TrI l s (c :: rest) b s₁) : c ∈ l := by
 obtain ⟨pre, h1, _⟩ := I.pr
 rw [h1]; simp
theorem q9a {c : Nat} {a : Option Nat} (h : (if ((PySem.Str.length ⟨(enc (c : Int)).toArray⟩ == 1) && (enc (c : Int)).toArray.all (fun x => decide (x < 128))) = true then some (enc (c : Int)).toArray[0]? else none) = some a) : ∃ d, a = some d ∧ enc (c : Int) = [d] := by
 split at h
 ·rename_i hq
  have q1 : (enc (c : Int)).length = 1 := by simpa [PySem.Str.length] using (v0r.mp hq).1
  obtain ⟨d, e⟩ := List.length_eq_one_iff.mp q1
  rw [e] at h
  exact ⟨d, (Option.some.inj h).symm, e⟩
 ·cases h
theorem q7g {c : Nat} {d : Nat} {kn : List (Nat × Option Nat)} (e : enc (c : Int) = [d]) (hk : ∀ c a, kn.lookup c = some a → ∃ d, a = some d ∧ enc (c : Int) = [d]) : ∀ c' a', List.lookup c' ((c, some d) :: kn) = some a' → ∃ d, a' = some d ∧ enc (c' : Int) = [d] := by
 intro c' a' h'
 rw [v0n] at h'
 split at h'
 ·rename_i q
  cases h'
  rw [beq_iff_eq.mp q]
  exact ⟨d, rfl, e⟩
 ·exact hk c' a' h'
theorem q1r {l : List Nat} {t : Tok} (hc : ∀ c ∈ l, c < 256) (hl : l ≠ []) (hz : l.length ≤ 100000) (X : (KK w.params).In s.heap) (h : ∀ t' k, Q (.str ⟨(trl l).toArray⟩ t') { s with toks := k }) : wpAny (model pw w) A (call (.builtin "str.translate") [.str ⟨l.toArray⟩ t, .ref 57]) Q E s := by
 refine call_meetsIn (S := fun _ R s' => s' = s ∧ ∀ t' k, R (.ok (.ret (.str ⟨(trl l).toArray⟩ t'))) { s with toks := k }) PySem.F.slot_str_translate (typeIs_str _ _ _) PySem.F.entry_str_translate (PySem.F.args_str_translate_2 _ _) (fun A R s' h => ?_) ⟨rfl, h⟩
 obtain ⟨rfl, h⟩ := h
 unfold Builtin.«str.translate»
 refine v1e (v1h ?_)
 dsimp only
 rw [if_neg (by show ¬ ((Array.size _ == 0) = true); simp [hl])]
 refine v1e (v1j (MeetsSeq2.wpAny_forIn_array _ (TrI l s') (TrI l s' []) ?_ (fun b s₁ I => I) _ _ ⟨⟨s'.toks, rfl⟩, ⟨[], rfl, rfl, rfl⟩, (fun c a e => by cases e), rfl⟩) (fun b s₁ I => ?_) fun _ _ e => e)
 ·intro c rest b s₁ I
  have hc' := hc c I.mem
  have X₁ : (KK w.params).In s₁.heap := by obtain ⟨k, rfl⟩ := I.st; exact X
  refine v1s (decide_eq_false (by rw [I.short hz]; exact v0o)) ?_
  refine wpAny_ite_split (fun _ => ?_) fun _ => ?_
  ·generalize hk : List.lookup c b.2.2.2.1 = o
   cases o with
   | some a =>
    obtain ⟨d, e1, e⟩ := I.kn c a hk
    cases e1
    exact v1e (v1h (v1h (I.next ⟨s₁.toks, rfl⟩ (by rw [e]) (by rw [e]; rfl) I.kn I.dr)))
   | none =>
    refine v1e (tl57 hc' X₁ ?_)
    dsimp only
    generalize ho : (if ((PySem.Str.length ⟨(enc (c : Int)).toArray⟩ == 1) && (enc (c : Int)).toArray.all (fun x => decide (x < 128))) = true then some (enc (c : Int)).toArray[0]? else none) = o
    cases o with
    | some a =>
     obtain ⟨d, e1, e⟩ := q9a ho
     cases e1
     exact v1e (v1h (v1h (I.next ⟨_, rfl⟩ (by rw [e]) (by rw [e]; rfl) (q7g e I.kn) I.dr)))
    | none =>
     refine v1e (v1h (v1e (wpAny_rule (v1s (decide_eq_false (by rw [I.dr]; exact v0o)) ?_))))
     exact v1e (tl57 (s := { s₁ with toks := s₁.toks + 1 }) hc' X₁ (v1h (I.next ⟨_, rfl⟩ rfl rfl I.kn I.dr)))
  ·refine v1s (decide_eq_false (by rw [I.dr]; exact v0o)) ?_
   exact v1e (tl57 hc' X₁ (v1h (I.next ⟨_, rfl⟩ rfl rfl I.kn I.dr)))
 ·obtain ⟨ps, n, f, kn, dr⟩ := b
  obtain ⟨k, rfl⟩ := I.st
  obtain ⟨pre, h1, h2, h3⟩ := I.pr
  dsimp only at h2 h3 ⊢
  obtain rfl : l = pre := by rw [h1, v0H]
  subst h3
  have tl := U7 l
  rw [if_neg (by rw [show Builtin.Str.tooLong (trl l).length = false from decide_eq_false (Nat.not_lt.mpr (sz (by lia)))]; exact v0o)]
  have ef : ∀ (qs : List PySem.Str) (acc : Array Nat), (qs.foldl (fun acc p => acc ++ p.cps) acc).toList = acc.toList ++ (qs.map (·.cps.toList)).flatten := by
   intro qs
   induction qs with
   | nil => intro acc; simp
   | cons q qs ih => intro acc; rw [v0B, ih]; simp
  have e : (ps.reverse.foldl (fun acc p => acc ++ p.cps) (#[] : Array Nat)) = (trl l).toArray := by
   apply Array.ext'
   rw [ef, h2]; rfl
  unfold retStr
  rw [e]
  exact v1e (wpAny_mkStr (v1h (h _ _)) (by show Array.size _ ≤ _; rw [v0p]; exact sz (by lia)))
end
noncomputable def fvE (e : Expr) : Option Expr := dite _ (fun h => @Expr.FormattedValue.elim (fun _ => Option Expr) e h fun v c sp _ => sel (decide (c = 115)) (Option.casesOn sp (some v) fun _ => none) none) fun _ => none
def X6 (ev : Expr → Sto → KA1 → Prop) : List Expr → List Nat → Sto → (List Nat → Sto → Prop) → Prop
 | [], out, sto, K => out.length ≤ sizeLine ∧ K out sto
 | e :: r, out, sto, K => ev (match fvE e with | some v => v | none => e) sto fun a s => match a with
  | .str l => l.length ≤ sizeLine ∧ (out ++ l).length ≤ sizeLine ∧ X6 ev r (out ++ l) s K
  | _ => False
theorem q9b {e v : Expr} (h : fvE e = some v) : ∃ p, e = .FormattedValue v 115 none p := by
 cases e with
 | FormattedValue e c sp p =>
  rcases E9 (show sel (decide (c = 115)) (Option.casesOn sp (some e) fun _ => none) none = some v from h) with ⟨q, g⟩ | g
  ·cases sp with
   | none => rw [of_decide_eq_true q, Option.some.inj g]; exact ⟨p, rfl⟩
   | some _ => exact noO g
  ·exact noO g
 | _ => exact noO h
theorem q7h (a b : List Nat) : ((⟨a.toArray⟩ : PySem.Str) ++ (⟨b.toArray⟩ : PySem.Str)) = ⟨(a ++ b).toArray⟩ := by
 show (⟨a.toArray ++ b.toArray⟩ : PySem.Str) = _
 rw [List.append_toArray]
section
variable {x : SX} {loc : Loc} {sto : Sto} {K : AV → Sto → Prop}
theorem q1s {ev : Expr → Sto → KA1 → Prop} (hev : ∀ e s K, ev e s K → EV x e loc s K) : ∀ (ps : List Expr) (out : List Nat) (sto : Sto) (K : List Nat → Sto → Prop), X6 ev ps out sto K → ∀ c α s (Q E : Value → Shared → Prop), Ok x c → Sat x c α loc sto s → (∀ l sto' α' s' t, K l sto' → Ex α α' → Sat x c α' loc sto' s' → Q (.str ⟨l.toArray⟩ t) s') →
  wpAny (model pw x.w) c.A (joinParts ⟨out.toArray⟩ (evalEach ps c.env)) Q E s := by
 intro ps
 induction ps with
 | nil =>
  intro out sto K h c α s Q E O Sx P
  exact joinParts_nil (P out sto α _ _ h.2 .refl (Sx.toks _)) (by show Array.size _ ≤ _; rw [v0p]; exact h.1)
 | cons e r ih =>
  intro out sto K h c α s Q E O Sx P
  show wpAny _ _ (joinParts ⟨out.toArray⟩ (eval e c.env :: evalEach r c.env)) _ _ _
  refine joinParts_cons ?_
  unfold X6 at h
  have fin : ∀ (l : List Nat) (s₁ : Sto) (α₁ : List Addr) (t₁ : Shared) (tk : Tok), (l.length ≤ sizeLine ∧ (out ++ l).length ≤ sizeLine ∧ X6 ev r (out ++ l) s₁ K) → Ex α α₁ → Sat x c α₁ loc s₁ t₁ → ((⟨out.toArray⟩ : PySem.Str) ++ (⟨l.toArray⟩ : PySem.Str)).length ≤ sizeLine ∧ wpAny (model pw x.w) c.A (joinParts ((⟨out.toArray⟩ : PySem.Str) ++ (⟨l.toArray⟩ : PySem.Str)) (evalEach r c.env)) Q E t₁ := fun l s₁ α₁ t₁ tk hl g S1 => by
   rw [q7h]
   exact ⟨by show Array.size _ ≤ _; rw [v0p]; exact hl.2.1, ih (out ++ l) s₁ K hl.2.2 c α₁ t₁ Q E O S1 fun l' sto' α' s' t hK g' S' => P l' sto' α' s' t hK (g.trans g') S'⟩
  cases hf : fvE e with
  | none =>
   rw [hf] at h
   refine hev _ _ _ h c α s _ E O Sx fun a s₁ α₁ t₁ va ha g S1 r1 => ?_
   cases a with
   | str l => obtain ⟨t, rfl⟩ := r1; exact fin l s₁ α₁ t₁ t ha g S1
   | _ => exact ha.elim
  | some v =>
   rw [hf] at h
   obtain ⟨p, rfl⟩ := q9b hf
   show wpAny _ _ (do let v ← eval v c.env; standAt p; formatted p (← holding [v] (converted 115 v)) none) _ _ _
   refine v1e (hev _ _ _ h c α s _ E O Sx fun a s₁ α₁ t₁ va ha g S1 r1 => ?_)
   refine v1e (v1f ?_)
   cases a with
   | str l =>
    obtain ⟨t, rfl⟩ := r1
    have hz : (⟨l.toArray⟩ : PySem.Str).length ≤ sizeLine := by show Array.size _ ≤ _; rw [v0p]; exact ha.1
    refine v1e (v1g (habitSame_str (fun t' tk => ?_) hz))
    exact formatField_str (fun t'' tk' => fin l s₁ α₁ _ t'' ha g (S1.toks tk')) hz
   | _ => exact ha.elim
theorem EV.fstr {ev : Expr → Sto → KA1 → Prop} (hev : ∀ e s K, ev e s K → EV x e loc s K) {a b : Expr} {r : List Expr} {pos : Pos} (h : X6 ev (a :: b :: r) [] sto fun l s => K (.str l) s) : EV x (.JoinedStr (a :: b :: r) pos) loc sto K := fun c α s Q E O Sx P =>
 JoinedStr_many (q1s hev _ [] sto _ h c α s Q E O Sx fun l sto' α' s' t hK g S' => P _ _ _ _ _ hK g S' ⟨t, rfl⟩)
end
noncomputable def truH (a : AV) (sto : Sto) (K : KA1) : Option Prop := AV.onY (q0L a sto K) a fun bs => some (bs.length ≤ 100000 ∧ K (.bool (!(bs.length == 0))) sto)
noncomputable def midH (a : AV) (sto : Sto) (n : Str) : Option Value := AV.casesOn a none (fun _ => none) (fun _ => none) (fun _ => sel (Fast.sEq n (S "translate")) (some (.builtin "str.translate")) (sel (Fast.sEq n (S "encode")) (some (.builtin "str.encode")) none)) (fun _ => sel (Fast.sEq n (S "decode")) (some (.builtin "bytes.decode")) none) (fun _ => none) fun _ => none
noncomputable def q5I (f : Value) (as : List AV) (kws : List (Str × AV)) (sto : Sto) (K : KA1) : Option Prop := onV none f (fun _ => none) (fun _ => none) fun id => U4 none kws (hd1 as fun a r => AV.casesOn a none (fun _ => none) (fun _ => none)
 (fun l => sel (decide (id = "str.translate")) (some (r = [.ext (.ref 57)] ∧ l ≠ [] ∧ (∀ c ∈ l, c < 256) ∧ l.length ≤ 100000 ∧ K (.str (trl l)) sto)) (sel (decide (id = "str.encode")) (some (r = [.str (S "latin-1").cps.toList] ∧ (∀ c ∈ l, c < 256) ∧ l.length ≤ sizeLine ∧ K (.bytes (l.map (·.toUInt8))) sto)) none))
 (fun bs => sel (decide (id = "bytes.decode")) (some (r = [.str (S "latin1").cps.toList] ∧ bs ≠ [] ∧ bs.length ≤ sizeLine ∧ K (.str (bs.map (·.toNat))) sto)) none) (fun _ => none) fun _ => none)
section
variable {M : Model} {A : Around} {E : Value → Shared → Prop} {s : Shared} {x : PySem.Str} {t : Tok} {pl : Sem Bool} {Q : Value × List Value → Shared → Prop}
theorem q7i (h : Q (.builtin "str.translate", [.str x t]) s) : wpAny M A (getMethod (.str x t) (S "translate") pl) Q E s := by
 with_reducible exact PySem.GM.of (.str x t) (typeIs_str _ _ _) PySem.F.slot_str_translate PySem.F.type_str_translate PySem.GM.noRef h
theorem q1W (h : Q (.builtin "str.encode", [.str x t]) s) : wpAny M A (getMethod (.str x t) (S "encode") pl) Q E s := by
 with_reducible exact PySem.GM.of (.str x t) (typeIs_str _ _ _) PySem.F.slot_str_encode PySem.F.type_str_encode PySem.GM.noRef h
end
section
variable {x : SX} {loc : Loc} {sto : Sto} {K : AV → Sto → Prop}
theorem q7j {a : AV} {P : Prop} (h : truH a sto K = some P) (hP : P) : TrS x a loc sto K := by
 rcases AV.onY_of (d := q0L a sto K) (b := a) (f := fun bs => some (bs.length ≤ 100000 ∧ K (.bool (!(bs.length == 0))) sto)) with e | ⟨bs, rfl⟩
 ·exact (D4 x).tru a loc sto K P (e.symm.trans h) hP
 ·have hP := C6 h hP
  intro c α s val Q E O Sx r Po
  obtain ⟨t, rfl⟩ := r
  refine truthy_bytes (by rw [v0p]; have := hP.1; lia) ?_
  have e : ((bs.toArray.size : Int) != 0) = !(bs.length == 0) := by
   rw [v0p]
   cases bs with
   | nil => rfl
   | cons b bs => simp; lia
  rw [e]
  exact Po _ _ _ _ hP.2 .refl (Sx.toks _)
theorem q7k {a : AV} {n : Str} {f : Value} (h : midH a sto n = some f) : B7 x f ∧ ∀ c α loc s av pl (Q : Value × List Value → Shared → Prop) E, Ok x c → Sat x c α loc sto s → VR α a av → Q (f, [av]) s → wpAny (model pw x.w) c.A (getMethod av n pl) Q E s := by
 refine AV.pickO h (fun _ => noO) B4 B4 (fun l e g => ?_) (fun l e g => ?_) B4 B4 <;> clear h <;> subst e
 ·rcases E9 g with ⟨q, e⟩ | g
  ·cases e
   refine ⟨B0 x _, fun c α loc s av pl Q E O Sx r hQ => ?_⟩
   obtain ⟨t, rfl⟩ := r
   rw [Fast.sEq_iff.mp q]
   exact q7i hQ
  ·rcases E9 g with ⟨q, e⟩ | g
   ·cases e
    refine ⟨B0 x _, fun c α loc s av pl Q E O Sx r hQ => ?_⟩
    obtain ⟨t, rfl⟩ := r
    rw [Fast.sEq_iff.mp q]
    exact q1W hQ
   ·exact noO g
 ·rcases E9 g with ⟨q, e⟩ | g
  ·cases e
   refine ⟨B0 x _, fun c α loc s av pl Q E O Sx r hQ => ?_⟩
   obtain ⟨t, rfl⟩ := r
   rw [Fast.sEq_iff.mp q]
   exact KBd.method hQ
  ·exact noO g
theorem q4J {f : Value} {as : List AV} {kws : List (Str × AV)} {P : Prop} (h : q5I f as kws sto K = some P) (hP : P) : B7 x f ∧ CallS x f as kws loc sto K := by
 obtain ⟨id, rfl, g1⟩ := jB h
 obtain ⟨rfl, g2⟩ := jK g1
 obtain ⟨a, r, rfl, g3⟩ := jH g2
 refine ⟨B0 x _, fun c α s vs ks Q E O Sx rv rk Po => ?_⟩
 obtain rfl := rk.nil
 refine AV.pickO g3 (fun _ => noO) B4 B4 (fun l e g => ?_) (fun l e g => ?_) B4 B4 <;> clear g1 g2 g3 h <;> subst e
 ·rcases G4 g with ⟨rfl, g⟩ | g
  ·obtain ⟨rfl, hn, hc, hz, hK⟩ := C6 g hP
   obtain ⟨v, w, rfl, ⟨t, rfl⟩, r2⟩ := rv.two
   obtain rfl : w = .ref 57 := r2
   exact q1r hc hn hz (Sx.gnd O) fun t' k => Po _ _ _ _ _ hK .refl (Sx.toks k) ⟨t', rfl⟩
  ·rcases G4 g with ⟨rfl, g⟩ | g
   ·obtain ⟨rfl, hc, hz, hK⟩ := C6 g hP
    obtain ⟨v, w, rfl, ⟨t, rfl⟩, ⟨u, rfl⟩⟩ := rv.two
    exact i7 hc hz fun t' k => Po _ _ _ _ _ hK .refl (Sx.toks k) ⟨t', rfl⟩
   ·exact noO g
 ·rcases G4 g with ⟨rfl, g⟩ | g
  ·obtain ⟨rfl, hn, hz, hK⟩ := C6 g hP
   obtain ⟨v, w, rfl, ⟨t, rfl⟩, ⟨u, rfl⟩⟩ := rv.two
   exact q1q hn hz fun t' k => Po _ _ _ _ _ hK .refl (Sx.toks k) ⟨t', rfl⟩
  ·exact noO g
noncomputable def XH : XT := { XK with tru := truH, mid := midH, call := q5I }
theorem XH_ok (x : SX) : P1 x XH := { D4 x with tru := fun a loc sto K P h hP => q7j h hP, mid := fun a sto n f h => q7k h, call := fun f as kws loc sto K P h hP => q4J h hP }
theorem fn88 : FnOk 88 k88 (A0 15) := by constructor <;> rfl'
end
noncomputable def lEnc (bs : List UInt8) : Loc := [(S "header_bytes", .bytes bs), (S "charset", .str [120])]
noncomputable def q2w (bs : List UInt8) (e : List Nat) : Loc := [(S "header_bytes", .bytes bs), (S "charset", .str [120]), (S "encoded", .str e)]
noncomputable def nth' (l : List Expr) (i : Nat) : Expr := l.getD i (.Constant .none 0 ⟨0, 0, 0, 0⟩)
noncomputable def jsP (e : Expr) : List Expr := eK e
noncomputable def jsPos (e : Expr) : Pos := e.pos
noncomputable def A8 (bs : List UInt8) : List Nat := bs.map (·.toNat)
noncomputable def F8 (p : List Nat) : List Nat := [61, 63, 120, 63, 113, 63] ++ p ++ [63, 61]
theorem P4 {bs : List UInt8} : ∀ c ∈ A8 bs, c < 256 := fun c hc => by
 obtain ⟨b, _, rfl⟩ := v0z.mp hc
 exact b.toNat_lt
section
variable {x : SX} {loc : Loc} {sto : Sto} {K : AV → Sto → Prop}
theorem q9c {bs : List UInt8} (KK : KF) : xw (inY x (A0 15)) (A5 D0 XH) 60 ((fdB (A0 15)).take 2) (lEnc bs) sto KK =
 (bs.length ≤ 100000 ∧ cnd (!(!(bs.length == 0))) (KK (.ret (.str [])) (lEnc bs) sto)
  ([AV.str (S "latin1").cps.toList] = [AV.str (S "latin1").cps.toList] ∧ bs ≠ [] ∧ bs.length ≤ sizeLine ∧ [AV.ext (.ref 57)] = [AV.ext (.ref 57)] ∧ A8 bs ≠ [] ∧ (∀ c ∈ A8 bs, c < 256) ∧ (A8 bs).length ≤ 100000 ∧ KK .next (q2w bs (trl (A8 bs))) sto)) := by rfl'
theorem q4K {bs : List UInt8} {en : List Nat} (KK : List Nat → Sto → Prop) : X6 (fun e s K => ew (inY x (A0 15)) (A5 D0 XH) 60 false e (q2w bs en) s K) (jsP (rtE (nth (fdB (A0 15)) 2))) [] sto KK =
 ([61, 63].length ≤ sizeLine ∧ ([] ++ [61, 63] : List Nat).length ≤ sizeLine ∧ [120].length ≤ sizeLine ∧ ([] ++ [61, 63] ++ [120] : List Nat).length ≤ sizeLine ∧ [63, 113, 63].length ≤ sizeLine ∧ ([] ++ [61, 63] ++ [120] ++ [63, 113, 63] : List Nat).length ≤ sizeLine ∧
  en.length ≤ sizeLine ∧ ([] ++ [61, 63] ++ [120] ++ [63, 113, 63] ++ en : List Nat).length ≤ sizeLine ∧ [63, 61].length ≤ sizeLine ∧ ([] ++ [61, 63] ++ [120] ++ [63, 113, 63] ++ en ++ [63, 61] : List Nat).length ≤ sizeLine ∧ ([] ++ [61, 63] ++ [120] ++ [63, 113, 63] ++ en ++ [63, 61] : List Nat).length ≤ sizeLine ∧ KK (F8 en) sto) := by rfl'
theorem cEnc (hd : 1 ≤ x.d) {bs : List UInt8} (hn : bs ≠ []) (hz : bs.length ≤ 10000) (h : K (.str (F8 (trl (A8 bs)))) sto) : CodeS x (.ref 88) [.bytes bs, .str [120]] [] loc sto K := by
 refine D5 fn88 (loc₀ := lEnc bs) (fun α vs ks r rk => ?_) (by rfl') (show List.Nodup [S "header_bytes", S "charset"] from by decide +kernel) (by lia) ?_
 ·obtain ⟨v, w, rfl, r1, r2⟩ := r.two
  obtain rfl := rk.nil
  exact ⟨[(S "header_bytes", v), (S "charset", w)], fun Se => by rfl', rfl, r1, rfl, r2, trivial⟩
 ·have TO : D8 (inY x (A0 15)) (A5 D0 XH) := B2 (A9 _) (XH_ok _)
  refine XSs.mid (pre := (fdB (A0 15)).take 2) (st := nth (fdB (A0 15)) 2) (post := []) (by rfl') (A1 TO 60 _ _ _ _ ?_)
  rw [q9c]
  have l1 : (A8 bs).length = bs.length := by simp [A8]
  have l2 := U7 (A8 bs)
  refine ⟨by lia, cnd_iff.mpr ⟨fun q => ?_, fun _ => ⟨rfl, hn, sz (by lia), rfl, fun q => hn (by simpa [A8] using q), P4, by lia, ?_⟩⟩⟩
  ·have : bs.length = 0 := by simpa using q
   exact absurd (v0Y this) hn
  ·show XS _ _ _ _ _
   obtain ⟨p, q⟩ : ∃ p, nth (fdB (A0 15)) 2 = .Return (some (rtE (nth (fdB (A0 15)) 2))) p := ⟨rtP (nth (fdB (A0 15)) 2), by rfl'⟩
   rw [q]
   refine XS.ret ?_
   obtain ⟨a, b, r, e⟩ : ∃ a b r, rtE (nth (fdB (A0 15)) 2) = .JoinedStr (a :: b :: r) (jsPos (rtE (nth (fdB (A0 15)) 2))) := ⟨nth' (jsP (rtE (nth (fdB (A0 15)) 2))) 0, nth' (jsP (rtE (nth (fdB (A0 15)) 2))) 1, (jsP (rtE (nth (fdB (A0 15)) 2))).drop 2, by rfl'⟩
   have e2 : jsP (rtE (nth (fdB (A0 15)) 2)) = a :: b :: r := by rw [e]; rfl
   rw [e]
   refine EV.fstr (ev := fun e s K => ew (inY x (A0 15)) (A5 D0 XH) 60 false e (q2w bs (trl (A8 bs))) s K) (fun e s K h => A4 TO 60 false _ _ _ _ h) ?_
   rw [← e2, q4K]
   have l3 : (F8 (trl (A8 bs))).length = (trl (A8 bs)).length + 8 := by simp [F8]
   refine ⟨sz (by decide), sz (by decide), sz (by decide), sz (by decide), sz (by decide), sz (by decide), sz (by lia), sz ?_, sz (by decide), sz ?_, sz ?_, BodyK.ret h⟩ <;> simp <;> lia
end
theorem Q4 {m : Sre.M} (h : m.outcome.isSome = true) : ∀ n, m.runFor n = m
 | 0 => rfl
 | n + 1 => by rw [Sre.M.runFor, if_pos h]
theorem H7 (a : Nat) : ∀ (m : Sre.M) (b : Nat), m.runFor (a + b) = (m.runFor a).runFor b := by
 induction a with
 | zero => intro m b; rw [Nat.zero_add]; rfl
 | succ a ih =>
  intro m b
  rw [show a + 1 + b = (a + b) + 1 by lia, Sre.M.runFor, Sre.M.runFor]
  cases h : m.outcome.isSome with
  | true => rw [if_pos rfl, if_pos rfl, Q4 h]
  | false => rw [if_neg v0o, if_neg v0o, ih]
theorem F9 {m : Sre.M} (h : m.outcome.isSome = false) (n : Nat) : m.runFor (n + 1) = m.step.runFor n := by
 rw [Sre.M.runFor, if_neg (by rw [h]; exact v0o)]
section
variable {M : Model} {A : Around} {E : Value → Shared → Prop} {s : Shared}
theorem q5J {Q : Sre.M → Shared → Prop} : ∀ (T n : Nat) (m : Sre.M), n ≤ 4 * T → 0 < T → (m.runFor n).outcome.isSome = true → Q (m.runFor n) s → wpAny M A (Builtin.Re.reDrive T m) Q E s := by
 intro T
 induction T with
 | zero => intro n m _ h; exact absurd h (Nat.lt_irrefl _)
 | succ T ih =>
  intro n m hn _ ho hQ
  rw [Builtin.Re.reDrive]
  show wpAny _ _ (if (m.runFor 4).outcome.isSome = true then pure (m.runFor 4) else (rule "sre.turn" >>= fun _ => Builtin.Re.reDrive T (m.runFor 4))) _ _ _
  by_cases h4 : (m.runFor 4).outcome.isSome = true
  ·first | refine v1r (decide_eq_true h4) ?_ | rw [if_pos h4]
   have e : m.runFor n = m.runFor 4 := by
    rcases Nat.le_total n 4 with h | h
    ·obtain ⟨k, e⟩ := v1b h
     have := H7 n m k
     rw [← e, Q4 ho] at this
     exact this.symm
    ·obtain ⟨k, rfl⟩ := v1b h
     rw [H7, Q4 h4]
   rw [e] at hQ
   exact v1h hQ
  ·first | refine v1s (decide_eq_false h4) ?_ | rw [if_neg h4]
   have h : 4 < n := by
    rcases Nat.lt_or_ge 4 n with h | h
    ·exact h
    ·exfalso
     obtain ⟨k, e⟩ := v1b h
     apply h4
     rw [e, H7, Q4 ho]; exact ho
   obtain ⟨k, rfl⟩ := v1b (Nat.le_of_lt h)
   rw [H7] at ho hQ
   exact v1e (wpAny_rule (ih k _ (by lia) (by lia) ho hQ))
theorem q0T {Q : Option Sre.M → Shared → Prop} {n : Nat} {m : Sre.M} (hn : n ≤ 4000000) (ho : (m.runFor n).outcome = some .matched) (hQ : Q (some (m.runFor n)) s) : wpAny M A (Builtin.Re.reRunToEnd m) Q E s := by
 unfold Builtin.Re.reRunToEnd
 refine v1e (q5J (2 ^ 64) n m (by have : 2 ^ 64 = 18446744073709551616 := rfl; lia) (by decide) (by rw [ho]; rfl) ?_)
 refine v1e (Y6 (fun _ _ s' => s' = s) _ 0 _ s rfl (fun i x b s' _ hI => ?_) fun b s' hI => ?_)
 ·subst hI
  split
  ·exact v1e (wpAny_rule (v1h ⟨_, rfl, rfl⟩))
  ·exact v1h ⟨_, rfl, rfl⟩
 ·subst hI
  rw [ho]
  exact v1h hQ
theorem x0 {Q : Option Sre.M → Shared → Prop} {n : Nat} {m : Sre.M} (hn : n ≤ 4000000) (ho : (m.runFor n).outcome = some .failed) (hQ : Q none s) : wpAny M A (Builtin.Re.reRunToEnd m) Q E s := by
 unfold Builtin.Re.reRunToEnd
 refine v1e (q5J (2 ^ 64) n m (by have : 2 ^ 64 = 18446744073709551616 := rfl; lia) (by decide) (by rw [ho]; rfl) ?_)
 refine v1e (Y6 (fun _ _ s' => s' = s) _ 0 _ s rfl (fun i x b s' _ hI => ?_) fun b s' hI => ?_)
 ·subst hI
  split
  ·exact v1e (wpAny_rule (v1h ⟨_, rfl, rfl⟩))
  ·exact v1h ⟨_, rfl, rfl⟩
 ·subst hI
  rw [ho]
  exact v1h hQ
end
noncomputable def code1 : Array Nat := #[14, 8, 1, 3, 3, 1, 1, 61, 0, 16, 61, 24, 16, 2, 2, 13, 11, 9, 0, 67043328, 126, 126, 0, 0, 0, 0, 0, 1, 1]
noncomputable def frA (s : Nat) (f : Bool) : Sre.Frame := { wait := .nextStart, pc := 9, pos := s, outermost := f }
noncomputable def stA (text : Array Nat) (lim s : Nat) (f : Bool) (seen : Sre.Seen) : Sre.M := { code := code1, text, lim, start := s, lastStart := lim, pc := 9, pos := s, handed := s, outermost := f, marks := #[], frames := [frA s f], weight := 1, seen }
section
variable {text : Array Nat} {lim s : Nat} {f : Bool} {seen : Sre.Seen}
theorem a_1 : (stA text lim s f seen).step = (if s ≥ lim then { stA text lim s f (seen.add 16) with answer := some false } else match text.getD s 0 == 61 with
  | true => { stA text lim s f (seen.add 16) with pc := 11, pos := s + 1 }
  | false => { stA text lim s f (seen.add 16) with answer := some false }) := by rfl'
theorem a_2 : Sre.M.step { stA text lim s f seen with answer := some false } = (if s < lim then stA text lim (s + 1) false seen else { stA text lim s f seen with answer := some false, frames := [], weight := 0 }) := by rfl'
theorem a_3 : Sre.M.step { stA text lim s f seen with answer := some false, frames := [], weight := 0 } = { stA text lim s f seen with answer := some false, frames := [], weight := 0, outcome := some .failed } := by rfl'
noncomputable def W3 (c : Nat) : Bool := (48 ≤ c && c ≤ 57) || ((65 ≤ c && c ≤ 70) || (97 ≤ c && c ≤ 102))
theorem q7l : ∀ c : Nat, c < 256 → (code1.getD (17 + (1 + c / 32)) 0).testBit (c % 32) = W3 c := by decide +kernel
theorem q9d {c : Nat} : Sre.inSet code1 c 29 17 true seen = (if (decide (c < 256) && (code1.getD (17 + (1 + c / 32)) 0).testBit (c % 32)) = true then .ok (true, seen.add 9) else .ok (false, (seen.add 9).add 0)) := by rfl'
theorem q3S {c : Nat} (hc : c < 256) (h : W3 c = true) : Sre.inSet code1 c 29 17 true seen = .ok (true, seen.add 9) := by
 rw [q9d, q7l c hc, h, decide_eq_true hc]; rfl
theorem q3T {c : Nat} : Sre.accepts code1 15 c seen = Sre.inSet code1 c 29 17 true seen := by rfl'
theorem run2 {p : Nat} (h1 : text.getD p 0 < 256) (h2 : text.getD (p + 1) 0 < 256) (k1 : W3 (text.getD p 0) = true) (k2 : W3 (text.getD (p + 1) 0) = true) : ∃ seen', Sre.run code1 text 15 2 p 0 seen = .ok (2, seen') := by
 refine ⟨(seen.add 9).add 9, ?_⟩
 show (Sre.accepts code1 15 (text.getD p 0) seen >>= fun r => if r.1 = true then Sre.run code1 text 15 1 (p + 1) (0 + 1) r.2 else pure (0, r.2)) = _
 rw [q3T, q3S h1 k1]
 show (Sre.accepts code1 15 (text.getD (p + 1) 0) (seen.add 9) >>= fun r => if r.1 = true then Sre.run code1 text 15 0 (p + 1 + 1) (0 + 1 + 1) r.2 else pure (0 + 1, r.2)) = _
 rw [q3T, q3S h2 k2]
 rfl
noncomputable def stB (text : Array Nat) (lim s : Nat) (f : Bool) (seen : Sre.Seen) : Sre.M := { stA text lim s f seen with pc := 11, pos := s + 1 }
noncomputable def frG (s : Nat) (f : Bool) : Sre.Frame := { wait := .giveBack, pc := 11, pos := s + 3, outermost := f, count := 2, kept := { lastmark := -1, lastindex := -1, whole := false, marks := #[] } }
noncomputable def stC (text : Array Nat) (lim s : Nat) (f : Bool) (seen : Sre.Seen) : Sre.M := { stA text lim s f seen with pc := 28, pos := s + 3, handed := s + 3, frames := [frG s f, frA s f], weight := 2 }
theorem b_1 : (stB text lim s f seen).step = (if ((2 : Nat) : Int) > ((lim : Nat) : Int) - ((s + 1 : Nat) : Int) then { stB text lim s f (seen.add 24) with answer := some false } else
  match Sre.run code1 text 15 (min 2 (((lim : Nat) : Int) - ((s + 1 : Nat) : Int)).toNat) (s + 1) 0 ((seen.add 24).add 13) with
  | .error why => Sre.M.stick { stB text lim s f (seen.add 24) with code := code1 } why
  | .ok (n, sn) => if n < 2 then { stB text lim s f sn with answer := some false } else Sre.M.afterRun { stB text lim s f sn with pos := s + 1 + n } .giveBack n { lastmark := -1, lastindex := -1, whole := false, marks := #[] }) := by rfl'
theorem b_2 {sn : Sre.Seen} : Sre.M.afterRun { stB text lim s f sn with pos := s + 1 + 2 } .giveBack (2 : Nat) { lastmark := -1, lastindex := -1, whole := false, marks := #[] } = stC text lim s f sn := by rfl'
theorem c_4 : ∃ sn, (stC text lim s f seen).runFor 4 = { stA text lim s f sn with pc := 9, pos := s, handed := s + 3, frames := [], weight := 0, answer := some true, outcome := some .matched } := by
 refine ⟨seen.add 1, ?_⟩
 cases f <;> rfl'
structure Hit (text : Array Nat) (lim i : Nat) : Prop where
 eq : text.getD i 0 = 61
 rm : i + 3 ≤ lim
 l1 : text.getD (i + 1) 0 < 256
 l2 : text.getD (i + 2) 0 < 256
 h1 : W3 (text.getD (i + 1) 0) = true
 h2 : W3 (text.getD (i + 2) 0) = true
noncomputable def W4 (text : Array Nat) (lim s : Nat) (f : Bool) (seen : Sre.Seen) : Sre.M := { stA text lim s f seen with pc := 9, pos := s, handed := s + 3, frames := [], weight := 0, answer := some true, outcome := some .matched }
theorem q7m (H : Hit text lim s) : ∃ sn, (stA text lim s f seen).runFor 6 = W4 text lim s f sn := by
 obtain ⟨e, rm, l1, l2, h1, h2⟩ := H
 have s1 : (stA text lim s f seen).step = stB text lim s f (seen.add 16) := by
  rw [a_1, if_neg (by lia), e]; rfl
 obtain ⟨sn, hr⟩ := run2 (seen := ((seen.add 16).add 24).add 13) (text := text) (p := s + 1) l1 l2 h1 h2
 have s2 : (stB text lim s f (seen.add 16)).step = stC text lim s f sn := by
  rw [b_1, if_neg (by lia), show min 2 (((lim : Nat) : Int) - ((s + 1 : Nat) : Int)).toNat = 2 by lia, hr]
  show (if 2 < 2 then _ else _) = _
  first | refine v1s (decide_eq_false (by decide)) ?_ | rw [if_neg (by decide)]
  exact b_2
 rw [F9 rfl, s1, F9 rfl, s2]
 exact c_4
theorem x7 (h : s < lim) (hn : text.getD s 0 ≠ 61) : ∃ sn, (stA text lim s f seen).runFor 2 = stA text lim (s + 1) false sn := by
 refine ⟨seen.add 16, ?_⟩
 rw [F9 rfl, a_1, if_neg (by lia), show (text.getD s 0 == 61) = false from by simpa using hn]
 show Sre.M.runFor 1 { stA text lim s f (seen.add 16) with answer := some false } = _
 rw [F9 rfl, a_2, if_pos h]; rfl
theorem q7n : ∃ m, (stA text lim lim f seen).runFor 3 = m ∧ m.outcome = some .failed := by
 refine ⟨{ stA text lim lim f (seen.add 16) with answer := some false, frames := [], weight := 0, outcome := some .failed }, ?_, rfl⟩
 rw [F9 rfl, a_1, if_pos (v0h _)]
 show Sre.M.runFor 2 { stA text lim lim f (seen.add 16) with answer := some false } = _
 rw [F9 rfl, a_2, if_neg (Nat.lt_irrefl _)]
 show Sre.M.runFor 1 { stA text lim lim f (seen.add 16) with answer := some false, frames := [], weight := 0 } = _
 rw [F9 rfl, a_3]; rfl
theorem q2x : ∀ (k s : Nat) (f : Bool) (seen : Sre.Seen), (∀ j, s ≤ j → j < s + k → text.getD j 0 ≠ 61) → Hit text lim (s + k) → ∃ n f' sn, n ≤ 2 * k + 6 ∧ (stA text lim s f seen).runFor n = W4 text lim (s + k) f' sn := by
 intro k
 induction k with
 | zero => intro s f seen _ H; obtain ⟨sn, e⟩ := q7m (f := f) (seen := seen) H; exact ⟨6, f, sn, by lia, e⟩
 | succ k ih =>
  intro s f seen hm H
  obtain ⟨sn, e⟩ := x7 (f := f) (seen := seen) (lim := lim) (s := s) (text := text) (by have := H.rm; lia) (hm s (v0h _) (by lia))
  obtain ⟨n, f', sn', hn, e'⟩ := ih (s + 1) false sn (fun j h1 h2 => hm j (by lia) (by lia)) (by rw [show s + 1 + k = s + (k + 1) by lia]; exact H)
  refine ⟨2 + n, f', sn', by lia, ?_⟩
  rw [H7, e, e', show s + 1 + k = s + (k + 1) by lia]
theorem q1t : ∀ (k s : Nat) (f : Bool) (seen : Sre.Seen), s + k = lim → (∀ j, s ≤ j → j < lim → text.getD j 0 ≠ 61) → ∃ n m, n ≤ 2 * k + 3 ∧ (stA text lim s f seen).runFor n = m ∧ m.outcome = some .failed := by
 intro k
 induction k with
 | zero => intro s f seen e _; rw [Nat.add_zero] at e; subst e; obtain ⟨m, e1, e2⟩ := q7n (f := f) (seen := seen) (text := text) (lim := s); exact ⟨3, m, by lia, e1, e2⟩
 | succ k ih =>
  intro s f seen e hm
  obtain ⟨sn, e1⟩ := x7 (f := f) (seen := seen) (lim := lim) (s := s) (text := text) (by lia) (hm s (v0h _) (by lia))
  obtain ⟨n, m, hn, e2, e3⟩ := ih (s + 1) false sn (by lia) (fun j h1 h2 => hm j (by lia) h2)
  exact ⟨2 + n, m, by lia, by rw [H7, e1, e2], e3⟩
end
noncomputable def ivF (f : PySem.Fin) : Option Int := PySem.Fin.casesOn f (fun r => Flow.casesOn r none none none fun v => dite _ (fun h => @Value.int.elim (fun _ => Option Int) v h fun n _ => some n) fun _ => none) fun _ => none
theorem q9e {f : PySem.Fin} {n : Int} (h : ivF f = some n) : ∃ tk, f = .done (.ret (.int n tk)) := by
 cases f with
 | again c => exact noO h
 | done r => cases r with
  | ret v => cases v with
   | int m tk => rw [show m = n from Option.some.inj h]; exact ⟨tk, rfl⟩
   | _ => exact noO h
  | _ => exact noO h
noncomputable def ivT (St : Setting) (t : Sem Fin) : Tok → Option Int := @Sem.rec Fin (fun _ => Tok → Option Int) (fun f _ => ivF f) (fun _ _ => none) (fun _ _ => none) (fun _ _ => none) (fun _ _ ih => ih ()) (fun _ _ _ _ => none) (fun _ _ _ _ _ => none) (fun _ _ _ _ _ _ => none) (fun _ _ _ _ => none) (fun _ _ _ _ => none) (fun _ _ ih => ih ()) (fun _ _ _ _ => none) (fun _ ih tk => ih tk (tk + 1)) (fun _ ih => ih St)
 (fun _ _ _ _ _ => none) (fun _ _ _ _ _ => none) (fun _ _ _ _ _ _ _ => none) (fun _ _ _ _ => none) (fun _ _ _ _ => none) (fun _ _ _ _ => none) (fun _ _ _ _ _ _ => none) (fun _ _ _ _ _ _ => none) (fun _ _ _ => none) (fun _ _ _ _ => none) (fun _ _ _ => none) (fun _ _ _ _ _ _ _ => none) t
theorem q9f {M : Model} {A : Around} {E : Value → Shared → Prop} {Q : Fin → Shared → Prop} {n : Int} : ∀ (t : Sem Fin) (s : Shared), ivT ⟨M.prog, M.w.params⟩ t s.toks = some n → (∀ tk k, Q (.done (.ret (.int n tk))) { s with toks := k }) → wpAny M A t Q E s := by
 intro t
 induction t with
 | pure f =>
  intro s h hQ
  obtain ⟨tk, e⟩ := q9e h
  rw [e]
  exact v1h (hQ _ s.toks)
 | rule _ k ih => exact fun s h hQ Γ p hΓ => ih () s h hQ Γ p hΓ
 | point _ k ih => exact fun s h hQ Γ p hΓ => ih () s h hQ Γ p hΓ
 | ask k ih => exact fun s h hQ Γ p hΓ => ih _ s h hQ Γ p hΓ
 | fresh k ih =>
  intro s h hQ Γ p hΓ
  exact ih s.toks { s with toks := s.toks + 1 } h (fun tk j => hQ tk j) Γ p hΓ
 | _ => exact fun s h hQ => noO h
noncomputable def optI : Option Int → Nat → Bool
 | some n, k => decide (n = (k : Int))
 | none, _ => false
noncomputable def hx2 (k : Nat) : List Nat := fig ((k : Int).fdiv 16) ++ fig ((k : Int).fmod 16)
theorem q9g (St : Setting) (tk u t : Tok) : (List.range 256).all (fun k => optI (ivT St (Builtin.«int.__new__» ⟨[.type "int", .str ⟨(hx2 k).toArray⟩ u, .int 16 t], []⟩) tk) k) = true := by rfl'
theorem t8 (a b : Value) : checkTypeCall "int" ⟨[a, b], []⟩ = pure () := by rfl'
theorem y9 (a b : Value) : checkBuiltinCall "int.__new__" ⟨[.type "int", a, b], []⟩ = pure () := by rfl'
theorem a8 (a b c : Value) : argsOk "object.__init__" ⟨[a, b, c], []⟩ := by unfold argsOk; rfl'
section
variable {w : World} {A : Around} {s : Shared} {Q E : Value → Shared → Prop}
theorem q0U {k : Nat} (hk : k < 256) {u t : Tok} (h : ∀ tk j, Q (.int (k : Int) tk) { s with toks := j }) : wpAny (model pw w) A (call (.type "int") [.str ⟨(hx2 k).toArray⟩ u, .int 16 t]) Q E s := by
 refine callType_new (S := fun _ R s' => ∀ tk j, R (.ok (.ret (.int (k : Int) tk))) { s' with toks := j }) PySem.F.called_int PySem.F.newNe_int (t8 _ _) (y9 _ _) (fun obj => a8 obj _ _) PySem.F.entry_int_new (.of_wp fun prog w A R s hR => ?_) ?_
 ·have q := v0w.mp (q9g ⟨prog, w.params⟩ s.toks u t) k (v0Q.mpr hk)
  have e : ivT ⟨prog, w.params⟩ (Builtin.«int.__new__» ⟨[.type "int", .str ⟨(hx2 k).toArray⟩ u, .int 16 t], []⟩) s.toks = some (k : Int) := by
   unfold optI at q
   split at q
   ·rename_i n hn; rw [hn, of_decide_eq_true q]
   ·cases q
  exact q9f _ s e fun tk j => ⟨_, rfl, hR tk j⟩
 ·exact fun tk j => ⟨typeIs_int _ _ _, h tk j⟩
end
noncomputable def q5K (f : Value) (as : List AV) (kws : List (Str × AV)) (sto : Sto) (K : KA1) : Option Prop := onV none f (fun _ => none) (fun T => U4 none kws (hd1 as fun a r => a.onS none fun l => sel (decide (T = "int")) (some (r = [.int 16] ∧ ∃ k : Nat, k < 256 ∧ l = hx2 k ∧ K (.int (k : Int)) sto)) none)) fun _ => none
section
variable {x : SX} {loc : Loc} {sto : Sto} {K : AV → Sto → Prop}
theorem q4L {f : Value} {as : List AV} {kws : List (Str × AV)} {P : Prop} (h : q5K f as kws sto K = some P) (hP : P) : B7 x f ∧ CallS x f as kws loc sto K := by
 obtain ⟨T, rfl, g1⟩ := jT h
 obtain ⟨rfl, g2⟩ := jK g1
 obtain ⟨a, r, rfl, g3⟩ := jH g2
 obtain ⟨l, rfl, g4⟩ := AV.jS g3
 rcases G4 g4 with ⟨rfl, g5⟩ | g5
 ·refine ⟨M9 x _, fun c α s vs ks Q E O Sx rv rk Po => ?_⟩
  obtain rfl := rk.nil
  obtain ⟨rfl, k, hk, rfl, hK⟩ := C6 g5 hP
  obtain ⟨v, w, rfl, ⟨t, rfl⟩, ⟨u, rfl⟩⟩ := rv.two
  exact q0U hk fun tk j => Po _ _ _ _ _ hK .refl (Sx.toks j) ⟨tk, rfl⟩
 ·exact noO g5
noncomputable def XI : XT := { XK with call := q5K }
theorem XI_ok (x : SX) : P1 x XI := { D4 x with call := fun f as kws loc sto K P h hP => q4L h hP }
theorem fn80 : FnOk 80 k80 (A0 14) := by constructor <;> rfl'
theorem unqIn {l : List Nat} (KK : KF) : xw (inY x (A0 14)) (A5 D0 XI) 60 (fdB (A0 14)) [(S "s", .str l)] sto KK =
 (l.length ≤ sizeLine ∧ [AV.int 16] = [AV.int 16] ∧ ∃ k : Nat, k < 256 ∧ cutL l (some 1) (some 3) = hx2 k ∧ 0 ≤ (k : Int) ∧ (k : Int) ≤ 1114111 ∧ KK (.ret (.str [(k : Int).toNat])) [(S "s", .str l)] sto) := by rfl'
theorem cUnq (hd : 1 ≤ x.d) {k : Nat} (hk : k < 256) (h : K (.str [k]) sto) : CodeS x (.ref 80) [.str (61 :: hx2 k)] [] loc sto K := by
 refine D5 fn80 (loc₀ := [(S "s", .str (61 :: hx2 k))]) (fun α vs ks r rk => ?_) (by rfl') (show List.Nodup [S "s"] from by decide +kernel) (by lia) (A1 (B2 (A9 _) (XI_ok _)) 60 _ _ _ _ ?_)
 ·obtain ⟨v, rfl, r1⟩ := r.one
  obtain rfl := rk.nil
  exact ⟨[(S "s", v)], fun Se => by rfl', rfl, r1, trivial⟩
 ·rw [unqIn]
  exact ⟨sz (by show 3 ≤ 1000000; lia), rfl, k, hk, by rfl', by lia, by lia, by rw [Int.toNat_natCast]; exact BodyK.ret h⟩
end
theorem q1u : PlainAttrs "re.Match" :=
 ⟨⟨"object.__getattribute__", by rw [typeLookup_type, builtinLookup_eq_fast]; rfl', by decide +kernel⟩, by rw [typeLookup_type, builtinLookup_eq_fast]; rfl'⟩
theorem n8 : Slot "re.Match" "group" "re.Match.group" :=
 .of (owner := "re.Match") (n := "group") (by rw [typeLookup_type, builtinLookup_eq_fast]; rfl') (by decide +kernel) (by decide +kernel) (by decide +kernel)
  (by first | exact .inl (by decide +kernel) | exact .inr (by decide +kernel)) (by rw [isSubtype_type]; rfl')
theorem q2y : typeOf (.builtin "re.Match.group") = pure (.type "method_descriptor") := by show builtinType _ = _; rw [builtinType_eq_fast]; rfl'
theorem q1v : entryFor table "re.Match.group" = some Builtin.«re.Match.group» := entryFor_of_tree (by rfl')
theorem q2z (a b : Value) : argsOk "re.Match.group" ⟨[a, b], []⟩ := by unfold argsOk; rfl'
structure X7 (h : Heap) (m tup : Addr) (l : List Nat) (b e : Nat) : Prop where
 ob : ∃ o t p q r, h.get? m = some o ∧ o.cls = .type "re.Match" ∧ o.dict = none ∧ o.data = .fields #[.str ⟨l.toArray⟩ t, p, q, r, rawInt (-1), .ref tup]
 tp : ∃ o n, h.get? tup = some o ∧ o.data = .seq #[rawInt b, rawInt e] n
section
variable {w : World} {A : Around} {s : Shared} {Q E : Value → Shared → Prop}
theorem q4M {M : Model} {X : Builtin.Re.ReFound} {l : List Nat} {t : Tok} {b e : Nat} {d : Value} (h0 : X.fields.getD 0 .none = .str ⟨l.toArray⟩ t) (h1 : X.spans.getD (2 * 0) (-1) = (b : Int)) (h2 : X.spans.getD (2 * 0 + 1) (-1) = (e : Int)) (hz : l.length ≤ sizeLine) (h : ∀ t' k, Q (.str ⟨(l.toArray.extract b e)⟩ t') { s with toks := k }) : wpAny M A (Builtin.Re.reGroupText X 0 d) Q E s := by
 unfold Builtin.Re.reGroupText
 rw [h0, h1, h2]
 dsimp only
 first | (refine v1s (decide_eq_false (by simp)) ?_; rw [Int.toNat_natCast, Int.toNat_natCast]) | rw [if_neg (by simp), Int.toNat_natCast, Int.toNat_natCast]
 have g1 : Builtin.Re.reTextOf (.str ⟨l.toArray⟩ t) = pure (l.toArray, 0) := by rfl'
 rw [g1]
 refine v1e (v1h ?_)
 show wpAny _ _ (mkStr ⟨l.toArray.extract b e⟩) _ _ _
 exact wpAny_mkStr (h _ _) (by show Array.size _ ≤ _; rw [Array.size_extract, v0p]; lia)
theorem q2A {m tup : Addr} {l : List Nat} {b e : Nat} {t : Tok} (H : X7 s.heap m tup l b e) (hz : l.length ≤ sizeLine) (h : ∀ t' k, Q (.str ⟨(l.toArray.extract b e)⟩ t') { s with toks := k }) : wpAny (model pw w) A (call (.builtin "re.Match.group") [.ref m, .int 0 t]) Q E s := by
 obtain ⟨⟨o, t0, p, q, r, h1, h2, h3, h4⟩, ⟨o', n, h5, h6⟩⟩ := H
 refine call_meetsIn (S := fun _ R s' => s' = s ∧ ∀ t' k, R (.ok (.ret (.str ⟨(l.toArray.extract b e)⟩ t'))) { s with toks := k }) n8 ⟨o, h1, h2⟩ q1v (q2z _ _) (.of_wp fun A R s' h => ?_) ⟨rfl, h⟩
 obtain ⟨rfl, h⟩ := h
 unfold Builtin.«re.Match.group»
 refine v1e (v1h ?_)
 show wpAny _ _ (Builtin.Re.reFound (.ref m) >>= fun x => (Builtin.Re.reGroupNumber x (.int 0 t) >>= fun g => Builtin.Re.reGroupText x g .none >>= fun v => ret v)) _ _ _
 refine v1e ?_
 unfold Builtin.Re.reFound
 refine v1e (wpAny_fieldsOf h1 h4 ?_)
 show wpAny _ _ (Builtin.Re.reRawItems (.ref tup) >>= _) _ _ _
 unfold Builtin.Re.reRawItems
 refine v1e (v1e (wpAny_seqItems h5 h6 (v1h (v1h ?_))))
 refine v1e (v1k (a := 0) (by rfl') ?_)
 refine v1e (q4M (b := b) (e := e) (l := l) (t := t0) (by rfl') (by rfl') (by rfl') hz fun t' k => ?_)
 exact v1h ⟨_, rfl, h t' k⟩
end
section
variable {x : SX} {loc : Loc} {sto : Sto} {K : AV → Sto → Prop} {c : Cx} {α : List Addr} {s : Shared}
theorem fn100 : FnOk 100 k100 (A0 19) := by constructor <;> rfl'
theorem q9h : ∃ np p ap kk kp pos p2, nth (fdB (A0 19)) 0 = .Assign [.Name (S "s") np] (.Call (.Attribute (.Name (S "match") p) (S "group") ap) [.Constant (.int 0) kk kp] [] pos) p2 ∧ mOk (.Name (S "match") p) [.Constant (.int 0) kk kp] ap pos = true := ⟨(A6 (sK (nth (fdB (A0 19)) 0)) 1).pos, (A6 (eK (A6 (eK (A6 (sK (nth (fdB (A0 19)) 0)) 0)) 0)) 0).pos, (A6 (eK (A6 (sK (nth (fdB (A0 19)) 0)) 0)) 0).pos, eC (A6 (eK (A6 (sK (nth (fdB (A0 19)) 0)) 0)) 1), (A6 (eK (A6 (sK (nth (fdB (A0 19)) 0)) 0)) 1).pos, (A6 (sK (nth (fdB (A0 19)) 0)) 0).pos, (nth (fdB (A0 19)) 0).pos, by rfl', by rfl'⟩
theorem q2B {M : Model} {A : Around} {E : Value → Shared → Prop} {m : Addr} {pl : Sem Bool} {Q : Value × List Value → Shared → Prop} {o : Obj} (h1 : s.heap.get? m = some o) (h2 : o.cls = .type "re.Match") (h3 : o.dict = none) (h : Q (.builtin "re.Match.group", [.ref m]) s) : wpAny M A (getMethod (.ref m) (S "group") pl) Q E s := by
 have hT : s.TypeIs (.ref m) "re.Match" := ⟨o, h1, h2⟩
 have hd : ∀ a, Value.ref m = .ref a → ∃ o, s.heap.get? a = some o ∧ o.dict = none := fun a e => by cases e; exact ⟨o, h1, h3⟩
 with_reducible exact getMethod_builtin hT q1u n8 q2y hd h
theorem q4N (O : Ok x c) (Sx : Sat x c α loc sto s) {m tup : Addr} {l : List Nat} {b e : Nat} {p ap kp pos : Pos} {kk : Nat} {Q E : Value → Shared → Prop} (hk : lk x.scope.names (S "match") = some .local) (hv : lk loc (S "match") = some (.ext (.ref m))) (H : X7 s.heap m tup l b e) (hz : l.length ≤ sizeLine)
  (hm : mOk (.Name (S "match") p) [.Constant (.int 0) kk kp] ap pos = true) (h : ∀ t' k, Q (.str ⟨(l.toArray.extract b e)⟩ t') { s with toks := k }) : wpAny (model pw x.w) c.A (eval (.Call (.Attribute (.Name (S "match") p) (S "group") ap) [.Constant (.int 0) kk kp] [] pos) c.env) Q E s := by
 simp only [mOk, v0s] at hm
 obtain ⟨⟨⟨h1, h2⟩, h3⟩, h4⟩ := hm
 have hbase : attributeBase (.Name (S "match") p) (S "group") c.env (eval (.Name (S "match") p) c.env) = eval (.Name (S "match") p) c.env := rfl
 rw [arm_eval_Call, hbase]
 obtain ⟨mm, F, L⟩ := Sx.fr
 obtain ⟨u, hu, hr⟩ := L (S "match") _ (by rw [← F7]; exact hv)
 obtain rfl : u = .ref m := hr
 refine v1e (wpAny_Name (v1d O.kind (B8 O hk) F.ns hu ?_) (G3 (by rfl')))
 refine v1e (v1f ?_)
 have hform : methodCallForm ([Expr.Constant (.int 0) kk kp].length + ([] : List Keyword).length) (backTo pos (starEach [.Constant (.int 0) kk kp] c.env)) (backToKw pos (keywordEach [] c.env)) = true := rfl
 have hpos : methodCallPos true (.Name (S "match") p) c.env ap pos = pure pos := by
  unfold methodCallPos
  rw [show (ap.endLine == pos.line) = true from by rw [beq_iff_eq]; exact v0t h2]; rfl
 unfold methodCall
 rw [hform]
 refine v1e (v1g ?_)
 show wpAny _ _ (getMethod (.ref m) (S "group") _) _ E s
 obtain ⟨o, t0, p0, q0, r0, e1, e2, e3, e4⟩ := H.ob
 refine q2B e1 e2 e3 ?_
 refine v1e (v1k hpos ?_)
 refine callWith_of (P := fun h => (KK x.w.params).In h) (by rw [O7 h4]; rfl) (fun h hh => B0 x _ h hh) ?_
 refine evalArgs_plain (Calls.spliced_cons (wpAny_Constant_int (k := kk) (pos := kp) (Calls.spliced_nil ?_)))
 refine ⟨(Sx.toks _).gnd O, ?_⟩
 exact q2A H hz fun t' k => h t' k
theorem fdB19 : fdB (A0 19) = nth (fdB (A0 19)) 0 :: (fdB (A0 19)).drop 1 := by rfl'
theorem unmIn {v : Value} {k : Nat} (KK : KF) : xw (inY x (A0 19)) (A5 (Y5 80 [.str (61 :: hx2 k)] sto (.str [k]) sto D0) XK) 60 ((fdB (A0 19)).drop 1) [(S "match", .ext v), (S "s", .str (61 :: hx2 k))] sto KK =
 ([AV.str (61 :: hx2 k)] = [AV.str (61 :: hx2 k)] ∧ sto = sto ∧ KK (.ret (.str [k])) [(S "match", .ext v), (S "s", .str (61 :: hx2 k))] sto) := by rfl'
theorem cUnm (hd : 2 ≤ x.d) (O : Ok x c) (Sx : Sat x c α loc sto s) {m tup : Addr} {l : List Nat} {b e k : Nat} (H : X7 s.heap m tup l b e) (hm : m ∉ α) (ht : tup ∉ α) (hz : l.length ≤ sizeLine) (hk : k < 256) (he : (l.toArray.extract b e).toList = 61 :: hx2 k) {R : Result → Shared → Prop}
  (P : ∀ s' t, Sat x c α loc sto s' → R (.ok (.ret (.str ⟨[k].toArray⟩ t))) s') : codeAny (model pw x.w) c.A (.call (.ref 100) ⟨[.ref m], []⟩) R s := by
 refine U2 (x' := inY x (A0 19)) (as := [.ext (.ref m)]) (kws := []) (loc₀ := [(S "match", .ext (.ref m))]) (fn100.lk _) (fn100.da _) (fn100.bd _) (fn100.sc _) (fn100.gl _) (fn100.bi _) (fn100.cd _) fn100.ce (fun α vs ks r rk => ?_) (by rfl') (show List.Nodup [S "match"] from by decide +kernel) (by lia) rfl fn100.co fn100.ge fn100.ki O Sx (vs := [.ref m]) ⟨rfl, trivial⟩ (ks := []) trivial fun s₁ _ O₁ S₁ => ?_
 ·obtain ⟨v, rfl, r1⟩ := r.one
  obtain rfl := rk.nil
  exact ⟨[(S "match", v)], fun Se => by rfl', rfl, r1, trivial⟩
 ·have H₁ : X7 s₁.heap m tup l b e := by
   obtain ⟨mm, F, _⟩ := S₁.fr
   obtain ⟨⟨o, t0, p, q, r, h1, h2, h3, h4⟩, ⟨o', n, h5, h6⟩⟩ := H
   obtain ⟨_, sl, d⟩ := F.keep m o (hideAll_get _ h1 hm)
   obtain ⟨_, sl', d'⟩ := F.keep tup o' (hideAll_get _ h5 ht)
   exact ⟨⟨_, t0, p, q, r, d, h2, h3, h4⟩, ⟨_, n, d', h6⟩⟩
  obtain ⟨np, p, ap, kk, kp, pos, p2, q, hmk⟩ := q9h
  rw [fdB19, q]
  refine v1m (wpAny_Assign_Name (q4N O₁ S₁ (by rfl') (by rfl') H₁ hz hmk fun t' j => ?_) rfl)
  have e1 : (⟨l.toArray.extract b e⟩ : PySem.Str) = ⟨(61 :: hx2 k).toArray⟩ := by rw [← he, Array.toArray_toList]
  rw [e1]
  refine M7 (x := inY x (A0 19)) (v := .str (61 :: hx2 k)) (K := fun l s => l = [(S "match", .ext (.ref m)), (S "s", .str (61 :: hx2 k))] ∧ s = sto) ?_ _ α _ _ _ _ O₁ (S₁.toks j) ⟨t', rfl⟩ fun l' s2 t2 h2 S2 => ?_
  ·have e : ∀ KK : Loc → Sto → Prop, stW (inY x (A0 19)) (S "s") (.str (61 :: hx2 k)) [(S "match", .ext (.ref m))] sto KK = KK [(S "match", .ext (.ref m)), (S "s", .str (61 :: hx2 k))] sto := fun KK => by rfl'
   rw [e]; exact ⟨rfl, rfl⟩
  obtain ⟨rfl, rfl⟩ := h2
  refine A1 (K := BodyK s2.length fun v s => v = .str [k] ∧ s = s2) (B2 (P3 (fun loc K h => (cUnq (x := inY x (A0 19)) (by show 1 ≤ x.d - 1; lia) hk h).call) (fn80.keep _) (A9 _)) (D4 _)) 60 _ _ _ (by rw [unmIn]; exact ⟨rfl, rfl, BodyK.ret ⟨rfl, rfl⟩⟩) _ α _ _ _ O₁ S2 fun f l3 s3 α3 t3 fl hf g3 S3 r3 => ?_
  refine Sx.bodyEnd (fun v sto' α' s' val hv g S' r => ?_) hf g3 S3 r3
  obtain ⟨rfl, rfl⟩ := hv
  obtain ⟨t, rfl⟩ := r
  obtain ⟨β, rfl⟩ := g
  have hβ : β = [] := by
   have a := S'.hs.len; have b := Sx.hs.len
   rw [v0G] at a
   exact v0Y (by lia)
  subst hβ
  rw [v0H] at S'
  exact P s' t S'
end
noncomputable def sgl (c : Nat) : Bool := Nat.beq c 32 || q0f c
noncomputable def U8 (c : Nat) : List Nat := match sgl c with
 | true => [c]
 | false => 61 :: hx2 c
noncomputable def U9 (c : Nat) : Nat := match c == 95 with
 | true => 32
 | false => c
theorem q7o : ((List.range 256).all fun c => lEq ((U6 c).map U9) (U8 c)) = true := by rfl'
theorem q9i {c : Nat} (h : c < 256) : (enc (c : Int)).map U9 = U8 c := (n7 h).symm ▸ q0R (v0w.mp q7o c (v0Q.mpr h))
theorem q7p : ((List.range 256).all fun c => !(sgl c) || !(c == 61)) = true := by rfl'
theorem q9j {c : Nat} (h : c < 256) (hs : sgl c = true) : c ≠ 61 := by
 have := v0w.mp q7p c (v0Q.mpr h)
 rw [hs] at this
 intro q; subst q; cases this
noncomputable def hexs : List Nat → Bool
 | [a, b] => (W3 a && Nat.blt a 256) && (W3 b && Nat.blt b 256)
 | _ => false
theorem q9k : ((List.range 256).all fun c => hexs (hx2 c)) = true := by rfl'
theorem hx_of {c : Nat} (h : c < 256) : ∃ a b, hx2 c = [a, b] ∧ W3 a = true ∧ W3 b = true ∧ a < 256 ∧ b < 256 := by
 have q := v0w.mp q9k c (v0Q.mpr h)
 unfold hexs at q
 split at q
 ·rename_i a b e
  simp only [v0s] at q
  obtain ⟨⟨h1, h2⟩, h3, h4⟩ := q
  exact ⟨a, b, e, h1, h3, by simpa [Nat.blt_eq] using h2, by simpa [Nat.blt_eq] using h4⟩
 ·cases q
noncomputable def tOf (l : List Nat) : List Nat := (l.map U8).flatten
theorem d8 (a b : List Nat) : tOf (a ++ b) = tOf a ++ tOf b := by simp [tOf]
theorem q1X {l : List Nat} (h : ∀ c ∈ l, sgl c = true) : tOf l = l := by
 induction l with
 | nil => rfl
 | cons c l ih =>
  show U8 c ++ tOf l = _
  rw [ih fun d hd => h d (v0y _ hd)]
  unfold U8
  rw [h c v0x]; rfl
theorem x8 : ∀ (l : List Nat), ∃ a r, l = a ++ r ∧ (∀ c ∈ a, sgl c = true) ∧ (r = [] ∨ ∃ h r', r = h :: r' ∧ sgl h = false)
 | [] => ⟨[], [], rfl, fun _ h => (by cases h), .inl rfl⟩
 | c :: l => by
  cases hs : sgl c with
  | false => exact ⟨[], c :: l, rfl, fun _ h => (by cases h), .inr ⟨c, l, rfl, hs⟩⟩
  | true =>
   obtain ⟨a, r, rfl, h1, h2⟩ := x8 l
   exact ⟨c :: a, r, rfl, fun d hd => by rcases v0F.mp hd with rfl | hd; exact hs; exact h1 d hd, h2⟩
theorem Y7 {a b : List Nat} {i : Nat} : (a ++ b).toArray.getD (a.length + i) 0 = b.toArray.getD i 0 := by
 rw [v0Z, v0Z, v1a, v1a, v0d (by lia), Nat.add_sub_cancel_left]
theorem q9l {a r : List Nat} {h : Nat} (hh : h < 256) (hs : sgl h = false) : Hit (a ++ tOf (h :: r)).toArray (a ++ tOf (h :: r)).length a.length := by
 obtain ⟨u, v, e, k1, k2, l1, l2⟩ := hx_of hh
 have et : tOf (h :: r) = 61 :: u :: v :: tOf r := by
  show U8 h ++ tOf r = _
  unfold U8
  rw [hs, e]; rfl
 rw [et]
 have g0 := Y7 (a := a) (b := 61 :: u :: v :: tOf r) (i := 0)
 have g1 := Y7 (a := a) (b := 61 :: u :: v :: tOf r) (i := 1)
 have g2 := Y7 (a := a) (b := 61 :: u :: v :: tOf r) (i := 2)
 rw [Nat.add_zero] at g0
 refine ⟨g0.trans rfl, by simp, ?_, ?_, ?_, ?_⟩
 ·rw [g1]; exact l1
 ·rw [g2]; exact l2
 ·rw [g1]; exact k1
 ·rw [g2]; exact k2
noncomputable def R8 (l : List Nat) (tk : Tok) : Builtin.Re.ReTarget := { pattern := .ref 49, string := .str ⟨l.toArray⟩ tk, code := code1, text := l.toArray, kind := 0, groups := 0, pos := 0, lim := l.toArray.size }
theorem wt_eq (P : Params) (St : Setting) (l : List Nat) (tk : Tok) : peek (KK P) St (Builtin.Re.reWholeTarget (.ref 49) (.str ⟨l.toArray⟩ tk)) = some (R8 l tk) := by rfl'
theorem q5L {text : Array Nat} {p lim : Nat} : Sre.forSearch code1 text 0 p lim false = (if (decide (p > lim) || decide (lim - p < 3)) = true then { stA text lim p true (({} : Sre.Seen).add 14) with lastStart := 0, frames := [], weight := 0, answer := some false } else stA text lim p true (({} : Sre.Seen).add 14)) := by rfl'
section
variable {M : Model} {A : Around} {E : Value → Shared → Prop} {s : Shared}
theorem q4O {l : List Nat} {tk : Tok} {p k : Nat} (hz : l.length ≤ 100000) (hm : ∀ j, p ≤ j → j < p + k → l.toArray.getD j 0 ≠ 61) (H : Hit l.toArray l.length (p + k)) {Q : Option Sre.M → Shared → Prop} (hQ : ∀ f sn, Q (some (W4 l.toArray l.length (p + k) f sn)) s) : wpAny M A (Builtin.Re.reNextFound (R8 l tk) p false) Q E s := by
 show wpAny _ _ (Builtin.Re.reRunToEnd (Sre.forSearch code1 l.toArray 0 p l.toArray.size false)) _ _ _
 rw [v0p, q5L, if_neg (by have := H.rm; simp; lia)]
 obtain ⟨n, f', sn, hn, e⟩ := q2x (text := l.toArray) (lim := l.length) k p true (({} : Sre.Seen).add 14) hm H
 have := H.rm
 refine q0T (n := n) (by lia) (by rw [e]; rfl) ?_
 rw [e]; exact hQ f' sn
theorem q3U {l : List Nat} {tk : Tok} {p : Nat} (hp : p ≤ l.length) (hz : l.length ≤ 100000) (hm : ∀ j, p ≤ j → j < l.length → l.toArray.getD j 0 ≠ 61) {Q : Option Sre.M → Shared → Prop} (hQ : Q none s) : wpAny M A (Builtin.Re.reNextFound (R8 l tk) p false) Q E s := by
 show wpAny _ _ (Builtin.Re.reRunToEnd (Sre.forSearch code1 l.toArray 0 p l.toArray.size false)) _ _ _
 rw [v0p, q5L]
 by_cases hc : (decide (p > l.length) || decide (l.length - p < 3)) = true
 ·rw [if_pos hc]
  exact x0 (n := 1) (by lia) (by rfl') hQ
 ·rw [if_neg hc]
  obtain ⟨n, m, hn, e, hf⟩ := q1t (text := l.toArray) (lim := l.length) (l.length - p) p true (({} : Sre.Seen).add 14) (by lia) hm
  exact x0 (n := n) (by lia) (by rw [e]; exact hf) hQ
end
theorem Y8 : plainId "re.Pattern.sub.loop" = true := by decide +kernel
theorem q2C : entryFor table "re.Pattern.sub.loop" = some Builtin.«re.Pattern.sub.loop» := entryFor_of_fast (by rfl')
noncomputable def t9 (l : List Nat) (tk : Tok) (n p : Nat) (Sa : Addr) : Code := .builtin "re.Pattern.sub.loop" ⟨[.ref 49, .str ⟨l.toArray⟩ tk, .ref 100, rawInt 1, rawInt 0, rawInt n, rawInt p, rawInt p, .bool false, .ref Sa, .bool false], []⟩
section
variable {x : SX} {loc : Loc} {sto : Sto} {K : AV → Sto → Prop} {c : Cx} {α : List Addr} {s : Shared}
theorem j4 {A : Around} {E : Value → Shared → Prop} {i : Nat} {Sa : Addr} {acc : List (List Nat)} {l : List Nat} {t : Tok} {Q : Unit → Shared → Prop} (Sx : Sat x c α loc sto s) (hi : sto[i]? = some (.lsS acc)) (ha : α[i]? = some Sa) (hz : acc.length ≤ 500000)
  (h : ∀ s', Sat x c α loc (sto.set i (.lsS (acc ++ [l]))) s' → s'.toks = s.toks → Q () s') : wpAny (model pw x.w) A (updateSeq Sa (·.push (.str ⟨l.toArray⟩ t))) Q E s := by
 obtain ⟨ob, e2, e3⟩ := Sx.objAt ha hi
 obtain ⟨c1, ⟨c2, c3⟩, vs, m, c4, c5⟩ := e3
 obtain ⟨oc, od, odt, osl⟩ := ob
 dsimp only at c1 c2 c3 c4
 subst c1 c2 c3 c4
 have vl := c5.length
 rw [v0I] at vl
 have vz : vs.size ≤ 500000 := by have q : acc.length = vs.size := vl; lia
 refine v1p e2 rfl ?_ (sz (by lia)) (by show (vs.push _).size ≤ _; rw [Array.size_push]; exact Nat.succ_le_succ (sz (by lia)))
 refine h _ (Sx.upd (i := i) (ao := .lsS (acc ++ [l])) (n := s.toks) ha e2 ⟨rfl, ⟨rfl, rfl⟩, _, _, rfl, ?_⟩ rfl) rfl
 show VRs α ((acc ++ [l]).map AV.str) (vs.push _).toList
 rw [Array.toList_push, v0M]
 exact c5.append ⟨⟨t, rfl⟩, trivial⟩
theorem j5 {M : Model} {A : Around} {E : Value → Shared → Prop} {l : List Nat} {tk : Tok} {b e : Nat} {Q : Value → Shared → Prop} (hz : l.length ≤ 100000) (h : ∀ t k, Q (.str ⟨l.toArray.extract b e⟩ t) { s with toks := k }) : wpAny M A (Builtin.Re.reSlice (R8 l tk).text (R8 l tk).kind b e) Q E s := by
 show wpAny _ _ (mkStr ⟨l.toArray.extract b e⟩) _ _ _
 exact wpAny_mkStr (h _ _) (by show Array.size _ ≤ _; rw [Array.size_extract, v0p]; exact sz (by lia))
theorem q3V {A : Around} {E : Value → Shared → Prop} {l : List Nat} {tk : Tok} {b : Nat} {f : Bool} {sn : Sre.Seen} {Q : Value → Shared → Prop} (Sx : Sat x c α loc sto s)
  (h : ∀ m tup s', Sat x c α loc sto s' → X7 s'.heap m tup l b (b + 3) → m ∉ α → tup ∉ α → Q (.ref m) s') : wpAny (model pw x.w) A (Builtin.Re.reNewMatch (.ref 49) (.str ⟨l.toArray⟩ tk) 0 0 l.toArray.size (W4 l.toArray l.length b f sn)) Q E s := by
 show wpAny _ _ (newTuple [rawInt (b : Int), rawInt ((b + 3 : Nat) : Int)] >>= fun t => newFields "re.Match" [.str ⟨l.toArray⟩ tk, .ref 49, rawInt ((0 : Nat) : Int), rawInt (l.toArray.size : Int), rawInt (-1), t]) _ _ _
 have k1 : ∀ b' o, s.heap.get? b' = some o → (s.heap.push ({ cls := .type "tuple", data := .seq ([rawInt (b : Int), rawInt ((b + 3 : Nat) : Int)] : List Value).toArray } : Obj)).get? b' = some o := fun b o e => q9X _ e
 have S1 := Sx.heapK (n := s.toks) k1
 refine v1e (wpAny_newTuple ?_ (sz (show 2 ≤ 1000000 by decide)))
 have t1 : (s.heap.push ({ cls := .type "tuple", data := .seq ([rawInt (b : Int), rawInt ((b + 3 : Nat) : Int)] : List Value).toArray } : Obj)).get? s.heap.objs.size = some { cls := .type "tuple", data := .seq ([rawInt (b : Int), rawInt ((b + 3 : Nat) : Int)] : List Value).toArray } := v0e _ rfl
 have f1 := Sx.fresh.1
 generalize s.heap.objs.size = tup at *
 generalize hs₁ : ({ s with heap := s.heap.push ({ cls := .type "tuple", data := .seq ([rawInt (b : Int), rawInt ((b + 3 : Nat) : Int)] : List Value).toArray } : Obj) } : Shared) = s₁
 have S1 : Sat x c α loc sto s₁ := by rw [← hs₁]; exact S1
 have t1 : s₁.heap.get? tup = some { cls := .type "tuple", data := .seq ([rawInt (b : Int), rawInt ((b + 3 : Nat) : Int)] : List Value).toArray } := by rw [← hs₁]; exact t1
 unfold newFields
 refine v1i (h _ tup _ (S1.heapK (n := s₁.toks) fun b o e => q9X _ e) ?_ S1.fresh.1 f1) (by show 6 ≤ sizeLine + 2; exact v0S (sz (show 6 ≤ 1000000 by decide)) (Nat.le_add_right _ _))
 exact ⟨⟨_, tk, _, _, _, v0e _ rfl, rfl, rfl, rfl⟩, ⟨_, _, q9X _ t1, rfl⟩⟩
theorem q0V {a m r : List Nat} : (⟨(a ++ m ++ r).toArray.extract a.length (a.length + m.length)⟩ : PySem.Str) = ⟨m.toArray⟩ := by
 congr 1
 apply Array.ext'
 simp
theorem ne61 {pre a : List Nat} (h : ∀ c ∈ a, c ≠ 61) {r : List Nat} : ∀ j, pre.length ≤ j → j < pre.length + a.length → (pre ++ a ++ r).toArray.getD j 0 ≠ 61 := fun j h1 h2 => by
 obtain ⟨k, rfl⟩ := v1b h1
 rw [v0P, Y7, v0Z, v1a, q9V (by lia), q9Z (by lia)]
 exact h _ (List.getElem_mem _)
theorem q7q (hd : 4 ≤ x.d) (O : Ok x c) {l os : List Nat} {tk : Tok} (hl : l = tOf os) (hz : l.length ≤ 100000) (h256 : ∀ c ∈ os, c < 256) {i : Nat} {A : Around} (h1 : A.handled = c.A.handled) (h2 : A.depth = c.A.depth) (h3 : A.frames = c.A.frames) (h4 : A.units ≤ c.A.units + 2) {Sa : Addr} (hi : α[i]? = some Sa) {R : Result → Shared → Prop}
  (hR : ∀ acc' s', acc'.flatten = os → Sat x c α loc (sto.set i (.lsS acc')) s' → wpAny (model pw x.w) A.in1 (do
    let joiner ← Builtin.Re.reSlice (R8 l tk).text (R8 l tk).kind 0 0
    let text ← if ((← seqItems? (.ref Sa)).getD #[]).isEmpty then pure joiner
     else call (.builtin (if (R8 l tk).kind == 0 then "str.join" else "bytes.join")) [joiner, .ref Sa]
    ret text) (fun fin s' => match fin with | .done f => R (.ok f) s' | .again c' => c'.quiet = true ∧ codeAny (model pw x.w) A c' R s') (fun e s' => R (.error e) s') s') : ∀ (k : Nat) (pre r : List Nat) (n : Nat) (acc : List (List Nat)) (s : Shared), r.length < k → os = pre ++ r → acc.flatten = pre → acc.length ≤ 2 * pre.length → Sat x c α loc (sto.set i (.lsS acc)) s → i < sto.length → os.length ≤ 100000 → codeAny (model pw x.w) A (t9 l tk n (tOf pre).length Sa) R s := by
 intro k
 induction k with
 | zero => intro pre r n acc s h; exact absurd h (Nat.not_lt_zero _)
 | succ k ih =>
  intro pre r n acc s hrk hos hacc hal Sx hlt hoz
  obtain ⟨a, r2, rfl, ha, hr2⟩ := x8 r
  have ha61 : ∀ c ∈ a, c ≠ 61 := fun c hc => q9j (h256 c (by rw [hos]; simp [hc])) (ha c hc)
  have el : l = tOf pre ++ a ++ tOf r2 := by rw [hl, hos, d8, d8, q1X ha, v0P]
  have hacz : acc.length ≤ 200000 := by
   have : pre.length ≤ os.length := by rw [hos]; simp
   lia
  refine codeAny_builtin q2C ?_
  show wpAny _ (A.under (.builtin "re.Pattern.sub.loop" _)) _ _ _ _
  rw [Around.under_plainId Y8 _]
  unfold Builtin.«re.Pattern.sub.loop»
  dsimp only
  refine v1e ((Looks.of_peek (Sx.gnd O) (wt_eq _ _ l tk)).here ?_)
  first | refine v1s (decide_eq_false (by decide)) ?_ | rw [if_neg (by decide)]
  dsimp only
  first | (refine v1s (decide_eq_false (by simp)) ?_; rw [Int.toNat_natCast]) | rw [if_neg (by simp), Int.toNat_natCast]
  have slice : ∀ (e : Nat), e = (tOf pre).length + a.length → (⟨l.toArray.extract (tOf pre).length e⟩ : PySem.Str) = ⟨a.toArray⟩ := fun e he => by
   rw [he, el]; exact q0V
  rcases hr2 with rfl | ⟨h, r', rfl, hsg⟩
  ·have el2 : l = tOf pre ++ a := by rw [el]; simp [tOf]
   have ll : l.length = (tOf pre).length + a.length := by rw [el2, v0G]
   refine v1e (q3U (by lia) hz (fun j j1 j2 => ?_) ?_)
   ·rw [el]; exact ne61 ha61 j j1 (by lia)
   ·dsimp only
    have fin : ∀ acc' s', acc'.flatten = os → Sat x c α loc (sto.set i (.lsS acc')) s' → _ := hR
    show wpAny _ _ (if (tOf pre).length < l.toArray.size then _ else _) _ _ _
    by_cases hlt2 : (tOf pre).length < l.toArray.size
    ·first | refine v1r (decide_eq_true hlt2) ?_ | rw [if_pos hlt2]
     refine v1e (j5 hz fun t k => ?_)
     rw [show (R8 l tk).lim = l.toArray.size from rfl, slice l.toArray.size (by rw [v0p]; exact ll)]
     refine v1e (j4 (sto := sto.set i (.lsS acc)) (i := i) (acc := acc) (Sx.toks k) (by rw [v0j hlt]) hi (by lia) fun s' S' _ => ?_)
     rw [List.set_set] at S'
     exact hR _ s' (by rw [List.flatten_append, hacc, hos]; simp) S'
    ·first | refine v1s (decide_eq_false hlt2) ?_ | rw [if_neg hlt2]
     have : a = [] := v0Y (by rw [v0p] at hlt2; lia)
     subst this
     exact hR _ _ (by rw [hacc, hos]; simp) Sx
  ·have hh : h < 256 := h256 h (by rw [hos]; simp)
   have H : Hit l.toArray l.length ((tOf pre).length + a.length) := by
    rw [el, ← v0G]; exact q9l hh hsg
   have eh : U8 h = 61 :: hx2 h := by unfold U8; rw [hsg]
   refine v1e (q4O hz (fun j j1 j2 => ?_) H fun f sn => ?_)
   ·rw [el]; exact ne61 ha61 j j1 j2
   dsimp only
   have tail : ∀ (acc' : List (List Nat)) (s' : Shared), acc'.flatten = pre ++ a → acc'.length ≤ acc.length + 1 → Sat x c α loc (sto.set i (.lsS acc')) s' →
     wpAny (model pw x.w) A.in1 (Builtin.Re.reNewMatch (.ref 49) (.str ⟨l.toArray⟩ tk) 0 0 l.toArray.size (W4 l.toArray l.length ((tOf pre).length + a.length) f sn)) (fun found s₂ => wpAny (model pw x.w) A.in1 (call (.ref 100) [found]) (fun item s₃ => ∃ t, item = .str ⟨[h].toArray⟩ t ∧ wpAny (model pw x.w) A.in1 (updateSeq Sa (·.push item)) (fun _ s₄ => codeAny (model pw x.w) A (t9 l tk (n + 1) (tOf (pre ++ (a ++ [h]))).length Sa) R s₄) (fun e s' => R (.error e) s') s₃) (fun e s' => R (.error e) s') s₂) (fun e s' => R (.error e) s') s' := fun acc' s' e1 e2 S' => by
    refine q3V S' fun m tup s₂ S2 HM hm ht => ?_
    refine v1q ?_
    have O2 : Ok (dn x) (atA c A.in1) := O.at h1 h2 h3 (by show A.units + 1 ≤ c.A.units + 5; lia) (by lia)
    refine cUnm (x := dn x) (c := atA c A.in1) (k := h) (by show 2 ≤ x.d - 1; lia) O2 (S2.at A.in1) HM hm ht (sz (by lia)) hh ?_ fun s₃ t S3 => ?_
    ·have e3 : l = (tOf pre ++ a) ++ (61 :: hx2 h) ++ tOf r' := by
      rw [el]; show _ ++ (U8 h ++ tOf r') = _; rw [eh, v0P (tOf pre ++ a)]
     have l2 : (61 :: hx2 h).length = 3 := rfl
     have := q0V (a := tOf pre ++ a) (m := 61 :: hx2 h) (r := tOf r')
     rw [← e3, v0G, l2] at this
     injection this with this
     rw [this]
    ·refine ⟨t, rfl, j4 (sto := sto.set i (.lsS acc')) (i := i) (acc := acc') S3.off_ (by rw [v0j hlt]) hi (by lia) fun s₄ S4 _ => ?_⟩
     rw [List.set_set] at S4
     refine ih (pre ++ (a ++ [h])) r' (n + 1) (acc' ++ [[h]]) s₄ (by simp at hrk; lia) (by rw [hos]; simp) (by rw [List.flatten_append, e1]; simp) ?_ S4 hlt hoz
     simp; lia
   have lp : (tOf (pre ++ (a ++ [h]))).length = (tOf pre).length + a.length + 3 := by
    rw [d8, d8, q1X ha]
    simp only [v0G]
    show _ + (a.length + (U8 h ++ []).length) = _
    rw [eh]; simp [hx2, fig]; lia
   have hb : ((W4 l.toArray l.length ((tOf pre).length + a.length) f sn).handed == (W4 l.toArray l.length ((tOf pre).length + a.length) f sn).start) = false := by
    show ((tOf pre).length + a.length + 3 == (tOf pre).length + a.length) = false
    simp
   have rest : ∀ (acc' : List (List Nat)) (s' : Shared), acc'.flatten = pre ++ a → acc'.length ≤ acc.length + 1 → Sat x c α loc (sto.set i (.lsS acc')) s' →
     wpAny (model pw x.w) A.in1 (Builtin.Re.reNewMatch (.ref 49) (.str ⟨l.toArray⟩ tk) 0 0 l.toArray.size (W4 l.toArray l.length ((tOf pre).length + a.length) f sn) >>= fun found => holding [found] (call (.ref 100) [found]) >>= fun item => if (item != Value.none) = true then (updateSeq Sa (·.push item) >>= fun _ => again (t9 l tk (n + 1) (tOf (pre ++ (a ++ [h]))).length Sa)) else again (t9 l tk (n + 1) (tOf (pre ++ (a ++ [h]))).length Sa))
      (fun fin s' => match fin with | .done f => R (.ok f) s' | .again c' => c'.quiet = true ∧ codeAny (model pw x.w) A c' R s') (fun e s' => R (.error e) s') s' := fun acc' s' e1 e2 S' => by
    refine v1e (v1j (tail acc' s' e1 e2 S') (fun found s₂ h₂ => ?_) fun _ _ e => e)
    refine v1e (v1g (v1j h₂ (fun item s₃ h₃ => ?_) fun _ _ e => e))
    obtain ⟨t, rfl, h₃⟩ := h₃
    first | refine v1r (decide_eq_true (by rfl)) ?_ | rw [if_pos (by rfl)]
    refine v1e (v1j h₃ (fun _ s₄ h₄ => ?_) fun _ _ e => e)
    exact v1h ⟨plainId_quiet Y8 _, h₄⟩
   rw [lp] at rest
   rw [show (W4 l.toArray l.length ((tOf pre).length + a.length) f sn).start = (tOf pre).length + a.length from rfl, show (W4 l.toArray l.length ((tOf pre).length + a.length) f sn).handed = (tOf pre).length + a.length + 3 from rfl] at hb ⊢
   rw [hb]
   by_cases hlt2 : (tOf pre).length < (tOf pre).length + a.length
   ·first | refine v1r (decide_eq_true hlt2) ?_ | rw [if_pos hlt2]
    refine v1e (j5 hz fun t k => ?_)
    rw [slice _ rfl]
    refine v1e (j4 (sto := sto.set i (.lsS acc)) (i := i) (acc := acc) (Sx.toks k) (by rw [v0j hlt]) hi (by lia) fun s' S' _ => ?_)
    rw [List.set_set] at S'
    first | refine v1s (decide_eq_false (by decide)) ?_ | rw [if_neg (by decide)]
    exact rest (acc ++ [a]) s' (by rw [List.flatten_append, hacc]; simp) (by simp) S'
   ·first | refine v1s (decide_eq_false hlt2) ?_ | rw [if_neg hlt2]
    have : a = [] := v0Y (by lia)
    subst this
    first | refine v1s (decide_eq_false (by decide)) ?_ | rw [if_neg (by decide)]
    exact rest acc _ (by rw [hacc]; simp) (by lia) Sx
end
theorem a9 : ∀ l : List Nat, 95 ∉ l → l.map U9 = l
 | [], _ => rfl
 | k :: r, h => by
  rw [v0K, a9 r fun m => h (v0y _ m)]
  congr 1
  unfold U9
  rw [show (k == 95) = false from by rw [beq_eq_false_iff_ne]; exact fun e => h (e ▸ v0x ..)]
theorem x9 : ∀ parts : List PySem.Str, (∀ p ∈ parts, 95 ∉ p.cps.toList) → (PySem.Str.join ⟨#[95]⟩ parts).cps.toList.map U9 = (PySem.Str.join ⟨#[32]⟩ parts).cps.toList
 | [], _ => rfl
 | [p], h => a9 _ (h p (v0c.mpr rfl))
 | p :: q :: r, h => by
  have ih := x9 (q :: r) fun a ha => h a (v0y _ ha)
  show (p ++ ⟨#[95]⟩ ++ PySem.Str.join ⟨#[95]⟩ (q :: r)).cps.toList.map U9 = (p ++ ⟨#[32]⟩ ++ PySem.Str.join ⟨#[32]⟩ (q :: r)).cps.toList
  simp only [Str.cps_append, Array.toList_append, v0M]
  rw [ih, a9 _ (h p (v0x ..))]
  rfl
theorem q9m (P : Params) (St : Setting) (l : List Nat) (tk : Tok) : ∃ g, peekA (KK P) St (Builtin.«re.Pattern.sub» ⟨[.ref 49, .ref 100, .str ⟨l.toArray⟩ tk], []⟩) = some (({ cls := .type "list", data := .seq #[] } : Obj), g) ∧ ∀ Sa, g Sa = Sem.pure (.again (t9 l tk 0 0 Sa)) := ⟨fun Sa => Sem.pure (.again (t9 l tk 0 0 Sa)), by rfl', fun Sa => rfl⟩
theorem q0W (l : List Nat) : Txt.replace ⟨l.toArray⟩ ⟨#[95]⟩ ⟨#[32]⟩ = ⟨(l.map U9).toArray⟩ := by
 have e : (Txt.replace ⟨l.toArray⟩ ⟨#[95]⟩ ⟨#[32]⟩).cps.toList = l.map U9 := by
  rw [StrLaws.replace_one, ← x9 _ (StrLaws.split_free _ 95), StrLaws.join_split]
 rw [← e]
theorem q1Y {α : List Addr} : ∀ {acc : List (List Nat)} {vs : List Value}, VRs α (acc.map AV.str) vs → ∃ l : List (PySem.Str × Tok), vs = strValues l ∧ l.map (·.1) = acc.map fun x => (⟨x.toArray⟩ : PySem.Str)
 | [], [], _ => ⟨[], rfl, rfl⟩
 | [], _ :: _, h => h.elim
 | _ :: _, [], h => h.elim
 | a :: acc, v :: vs, h => by
  obtain ⟨⟨t, rfl⟩, h2⟩ := h
  obtain ⟨l, rfl, e⟩ := q1Y h2
  exact ⟨(⟨a.toArray⟩, t) :: l, rfl, by rw [v0K, e]; rfl⟩
theorem y0 : ∀ acc : List (List Nat), PySem.Str.join ⟨#[]⟩ (acc.map fun x => (⟨x.toArray⟩ : PySem.Str)) = ⟨acc.flatten.toArray⟩
 | [] => rfl
 | [a] => by simp [PySem.Str.join]
 | a :: b :: r => by
  have ih := y0 (b :: r)
  show (⟨a.toArray⟩ : PySem.Str) ++ ⟨#[]⟩ ++ PySem.Str.join ⟨#[]⟩ ((b :: r).map fun x => (⟨x.toArray⟩ : PySem.Str)) = _
  rw [ih]
  show (⟨a.toArray ++ #[] ++ (b :: r).flatten.toArray⟩ : PySem.Str) = _
  congr 1
  apply Array.ext'
  simp
theorem q0X : ∀ (acc : List (List Nat)) (n : Nat), (acc.map fun x => (⟨x.toArray⟩ : PySem.Str)).foldl (fun a b => a + b.length + (⟨#[]⟩ : PySem.Str).length) n = n + acc.flatten.length
 | [], n => by simp
 | a :: acc, n => by
  rw [v0K, v0B, q0X acc]
  show n + a.toArray.size + 0 + _ = _
  simp [Nat.add_assoc]
theorem q9n {acc : List (List Nat)} (h : acc.flatten.length ≤ 1000000) : JoinOk ⟨#[]⟩ (acc.map fun x => (⟨x.toArray⟩ : PySem.Str)) = true := by
 unfold JoinOk
 rw [List.foldl_toArray, q0X, Nat.zero_add]
 show (!decide (_ > sizeLine)) = true
 rw [decide_eq_false (Nat.not_lt.mpr (sz h))]; rfl
theorem q0Y : Slot "re.Pattern" "sub" "re.Pattern.sub" :=
 .of (owner := "re.Pattern") (n := "sub") (by rw [typeLookup_type, builtinLookup_eq_fast]; rfl') (by decide +kernel) (by decide +kernel) (by decide +kernel)
  (by first | exact .inl (by decide +kernel) | exact .inr (by decide +kernel)) (by rw [isSubtype_type]; rfl')
theorem q3W : PlainAttrs "re.Pattern" :=
 ⟨⟨"object.__getattribute__", by rw [typeLookup_type, builtinLookup_eq_fast]; rfl', by decide +kernel⟩, by rw [typeLookup_type, builtinLookup_eq_fast]; rfl'⟩
theorem q4P : typeOf (.builtin "re.Pattern.sub") = pure (.type "method_descriptor") := by show builtinType _ = _; rw [builtinType_eq_fast]; rfl'
theorem q3X : entryFor table "re.Pattern.sub" = some Builtin.«re.Pattern.sub» := entryFor_of_tree (by rfl')
theorem q4Q (a b c : Value) : argsOk "re.Pattern.sub" ⟨[a, b, c], []⟩ := by unfold argsOk; rfl'
theorem lk49 (P : Params) : (KK P).lookup 49 = some (k49 P) := by rfl'
section
variable {x : SX} {loc : Loc} {sto : Sto} {K : AV → Sto → Prop} {c : Cx} {α : List Addr} {s : Shared}
theorem q9o (O : Ok x c) (Sx : Sat x c α loc sto s) : s.TypeIs (.ref 49) "re.Pattern" := ⟨_, Sx.gnd O _ _ (lk49 _), rfl⟩
theorem q4R (hd : 5 ≤ x.d) (O : Ok x c) (Sx : Sat x c α loc sto s) {os : List Nat} {tk : Tok} {Q E : Value → Shared → Prop} (hn : os ≠ []) (h256 : ∀ c ∈ os, c < 256) (hz : (tOf os).length ≤ 100000) (hoz : os.length ≤ 100000)
  (P : ∀ α' acc s' t, Ex α α' → Sat x c α' loc (sto ++ [.lsS acc]) s' → Q (.str ⟨os.toArray⟩ t) s') : wpAny (model pw x.w) c.A (call (.builtin "re.Pattern.sub") [.ref 49, .ref 100, .str ⟨(tOf os).toArray⟩ tk]) Q E s := by
 refine call_meetsIn (S := fun A R s' => A = c.A ∧ s' = s ∧ ∀ α' acc s' t, Ex α α' → Sat x c α' loc (sto ++ [.lsS acc]) s' → R (.ok (.ret (.str ⟨os.toArray⟩ t))) s') q0Y (q9o O Sx) q3X (q4Q _ _ _) (fun A R s' h => ?_) ⟨rfl, rfl, P⟩
 obtain ⟨rfl, rfl, h⟩ := h
 obtain ⟨g, e1, e2⟩ := q9m x.w.params ⟨pw, x.w.params⟩ (tOf os) tk
 refine U5 (Sx.gnd O) _ g e1 ?_
 rw [e2]
 have S1 := Sx.push (ao := .lsS []) (o := { cls := .type "list", data := .seq #[] }) (n := s'.toks) ⟨rfl, ⟨rfl, rfl⟩, #[], _, rfl, trivial⟩ rfl
 have ln := Sx.hs.len
 have setE : ∀ o, (sto ++ [AO.lsS []]).set sto.length o = sto ++ [o] := fun o => by rw [List.set_append_right _ _ (v0h _), v0q]; rfl
 have hi : (α ++ [s'.heap.objs.size])[sto.length]? = some s'.heap.objs.size := by rw [v0d (by lia), show sto.length - α.length = 0 by lia]; rfl
 refine v1h ⟨plainId_quiet Y8 _, ?_⟩
 refine q7q (x := x) (c := c) (sto := sto ++ [.lsS []]) (α := α ++ [s'.heap.objs.size]) (i := sto.length) (Sa := s'.heap.objs.size) (l := tOf os) (os := os) (tk := tk) (A := c.A) (by lia) O rfl hz h256 rfl rfl rfl (by lia) hi (fun acc' s₂ hf S2 => ?_) (os.length + 1) [] os 0 [] _ (by lia) rfl rfl (by simp) (by rw [setE]; exact S1) (by simp) hoz
 rw [setE] at S2
 refine v1e (j5 hz fun t0 k0 => ?_)
 have e0 : (⟨(tOf os).toArray.extract 0 0⟩ : PySem.Str) = ⟨#[]⟩ := by congr 1; apply Array.ext'; simp
 rw [e0]
 have S3 := S2.toks k0
 obtain ⟨ob, p2, p3⟩ := S3.objAt hi (show _ = some _ from by rw [v0d (v0h _), v0q]; rfl)
 obtain ⟨c1, ⟨c2, c3⟩, vs, m, c4, c5⟩ := p3
 refine v1e (wpAny_seqItems p2 c4 ?_)
 obtain ⟨ll, e3, e4⟩ := q1Y c5
 have hne : acc' ≠ [] := fun q => by rw [q] at hf; exact hn hf.symm
 have hve : vs.isEmpty = false := by
  have q := c5.length
  rw [v0I] at q
  cases acc' with
  | nil => exact absurd rfl hne
  | cons a r =>
   have q' : r.length + 1 = vs.size := q
   rw [Array.isEmpty_eq_false_iff_exists_mem]
   exact ⟨vs[0], by simp⟩
 dsimp only [Option.getD]
 first | refine v1s (decide_eq_false (by rw [hve]; exact v0o)) ?_ | rw [if_neg (by rw [hve]; exact v0o)]
 have hl : ({ s₂ with toks := k0 } : Shared).heap.IsList s'.heap.objs.size (strValues ll).toArray := ⟨ob, p2, c1, m, by rw [c4, ← e3, Array.toArray_toList]⟩
 refine v1e (SC.join (x := ⟨#[]⟩) (t := t0) hl e4 (q9n (by rw [hf]; lia)) fun t' k => ?_)
 have ej : Txt.join ⟨#[]⟩ (acc'.map fun x => (⟨x.toArray⟩ : PySem.Str)) = ⟨os.toArray⟩ := by
  rw [← hf, ← y0 acc']
  exact eq_of_beq (join_plain_closes _ _)
 rw [ej]
 exact v1h (h _ acc' _ t' .push (S3.toks k))
end
noncomputable def midD (a : AV) (sto : Sto) (n : Str) : Option Value := AV.onE none a fun v => onV none v (fun b => sel (Nat.beq b 49) (sel (Fast.sEq n (S "sub")) (some (.builtin "re.Pattern.sub")) none) none) (fun _ => none) fun _ => none
noncomputable def q5M (f : Value) (as : List AV) (kws : List (Str × AV)) (sto : Sto) (K : KA1) : Option Prop := onV none f (fun _ => none) (fun _ => none) fun id => U4 none kws (hd1 as fun a r => AV.onE none a fun v => sel (decide (id = "re.Pattern.sub")) (some (v = .ref 49 ∧ ∃ os, r = [.ext (.ref 100), .str (tOf os)] ∧ os ≠ [] ∧ (∀ c ∈ os, c < 256) ∧ (tOf os).length ≤ 100000 ∧ os.length ≤ 100000 ∧ ∀ acc, K (.str os) (sto ++ [.lsS acc]))) none)
section
variable {x : SX} {loc : Loc} {sto : Sto} {K : AV → Sto → Prop} {c : Cx} {α : List Addr} {s : Shared}
theorem q4S {M : Model} {A : Around} {E : Value → Shared → Prop} {pl : Sem Bool} {Q : Value × List Value → Shared → Prop} {o : Obj} (h1 : s.heap.get? 49 = some o) (h2 : o.cls = .type "re.Pattern") (h3 : o.dict = none) (h : Q (.builtin "re.Pattern.sub", [.ref 49]) s) : wpAny M A (getMethod (.ref 49) (S "sub") pl) Q E s := by
 have hT : s.TypeIs (.ref 49) "re.Pattern" := ⟨o, h1, h2⟩
 have hd : ∀ a, Value.ref 49 = .ref a → ∃ o, s.heap.get? a = some o ∧ o.dict = none := fun a e => by cases e; exact ⟨o, h1, h3⟩
 with_reducible exact getMethod_builtin hT q3W q0Y q4P hd h
theorem q7r {a : AV} {n : Str} {f : Value} (h : midD a sto n = some f) : B7 x f ∧ ∀ c α loc s av pl (Q : Value × List Value → Shared → Prop) E, Ok x c → Sat x c α loc sto s → VR α a av → Q (f, [av]) s → wpAny (model pw x.w) c.A (getMethod av n pl) Q E s := by
 obtain ⟨v, rfl, g1⟩ := AV.jE h
 obtain ⟨b, rfl, g2⟩ := jV g1
 rcases E9 g2 with ⟨q, g3⟩ | g3
 ·rcases E9 g3 with ⟨q2, e⟩ | g4
  ·cases e
   refine ⟨B0 x _, fun c α loc s av pl Q E O Sx r hQ => ?_⟩
   rw [show av = .ref 49 from (show av = .ref b from r).trans (congrArg _ (v0t q)), Fast.sEq_iff.mp q2] at *
   exact q4S (Sx.gnd O _ _ (lk49 _)) rfl rfl hQ
  ·exact noO g4
 ·exact noO g3
theorem q4T (hd : 5 ≤ x.d) {f : Value} {as : List AV} {kws : List (Str × AV)} {P : Prop} (h : q5M f as kws sto K = some P) (hP : P) : B7 x f ∧ CallS x f as kws loc sto K := by
 obtain ⟨id, rfl, g1⟩ := jB h
 obtain ⟨rfl, g2⟩ := jK g1
 obtain ⟨a, r, rfl, g3⟩ := jH g2
 obtain ⟨v, rfl, g4⟩ := AV.jE g3
 rcases G4 g4 with ⟨rfl, g5⟩ | g5
 ·refine ⟨B0 x _, fun c α s vs ks Q E O Sx rv rk Po => ?_⟩
  obtain ⟨rfl, os, rfl, hn, h256, hz, hoz, hK⟩ := C6 g5 hP
  obtain rfl := rk.nil
  obtain ⟨v0, v, w, rfl, r0, r1, ⟨tk, rfl⟩⟩ := VRs.three rv
  obtain rfl : v0 = .ref 49 := r0
  obtain rfl : v = .ref 100 := r1
  exact q4R hd O Sx hn h256 hz hoz fun α' acc s' t g S' => Po _ _ _ _ _ (hK acc) g S' ⟨t, rfl⟩
 ·exact noO g5
noncomputable def XD : XT := { XK with mid := midD, call := q5M }
theorem XD_ok (hd : 5 ≤ x.d) : P1 x XD := { D4 x with mid := fun a sto n f h => q7r h, call := fun f as kws loc sto K P h hP => q4T hd h hP }
theorem fn107 : FnOk 107 k107 (A0 20) := by constructor <;> rfl'
noncomputable def asE (s : Stmt) : Expr := A6 (sK s) 0
theorem q9p : ∃ p ap k1 p1 k2 p2 pos, asE (nth (fdB (A0 20)) 0) = .Call (.Attribute (.Name (S "s") p) (S "replace") ap) [.Constant (.str (S "_")) k1 p1, .Constant (.str (S " ")) k2 p2] [] pos ∧ mOk (.Name (S "s") p) [.Constant (.str (S "_")) k1 p1, .Constant (.str (S " ")) k2 p2] ap pos = true := ⟨(A6 (eK (A6 (eK (asE (nth (fdB (A0 20)) 0))) 0)) 0).pos, (A6 (eK (asE (nth (fdB (A0 20)) 0))) 0).pos, eC (A6 (eK (asE (nth (fdB (A0 20)) 0))) 1), (A6 (eK (asE (nth (fdB (A0 20)) 0))) 1).pos, eC (A6 (eK (asE (nth (fdB (A0 20)) 0))) 2), (A6 (eK (asE (nth (fdB (A0 20)) 0))) 2).pos, (asE (nth (fdB (A0 20)) 0)).pos, by rfl', by rfl'⟩
theorem q9q : ∃ p q, nth (fdB (A0 20)) 0 = .Assign [.Name (S "s") p] (asE (nth (fdB (A0 20)) 0)) q := ⟨(A6 (sK (nth (fdB (A0 20)) 0)) 1).pos, (nth (fdB (A0 20)) 0).pos, by rfl'⟩
theorem q2D (O : Ok x c) (Sx : Sat x c α loc sto s) {y : Str} {l : List Nat} {a b : Str} {p ap p1 p2 pos : Pos} {k1 k2 : Nat} {Q E : Value → Shared → Prop} (hyd : Fast.sEq y "__debug__" = false) (hk : lk x.scope.names y = some .local) (hv : lk loc y = some (.str l))
  (hm : mOk (.Name y p) [.Constant (.str a) k1 p1, .Constant (.str b) k2 p2] ap pos = true) (hpl : H3 (.Name y p) = true)
  (h : ∀ t, wpAny (model pw x.w) c.A (call (.builtin "str.replace") [.str ⟨l.toArray⟩ t, .str a s.toks, .str b (s.toks + 1)]) Q E { s with toks := s.toks + 1 + 1 }) : wpAny (model pw x.w) c.A (eval (.Call (.Attribute (.Name y p) (S "replace") ap) [.Constant (.str a) k1 p1, .Constant (.str b) k2 p2] [] pos) c.env) Q E s := by
 simp only [mOk, v0s] at hm
 obtain ⟨⟨⟨h1, h2⟩, h3⟩, h4⟩ := hm
 have hbase : attributeBase (.Name y p) (S "replace") c.env (eval (.Name y p) c.env) = eval (.Name y p) c.env := rfl
 rw [arm_eval_Call, hbase]
 obtain ⟨mm, F, L⟩ := Sx.fr
 obtain ⟨u, hu, hr⟩ := L y _ (by rw [← F7]; exact hv)
 obtain ⟨t, rfl⟩ := hr
 refine v1e (wpAny_Name (v1d O.kind (B8 O hk) F.ns hu ?_) (G3 hyd))
 refine v1e (v1f ?_)
 have hform : methodCallForm ([Expr.Constant (.str a) k1 p1, .Constant (.str b) k2 p2].length + ([] : List Keyword).length) (backTo pos (starEach [.Constant (.str a) k1 p1, .Constant (.str b) k2 p2] c.env)) (backToKw pos (keywordEach [] c.env)) = true := rfl
 have hpos : methodCallPos true (.Name y p) c.env ap pos = pure pos := by
  unfold methodCallPos
  rw [show (ap.endLine == pos.line) = true from by rw [beq_iff_eq]; exact v0t h2]; rfl
 unfold methodCall
 rw [hform]
 refine v1e (v1g ?_)
 refine PySem.GM.replace ?_
 refine v1e (v1k hpos ?_)
 refine callWith_of (P := fun h => (KK x.w.params).In h) (by rw [O7 h4]; rfl) (fun h hh => B0 x _ h hh) ?_
 refine evalArgs_plain (Calls.spliced_cons (wpAny_Constant_str (k := k1) (pos := p1) (Calls.spliced_cons (wpAny_Constant_str (k := k2) (pos := p2) (Calls.spliced_nil ?_)))))
 refine ⟨(Sx.toks _).gnd O, ?_⟩
 exact h t
theorem fdB20 : fdB (A0 20) = nth (fdB (A0 20)) 0 :: (fdB (A0 20)).drop 1 := by rfl'
theorem decIn {l : List Nat} (KK : KF) : xw (inY x (A0 20)) (A5 D0 XD) 60 ((fdB (A0 20)).drop 1) [(S "s", .str l)] sto KK =
 (Value.ref 49 = .ref 49 ∧ ∃ os, [AV.ext (.ref 100), .str l] = [AV.ext (.ref 100), .str (tOf os)] ∧ os ≠ [] ∧ (∀ c ∈ os, c < 256) ∧ (tOf os).length ≤ 100000 ∧ os.length ≤ 100000 ∧ ∀ acc, KK (.ret (.str os)) [(S "s", .str l)] (sto ++ [.lsS acc])) := by rfl'
theorem cDec (hd : 6 ≤ x.d) {e os : List Nat} (he : e.map U9 = tOf os) (hn : os ≠ []) (h256 : ∀ c ∈ os, c < 256) (hz : (tOf os).length ≤ 100000) (hoz : os.length ≤ 100000) (hsl : C2 sto.length sto) (h : K (.str os) sto) : CodeS x (.ref 107) [.str e] [] loc sto K := by
 intro c α s vs ks R O Sx rv rk P
 obtain ⟨v, rfl, t0, rfl⟩ := rv.one
 obtain rfl := rk.nil
 refine U2 (x' := inY x (A0 20)) (as := [.str e]) (kws := []) (loc₀ := [(S "s", .str e)]) (fn107.lk _) (fn107.da _) (fn107.bd _) (fn107.sc _) (fn107.gl _) (fn107.bi _) (fn107.cd _) fn107.ce (fun α vs ks r rk => ?_) (by rfl') (show List.Nodup [S "s"] from by decide +kernel) (by lia) rfl fn107.co fn107.ge fn107.ki O Sx (vs := [.str ⟨e.toArray⟩ t0]) ⟨⟨t0, rfl⟩, trivial⟩ (ks := []) trivial fun s₁ htk O₁ S₁ => ?_
 ·obtain ⟨v, rfl, r1⟩ := r.one
  obtain rfl := rk.nil
  exact ⟨[(S "s", v)], fun Se => by rfl', rfl, r1, trivial⟩
 ·have htk : 1 ≤ s₁.toks := htk
  obtain ⟨p, p', q⟩ := q9q
  obtain ⟨q1, q2, q3, q4, q5, q6, q7, q8, q9⟩ := q9p
  rw [fdB20, q, q8]
  have le : e.length = (tOf os).length := by rw [← he, v0I]
  refine v1m (wpAny_Assign_Name (q2D (l := e) O₁ S₁ (by rfl') (by rfl') (by rfl') q9 rfl fun t => ?_) rfl)
  have l0 : (⟨e.toArray⟩ : PySem.Str).length = e.length := v0p ..
  have l1 : (S " ").length = 1 := by rfl'
  refine SC.replace (show (s₁.toks : Nat) ≠ 0 from by lia) (show (s₁.toks + 1 : Nat) ≠ 0 from by lia) (show (s₁.toks : Nat) ≠ s₁.toks + 1 from by lia) (by decide +kernel) (by rw [l0, l1]; lia) fun t' j => ?_
  have er : Txt.replace ⟨e.toArray⟩ (S "_") (S " ") = ⟨(tOf os).toArray⟩ := by rw [← he]; exact q0W e
  rw [er]
  refine M7 (x := inY x (A0 20)) (v := .str (tOf os)) (K := fun l s => l = [(S "s", .str (tOf os))] ∧ s = sto) ?_ _ α _ _ _ _ O₁ (S₁.toks j) ⟨t', rfl⟩ fun l' s2 t2 h2 S2 => ?_
  ·have e : ∀ KK : Loc → Sto → Prop, stW (inY x (A0 20)) (S "s") (.str (tOf os)) [(S "s", .str e)] sto KK = KK [(S "s", .str (tOf os))] sto := fun KK => by rfl'
   rw [e]; exact ⟨rfl, rfl⟩
  obtain ⟨rfl, rfl⟩ := h2
  refine A1 (K := BodyK s2.length K) (B2 (A9 _) (XD_ok (x := inY x (A0 20)) (by show 5 ≤ x.d - 1; lia))) 60 _ _ _ (by rw [decIn]; exact ⟨rfl, os, rfl, hn, h256, hz, hoz, fun acc => .inl ⟨s2, [.lsS acc], rfl, rfl, trivial, hsl, h⟩⟩) _ α _ _ _ O₁ S2 fun f l3 s3 α3 t3 fl hf g3 S3 r3 => ?_
  exact Sx.bodyEnd P hf g3 S3 r3
end
noncomputable def q0g : Array Nat := #[14, 17, 4, 1, 1, 21, 9, 0, 604043296, 1, 0, 0, 0, 0, 0, 8, 4, 0, 13, 14, 21, 9, 0, 604043296, 1, 0, 0, 0, 0, 0, 8, 4, 0, 1]
theorem srch (r : List Nat) : (match (Sre.M.runFor 4 (Sre.forSearch q0g (61 :: 63 :: r).toArray 0 0 (61 :: 63 :: r).toArray.size false)).outcome with
 | some o => (match o with
  | .matched => true
  | _ => false)
 | none => false) = true := by rfl'
theorem q9r (r : List Nat) : (Sre.M.runFor 4 (Sre.forSearch q0g (61 :: 63 :: r).toArray 0 0 (61 :: 63 :: r).toArray.size false)).outcome = some .matched := by
 have := srch r
 split at this
 ·rename_i o h
  split at this
  ·exact h
  ·cases this
 ·cases this
theorem q7s (P : Params) (St : Setting) (l : List Nat) (t : Tok) : peek (KK P) St (callAny (.ref 815) ⟨[.str ⟨l.toArray⟩ t], []⟩) = some (.again (.builtin "re.Pattern.search" ⟨[.ref 112, .str ⟨l.toArray⟩ t], []⟩)) := by rfl'
noncomputable def tgt2 (l : List Nat) (t : Tok) : Builtin.Re.ReTarget := { pattern := .ref 112, string := .str ⟨l.toArray⟩ t, code := q0g, text := l.toArray, kind := 0, groups := 0, pos := 0, lim := min 9223372036854775807 l.toArray.size }
theorem rt_eq (P : Params) (St : Setting) (l : List Nat) (t : Tok) : peek (KK P) St (Builtin.Re.reTarget "re.Pattern.search" "search" ⟨[.ref 112, .str ⟨l.toArray⟩ t], []⟩) = some (tgt2 l t) := by rfl'
theorem q7t (P : Params) (St : Setting) : peek (KK P) St (keeperOf (.ref 815)) = some .machine := by rfl'
theorem b0 : plainId "re.Pattern.search" = true := by decide +kernel
theorem q0Z : entryFor table "re.Pattern.search" = some Builtin.«re.Pattern.search» := entryFor_of_tree (by rfl')
section
variable {x : SX} {loc : Loc} {sto : Sto} {K : AV → Sto → Prop} {c : Cx} {α : List Addr} {s : Shared}
theorem q3Y {A : Around} {E : Value → Shared → Prop} {p q : Value} {lim : Nat} {m : Sre.M} {Q : Value → Shared → Prop} (Sx : Sat x c α loc sto s) (h : ∀ b s', Sat x c α loc sto s' → Q (.ref b) s') : wpAny (model pw x.w) A (Builtin.Re.reNewMatch p q 0 0 lim m) Q E s := by
 show wpAny _ _ (newTuple [rawInt (m.start : Int), rawInt (m.handed : Int)] >>= fun t => newFields "re.Match" [q, p, rawInt ((0 : Nat) : Int), rawInt (lim : Int), rawInt m.lastindex, t]) _ _ _
 refine v1e (wpAny_newTuple ?_ (sz (show 2 ≤ 1000000 by decide)))
 have S1 := Sx.heapK (n := s.toks) (h' := s.heap.push ({ cls := .type "tuple", data := .seq ([rawInt (m.start : Int), rawInt (m.handed : Int)] : List Value).toArray } : Obj)) fun b o e => q9X _ e
 unfold newFields
 exact v1i (h _ _ (S1.heapK fun b o e => q9X _ e)) (by show 6 ≤ sizeLine + 2; exact v0S (sz (show 6 ≤ 1000000 by decide)) (Nat.le_add_right _ _))
theorem q3Z (O : Ok x c) (Sx : Sat x c α loc sto s) {r : List Nat} {t : Tok} {Q E : Value → Shared → Prop} (hz : r.length ≤ 100000) (P : ∀ b s', Sat x c α loc sto s' → Q (.ref b) s') : wpAny (model pw x.w) c.A (call (.ref 815) [.str ⟨(61 :: 63 :: r).toArray⟩ t]) Q E s := by
 refine v1q (codeAny_of_tree ?_)
 show wpAny _ _ (callAny (.ref 815) ⟨[.str ⟨(61 :: 63 :: r).toArray⟩ t], []⟩) _ _ _
 refine (Looks.of_peek (Sx.gnd O) (q7s _ _ _ _)).here ?_
 refine ⟨plainId_quiet b0 _, codeAny_builtin q0Z ?_⟩
 show wpAny _ (c.A.under (.builtin "re.Pattern.search" _)) _ _ _ _
 rw [Around.under_plainId b0 _]
 show wpAny _ _ (Builtin.Re.reTarget "re.Pattern.search" "search" ⟨[.ref 112, .str ⟨(61 :: 63 :: r).toArray⟩ t], []⟩ >>= fun t => Builtin.Re.reAnswer t (Sre.forSearch t.code t.text t.groups t.pos t.lim false)) _ _ _
 refine v1e ((Looks.of_peek (Sx.gnd O) (rt_eq _ _ _ _)).here ?_)
 have el : min 9223372036854775807 (61 :: 63 :: r).toArray.size = (61 :: 63 :: r).toArray.size := Nat.min_eq_right (by simp; lia)
 unfold Builtin.Re.reAnswer
 show wpAny _ _ (Builtin.Re.reRunToEnd (Sre.forSearch q0g (61 :: 63 :: r).toArray 0 0 (min 9223372036854775807 (61 :: 63 :: r).toArray.size) false) >>= _) _ _ _
 rw [el]
 refine v1e (q0T (n := 4) (by lia) (q9r r) ?_)
 refine v1e (q3Y Sx fun b s' S' => ?_)
 exact v1h (P b s' S')
theorem q9s {l : List Nat} (h : 39 ∉ l) : (Builtin.Str.occurrences ⟨l.toArray⟩ ⟨#[39]⟩ 0 (⟨l.toArray⟩ : PySem.Str).length ((⟨l.toArray⟩ : PySem.Str).length + 1)).isEmpty = true := by
 cases ho : Builtin.Str.occurrences ⟨l.toArray⟩ ⟨#[39]⟩ 0 (⟨l.toArray⟩ : PySem.Str).length ((⟨l.toArray⟩ : PySem.Str).length + 1) with
 | nil => rfl
 | cons i r =>
  exfalso
  obtain ⟨f, hc⟩ := StrLaws.occ_chain ⟨l.toArray⟩ ⟨#[39]⟩ ((⟨l.toArray⟩ : PySem.Str).length + 1)
  rw [ho] at hc
  have hm := (StrLaws.subAt_one ⟨l.toArray⟩ 39 i).mp hc.2.1
  exact h (v0i hm)
theorem z0 {A : Around} {E : Value → Shared → Prop} {l z : List Nat} {t u v : Tok} {Q : Value → Shared → Prop} (h : 39 ∉ l) (hQ : Q (.str ⟨l.toArray⟩ t) s) : wpAny (model pw x.w) A (call (.builtin "str.replace") [.str ⟨l.toArray⟩ t, .str ⟨#[39]⟩ u, .str ⟨z.toArray⟩ v]) Q E s := by
 have e := q9s h
 refine call_gives PySem.F.slot_str_replace (typeIs_str _ _ _) PySem.F.entry_str_replace (PySem.F.args_str_replace_3 _ _ _) (gives_str_replace ⟨l.toArray⟩ ⟨#[39]⟩ ⟨z.toArray⟩ t u v fun q => ?_) ?_
 ·rw [e] at q; cases q
 ·rw [e]; exact hQ
noncomputable def cmpQ (op : CmpOp) (a b : AV) (sto : Sto) (K : KA1) : Option Prop := match op with
 | .Is => AV.casesOn a none (fun _ => none) (fun _ => none) (fun _ => none) (fun _ => none) (fun _ => isNo b (some (K (.bool false) sto))) fun v => onV none v (fun _ => isNo b (some (K (.bool false) sto))) (fun _ => none) fun _ => none
 | _ => cmpX op a b sto K
theorem q7u {o : CmpOp} {a b : AV} {P : Prop} (h : cmpQ o a b sto K = some P) (hP : P) : OpS x (op2 (compareOp o)) [a, b] loc sto K := by
 have go : ∀ (v : Value) (c : Cx) (s : Shared) (m : Addr) (Q E : Value → Shared → Prop), Q (.bool false) s → wpAny (model pw x.w) c.A (compareOp .Is (.ref m) .none) Q E s := fun v c s m Q E hQ => by
  show wpAny _ _ (isSame (.ref m) .none >>= fun r => pure (Value.bool r)) _ _ _
  exact v1e (v1h (v1h hQ))
 cases o with
 | Is =>
  refine AV.pickO (show AV.casesOn (motive := fun _ => Option Prop) a _ _ _ _ _ _ _ = _ from h) (fun _ => noO) B4 B4 B4 B4 (fun i e g => ?_) (fun v e g => ?_) <;> clear h <;> subst e
  ·obtain ⟨rfl, g⟩ := jN g
   intro c α s vs Q E O Sx r Po
   obtain ⟨v, w, rfl, ⟨m, _, rfl⟩, r2⟩ := r.two
   obtain rfl := r2
   exact go .none c s _ Q E (Po _ _ _ _ _ (C6 g hP) .refl Sx rfl)
  ·obtain ⟨m, rfl, g1⟩ := jV g
   obtain ⟨rfl, g⟩ := jN g1
   intro c α s vs Q E O Sx r Po
   obtain ⟨v, w, rfl, r1, r2⟩ := r.two
   obtain rfl := r1
   obtain rfl := r2
   exact go .none c s _ Q E (Po _ _ _ _ _ (C6 g hP) .refl Sx rfl)
 | _ => exact q1Q h hP
noncomputable def midQ (a : AV) (sto : Sto) (n : Str) : Option Value := a.onS none fun _ => sel (Fast.sEq n (S "replace")) (some (.builtin "str.replace")) none
theorem q7v {a : AV} {n : Str} {f : Value} (h : midQ a sto n = some f) : B7 x f ∧ ∀ c α loc s av pl (Q : Value × List Value → Shared → Prop) E, Ok x c → Sat x c α loc sto s → VR α a av → Q (f, [av]) s → wpAny (model pw x.w) c.A (getMethod av n pl) Q E s := by
 obtain ⟨l, rfl, g⟩ := AV.jS h
 rcases E9 g with ⟨q, e⟩ | g
 ·cases e
  refine ⟨B0 x _, fun c α loc s av pl Q E O Sx r hQ => ?_⟩
  obtain ⟨t, rfl⟩ := r
  rw [Fast.sEq_iff.mp q]
  exact PySem.GM.replace hQ
 ·exact noO g
noncomputable def q5N (f : Value) (as : List AV) (kws : List (Str × AV)) (sto : Sto) (K : KA1) : Option Prop := U4 none kws (onV none f (fun b => sel (Nat.beq b 815) (some (∃ r, as = [.str (61 :: 63 :: r)] ∧ r.length ≤ 100000 ∧ ∀ m, K (.ext (.ref m)) sto)) none) (fun _ => none) fun id => sel (decide (id = "str.replace")) (some (∃ l z, as = [.str l, .str [39], .str z] ∧ 39 ∉ l ∧ K (.str l) sto)) none)
theorem q4U {f : Value} {as : List AV} {kws : List (Str × AV)} {P : Prop} (h : q5N f as kws sto K = some P) (hP : P) : B7 x f ∧ CallS x f as kws loc sto K := by
 obtain ⟨rfl, g1⟩ := jK h
 refine M8 g1 noO (fun b e g => ?_) B4 (fun id e g => ?_) <;> clear g1 h <;> subst e
 ·rcases E9 g with ⟨q, g⟩ | g
  ·obtain ⟨r, rfl, hz, hK⟩ := C6 g hP
   rw [v0t q]
   refine ⟨fun h X => ⟨.machine, .inr (.inl rfl), Looks.of_peek X (q7t _ _)⟩, fun c α s vs ks Q E O Sx rv rk Po => ?_⟩
   obtain rfl := rk.nil
   obtain ⟨v, rfl, t, rfl⟩ := rv.one
   exact q3Z O Sx hz fun b s' S' => Po _ _ _ _ _ (hK b) .refl S' rfl
  ·exact noO g
 ·rcases G4 g with ⟨rfl, g⟩ | g
  ·obtain ⟨l, z, rfl, hl, hK⟩ := C6 g hP
   refine ⟨B0 x _, fun c α s vs ks Q E O Sx rv rk Po => ?_⟩
   obtain rfl := rk.nil
   obtain ⟨v0, v, w, rfl, ⟨t0, rfl⟩, ⟨t1, rfl⟩, ⟨t2, rfl⟩⟩ := VRs.three rv
   exact z0 hl (Po _ _ _ _ _ hK .refl Sx ⟨t0, rfl⟩)
  ·exact noO g
noncomputable def XQ : XT := { XK with cmp := cmpQ, mid := midQ, call := q5N }
theorem XQ_ok (x : SX) : P1 x XQ := { D4 x with cmp := fun o a b loc sto K P h hP => q7u h hP, mid := fun a sto n f h => q7v h, call := fun f as kws loc sto K P h hP => q4U h hP }
theorem fn822 : FnOk 822 q0q (A0 45) := by constructor <;> rfl'
theorem quoIn {l : List Nat} (KK : KF) : xw (inY x (A0 45)) (A5 D0 XQ) 60 (fdB (A0 45)) [(S "s", .str l)] sto KK =
 (l.length ≤ sizeLine ∧ cnd (!(!(l.length == 0))) (KK (.ret (.str [39, 39])) [(S "s", .str l)] sto)
  (∃ r, [AV.str l] = [.str (61 :: 63 :: r)] ∧ r.length ≤ 100000 ∧ ∀ m : Addr, ∃ l' z', [AV.str l, .str [39], .str (S "'\"'\"'").cps.toList] = [.str l', .str [39], .str z'] ∧ 39 ∉ l' ∧ [39].length + l'.length ≤ sizeLine ∧ ([39] ++ l').length + [39].length ≤ sizeLine ∧ KK (.ret (.str (([39] ++ l') ++ [39]))) [(S "s", .str l)] sto)) := by rfl'
noncomputable def quo (l : List Nat) : List Nat := [39] ++ l ++ [39]
end
theorem q9t {w : World} {A : Around} {base : Heap} {s : Shared} {r : List Nat} {t : Tok} {E : Value → Shared → Prop} (hh : A.handled = none) (hdep : A.depth + 3 < recursionLimit) (hun : A.units + 220 < cLine) (hb : base.StaysIn s.heap) (hK : (KK w.params).In base) (hT : ∃ mg mb, TopX mg mb base)
  (hz : r.length ≤ 100000) (hq : 39 ∉ r) : wpAny (model pw w) A (call (.ref 822) [.str ⟨(61 :: 63 :: r).toArray⟩ t]) (fun y s' => (∃ t', y = .str ⟨(quo (61 :: 63 :: r)).toArray⟩ t') ∧ Keeps s s') E s := by
 obtain ⟨mg, mb, Tp⟩ := hT
 have Tp' := Tp.keeps hb
 have X : (KK w.params).In s.heap := hK.keeps hb
 let x : SX := { w := w, fr := false, d := 3, scope := fdS (A0 45), cm := [] }
 have hs := fn822.sc w.params
 refine v1q (codeAny_call_def (fd := C9 (q0q w.params)) (body := fdB (A0 45)) (binds := [(S "s", .str ⟨(61 :: 63 :: r).toArray⟩ t)]) (by lia) (X _ _ (fn822.lk _)) (fn822.da _) Tp'.nolimit (codeRec_of X (fn822.cd _)) (fn822.bd _) (kp_binds X fun Se => by rfl') (by rw [hs]; exact fn822.ce) (fun y hy => ?_) (fun h₁ hns hk₁ => ?_) (by rw [hs]; exact fn822.co) (by rw [hs]; exact fn822.ge) (by rw [hs]; exact fn822.ki))
 ·cases v0c.mp hy
  rw [hs]
  rfl'
 ·let env := callEnv (C9 (q0q w.params)) s.heap.objs.size 822
  let c : Cx := { A := A.deeper env, base := base, fs := [], h₀ := s.heap, outer := [], env := env, os := s.os, gd := (s.gens, s.drawn) }
  have O : Ok (inY x (A0 45)) c := by
   refine ⟨(fun q => nomatch q), hb, (fun b h => nomatch h), (fun b h => nomatch h), hK, ⟨mg, mb, Tp⟩, hh, ?_, ?_, ?_, hs, fn822.gl w.params, fn822.bi w.params⟩
   ·show A.depth + 1 + 2 < _; lia
   ·show A.units + 3 + 5 * 2 + 200 < _; lia
   ·show (C9 (q0q w.params)).scope.kind = _; rw [hs]; exact fn822.ki
  have none_ : s.heap.get? s.heap.objs.size = none := v0g (v0h _)
  have S1 : Sat (inY x (A0 45)) c [] [(S "s", .str (61 :: 63 :: r))] [] { s with heap := h₁, toks := s.toks + 1 } := by
   refine ⟨⟨_, ⟨hns, .of fun b o e => hk₁ b o e, none_⟩, fun y v e => ?_⟩, ⟨rfl, List.nodup_nil, (fun i o e => by cases e)⟩, (fun a ha => by cases ha), rfl, ⟨rfl, rfl⟩, (fun y i e => by cases e)⟩
   rw [v0n] at e
   split at e
   ·rename_i q
    cases e
    rw [beq_iff_eq.mp q]
    exact ⟨_, rfl, ⟨t, rfl⟩⟩
   ·cases e
  refine A1 (K := BodyK 0 fun v s' => v = .str (quo (61 :: 63 :: r)) ∧ s' = []) (B2 (A9 _) (XQ_ok (inY x (A0 45)))) 60 _ _ _ (by
   rw [quoIn]
   exact ⟨sz (by simp; lia), cnd_iff.mpr ⟨fun q => (by simp at q), fun _ => ⟨r, rfl, hz, fun m => ⟨_, _, rfl, (by simp [hq]), sz (by simp; lia), sz (by simp; lia), BodyK.ret ⟨rfl, rfl⟩⟩⟩⟩⟩) c [] _ _ _ O S1 fun f l2 s2 α2 t2 fl hf g2 S2 r2 => ?_
  obtain ⟨mm, F, _⟩ := S2.fr
  have kp : ∀ b o, s.heap.get? b = some o → t2.heap.get? b = some o := fun b o e => (F.keep b o e).1 (fun h => nomatch h)
  have K2 : Keeps s t2 := by
   refine ⟨t2.heap, t2.toks, ?_, kp⟩
   obtain ⟨th, tg, td, tk, to⟩ := t2
   have g := S2.gens
   have e1 : tg = s.gens := g.1
   have e2 : td = s.drawn := g.2
   have e3 : to = s.os := S2.os
   subst e1 e2 e3
   rfl
  cases f with
  | ret v =>
   obtain ⟨u, rfl, hu⟩ := r2
   have fin : ∀ v', v' = v → v' = .str (quo (61 :: 63 :: r)) → (∃ t', u = .str ⟨(quo (61 :: 63 :: r)).toArray⟩ t') := fun v' e1 e2 => by
    subst e1 e2; exact hu
   rcases hf with ⟨s₁, junk, rfl, _, _, _, hv, _⟩ | ⟨s₁, rest, j, o, rfl, _, rfl, _, _, _, _, hv, _⟩ | ⟨hv, _⟩
   ·exact ⟨fin _ rfl hv, K2⟩
   ·cases hv
   ·exact ⟨fin _ rfl hv, K2⟩
  | next =>
   exfalso
   rcases hf with ⟨s₁, junk, rfl, _, _, _, hv, _⟩ | ⟨s₁, rest, j, o, rfl, _, hj, _⟩ | ⟨hv, _⟩
   ·cases hv
   ·cases hj
   ·cases hv
  | brk => exact hf.elim
  | cont => exact hf.elim
def Qc (e : Expr) : Prop := ∃ p1 p2 p3, e = .Call (.Name (S "quote") p1) [.Name (S "arg") p2] [] p3
theorem eltQ {w : World} {A : Around} {base : Heap} {s : Shared} {r : List Nat} {t : Tok} {E : Value → Shared → Prop} {cenv : Env} {m : Str → Option Value} {e : Expr} (he : Qc e) (hh : A.handled = none) (hdep : A.depth + 3 < recursionLimit) (hun : A.units + 220 < cLine) (hb : base.StaysIn s.heap) (hK : (KK w.params).In base) (hT : ∃ mg mb, TopX mg mb base)
  (hz : r.length ≤ 100000) (hq : 39 ∉ r) (hkd : cenv.scope.kind = .function) (h1 : cenv.kindOf (S "quote") = some .globalImplicit) (h2 : cenv.kindOf (S "arg") = some .local) (hg : cenv.globals = mainGlobals)
  (hn : s.heap.Ns cenv.locals m) (hm : m (S "arg") = some (.str ⟨(61 :: 63 :: r).toArray⟩ t)) : wpAny (model pw w) A (eval e cenv) (fun y s' => (∃ t', y = .str ⟨(quo (61 :: 63 :: r)).toArray⟩ t') ∧ Keeps s s') E s := by
 obtain ⟨p1, p2, p3, rfl⟩ := he
 have hT' := hT
 obtain ⟨mg, mb, Tp⟩ := hT
 have Tp' := Tp.keeps hb
 have X : (KK w.params).In s.heap := hK.keeps hb
 have eg : nsIn (KK w.params) mainGlobals (S "quote") = some (some (.ref 822)) := by rfl'
 refine wpAny_Call_Name_kw (Name_function_global hkd h1 (loadGlobal_global (by rw [hg]; exact Tp'.g) (mg_of X Tp'.g eg) ?_) (G3 (by rfl')))
 refine callWith_of (P := fun h => (KK w.params).In h) rfl (fun h hh => keeps_K (K := KK w.params) (by rfl') h hh) ?_
 refine evalArgs_plain (Calls.spliced_cons (wpAny_Name (pos := p2) (v1d hkd h2 hn hm (Calls.spliced_nil ?_)) (G3 (by rfl'))))
 exact ⟨X, q9t hh hdep hun hb hK hT' hz hq⟩
theorem fn814 : FnOk 814 k814 (A0 42) := by constructor <;> rfl'
noncomputable def geE : Expr := A6 (eK (rtE (nth (fdB (A0 42)) 0))) 1
noncomputable def geL (e : Expr) : Expr := A6 (eK e) 0
noncomputable def geS (e : Expr) : Scope := dite _ (fun h => @Expr.GeneratorExp.elim (fun _ => Scope) e h fun _ _ s _ => s) fun _ => fdS (A0 42)
noncomputable def geG : Comprehension := dite _ (fun h => @Expr.GeneratorExp.elim (fun _ => Comprehension) geE h fun _ g _ _ => g.headD ⟨geE, geE, [], 0⟩) fun _ => ⟨geE, geE, [], 0⟩
theorem q9u : ∃ p1 p2 pos, geE = .GeneratorExp (geL geE) [⟨.Name (S "arg") p1, .Name (S "split_command") p2, [], 0⟩] (geS geE) pos ∧ Qc (geL geE) := ⟨geG.target.pos, geG.iter.pos, geE.pos, by rfl', (A6 (eK (geL geE)) 0).pos, (A6 (eK (geL geE)) 1).pos, (geL geE).pos, by rfl'⟩
theorem ge_co : (geS geE).isCoroutine = false := by rfl'
theorem q5O : (geS geE).kind = .function := by rfl'
theorem q5P : ((geS geE).names.all fun p => !(p.2 == .free) && !(p.2 == .cell)) = true := by rfl'
theorem ge_0 : (geS geE).names.lookup (".0" : Str) = some NameKind.local := by rfl'
theorem ge_x : (geS geE).names.lookup (S "arg") = some NameKind.local := by rfl'
theorem ge_q : (geS geE).names.lookup (S "quote") = some NameKind.globalImplicit := by rfl'
theorem q1Z (P : Params) : ∃ o vs file tf flags tg inF text tt, (KK P).lookup 813 = some o ∧ o.data = .fields vs ∧ vs.getD 11 .none = .ref 809 ∧ vs.getD 18 .none = .str file tf ∧ vs.getD 7 .none = .int flags tg ∧ vs.getD 9 .none = .bool inF ∧ vs.getD 10 .none = .int text tt ∧ vs[11]? = some (.ref 809) := by
 refine ⟨k813 P, _, _, _, _, _, _, _, _, by rfl', rfl, rfl, rfl, rfl, rfl, rfl, rfl⟩
section
variable {x : SX} {loc : Loc} {sto : Sto} {K : AV → Sto → Prop} {c : Cx} {α : List Addr} {s : Shared}
theorem q9v {ws : List AO} (O : Ok x c) (Sx : Sat x c α loc (.jtab :: ws) s) : ∃ ps, s.heap.IsCode 813 jP ps ∧ s.heap.TableAt 813 jP ps := by
 obtain ⟨a, ob, h1, h2, h3, ps, rfl, h5⟩ := Sx.hs.cell 0 _ rfl
 rw [h1] at h3; cases h3
 obtain ⟨o, vs, file, tf, flags, tg, inF, text, tt, e1, e2, e3, e4, e5, e6, e7, e9⟩ := q1Z x.w.params
 have e8 : o.cls = .type "code" := by
  have : (KK x.w.params).lookup 813 = some (k813 x.w.params) := by rfl'
  rw [this] at e1; cases e1; rfl
 exact ⟨ps, ⟨o, vs, file, tf, flags, tg, inF, text, tt, _, Sx.gnd O _ _ e1, e2, e3, e4, e5, e6, e7, h2, rfl, h5, by decide⟩, ⟨⟨o, vs, Sx.gnd O _ _ e1, e8, e2, e9⟩, h2⟩⟩
theorem q4V {M : Model} {A : Around} {env : Env} {pos : Pos} {qn : Str} {scope : Scope} {ps : Array Value} {s : Shared} {Q : Value → Shared → Prop} {E : Value → Shared → Prop} (hc : env.code = .ref 813) (hok : s.heap.IsCode 813 jP ps) (htab : s.heap.TableAt 813 jP ps)
  (hQ : ∀ code h' tk (ps' : Array Value), Heap.ExtBut jP s.heap h' → h'.get? jP = some { cls := .none, data := .fields ps' } → TriplesOk ps'.toList → Q code { s with heap := h', toks := tk }) : wpAny M A (genexprCode env pos qn scope) Q E s := by
 cases hf : codeAmong pos ps.toList with
 | some c' =>
  obtain ⟨o, vs, file, tf, flags, tg, inF, text, tt, op, ho, hd, h11, h2, h7, h9, h10, hop, hpd, htr, hne⟩ := id hok
  exact wpAny_genexprCode_hit hc hok hf (hQ c' s.heap s.toks ps (Heap.ExtBut.refl _ _) htab.2 htr)
 | none =>
  refine wpAny_genexprCodeX hc hok htab hf fun c' h' tk hx _ _ hcode _ ht _ => ?_
  obtain ⟨o, vs, file, tf, flags, tg, inF, text, tt, op, ho, hd, h11, h2, h7, h9, h10, hop, hpd, htr, hne⟩ := id hcode
  exact hQ _ h' tk _ hx ht.2 htr
def GenJ (w : World) (A : Around) (ws : List (List Nat)) (h0 : Heap) (a : Addr) (s : Shared) : Prop :=
 ∃ fp wr g n, ∃ (P : Nat → Value → Prop) (St : Nat → Shared → Prop), WalksS pw w A.in4 a fp wr (GenOnlyQ g) n P St ∧ n = ws.length ∧ St 0 s ∧ (∀ i s', St i s' → s'.TypeIs (.ref a) "generator") ∧ a ∈ fp ∧ (∀ b ∈ fp, b < s.heap.objs.size) ∧
  (∀ b ∈ wr, h0.get? b = none) ∧ ∀ j y, P j y → ∃ r t', ws[j]? = some r ∧ y = .str ⟨(quo r).toArray⟩ t'
theorem i8 (n : Nat) : passing (fun _ => true) n 0 = List.range n := by
 unfold passing
 exact List.filter_eq_self.mpr fun _ _ => rfl
theorem vsW {α : List Addr} {ws : List (List Nat)} {vs : Array Value} (h : VRs α (ws.map .str) vs.toList) {i : Nat} {v : Value} (e : vs[i]? = some v) : ∃ r t, ws[i]? = some r ∧ v = .str ⟨r.toArray⟩ t := by
 have e2 : i < (ws.map AV.str).length := by
  rw [h.length, v0D]
  exact (Array.getElem?_eq_some_iff.mp e).1
 obtain ⟨v', e3, h3⟩ := h.at (q9Z e2)
 rw [Array.getElem?_toList, e] at e3
 cases e3
 rw [List.getElem_map] at h3
 obtain ⟨t, rfl⟩ := h3
 exact ⟨_, t, q9Z (by simpa using e2), rfl⟩
theorem genJ (O : Ok x c) (hfr : x.fr = true) (hd : 6 ≤ x.d) {ws : List (List Nat)} {α0 : List Addr} (Sx : Sat x c α0 [(S "split_command", .ref 1)] [.jtab, .lsS ws] s) (hsc : x.scope = fdS (A0 42)) (hcode : c.env.code = .ref 813) (hw : ∀ w ∈ ws, ∃ r, w = 61 :: 63 :: r ∧ r.length ≤ 100000 ∧ 39 ∉ r)
  {Q : Value → Shared → Prop} {E : Value → Shared → Prop} (hQ : ∀ a s', GenJ x.w c.A ws s.heap a s' → Sat x c α0 [(S "split_command", .ref 1)] [.jtab, .lsS ws] s' → Q (.ref a) s') : wpAny (model pw x.w) c.A (eval geE c.env) Q E s := by
 obtain ⟨p1, p2, pos, q, hqc⟩ := q9u
 rw [q]
 obtain ⟨mg, mb, Tp⟩ := O.top
 have Tp' := Tp.keeps (Sx.stay O)
 refine wpAny_GeneratorExp_walksQD O.hh ge_co (closureFor_none (fun y hy => ?_)) (fun y hy => ?_) ge_0 ge_x q5O (by have := O.dep; lia) ?_ (fun x => ?_)
 ·have := v0w.mp q5P y hy
  simp at this
  exact this.1
 ·have := v0w.mp q5P y hy
  simp at this
  exact this.2
 ·refine T7 fun Q' E' hQ' _ => ?_
  obtain ⟨mm, F, L⟩ := Sx.fr
  obtain ⟨u, hu, a1, ha1, rfl⟩ := L (S "split_command") (.ref 1) (by rfl')
  obtain ⟨o1, vs, n1, l1, l2, l3, l4, l5, hl, l7⟩ := Sx.list (i := 1) (ao := .lsS ws) (xs := ws.map .str) rfl rfl ha1
  obtain ⟨ps, hok, htb⟩ := q9v O Sx
  obtain ⟨_, ob0, j1', j2, j1, _⟩ := Sx.hs.cell 0 _ rfl
  rw [Option.some.inj (j1'.symm.trans j1)] at j2
  have hj0 : c.base.get? jP = none := by
   cases e : c.base.get? jP with
   | none => rfl
   | some o => have := (Sx.off jP (v0i j1)).2; rw [O.sub _ _ e] at this; cases this
  have ha1j : a1 ≠ jP := fun e => by
   subst e
   obtain ⟨q1, e1⟩ := q9W.mp j1
   obtain ⟨q2, e2⟩ := q9W.mp ha1
   exact absurd ((v0m Sx.hs.nd).mp (e1.trans e2.symm)) (by decide)
  have hIj : s.heap.objs.size ≠ jP := fun e => absurd (v0a j2) (by rw [e]; exact Nat.lt_irrefl _)
  have hIa : a1 ≠ s.heap.objs.size := fun e => absurd (v0a l1) (by rw [e]; exact Nat.lt_irrefl _)
  refine wpAny_Name (v1d O.kind (B8 O (by rw [hsc]; rfl')) F.ns hu (hQ' _ _ ?_)) (G3 (by rfl'))
  refine wpAny_pyIter_list hl ⟨Tp'.nolimit.push _, q4V hcode (hok.push _) (htb.keeps fun b o e => q9X _ e) fun code h' tk ps' hx hcd htr => ?_⟩
  have keepB : ∀ b o, c.base.get? b = some o → h'.get? b = some o := fun b o e => hx b o (fun q => by rw [q, hj0] at e; cases e) (q9X _ (Sx.stay O b o e))
  have Tp2 := Tp.keeps keepB
  refine small fun G hG => ?_
  obtain ⟨bm, obm, b1, b2, b3, b4, b5, b6⟩ := Tp2.bmain
  refine hG (wpAny_builtinsFor (by rw [O.glob]; exact Tp2.g) b1 b2 b3 b4 b5 b6 ?_)
  clear hG
  have it0 : (s.heap.push { cls := .type "list_iterator", data := .fields #[.ref a1, .int 0 0] }).get? s.heap.objs.size = some { cls := .type "list_iterator", data := .fields #[.ref a1, .int 0 0] } := v0e _ rfl
  have it1 := hx _ _ hIj it0
  have l1' := hx _ _ ha1j (q9X { cls := .type "list_iterator", data := .fields #[.ref a1, .int 0 0] } l1)
  refine ⟨s.heap.objs.size, [s.heap.objs.size, a1], [s.heap.objs.size], vs.size, fun i v => vs[i]? = some v, fun i h => h.IsListIter s.heap.objs.size a1 i ∧ h.IsList a1 vs, fun _ => true, fun i y => ∃ w t', ws[i]? = some w ∧ y = .str ⟨(quo w).toArray⟩ t', rfl, fun A' hA => Walks.list hA _ _ hIa vs, ⟨⟨_, it1, rfl, rfl⟩, ⟨o1, l1', l2, n1, l4⟩⟩, fun b hb => ?_, Tp2.nolimit, fun hm => ?_, fun href hhref => ⟨?_, ?_⟩, fun a h₅ tk5 gs hgb hag hsz₅ hk₅ W hat => ?_⟩
  ·rcases v0F.mp hb with rfl | hb
   ·exact v0a it1
   ·cases v0c.mp hb
    exact v0a l1'
  ·have : cStatics < s.heap.objs.size := let ⟨_, hn, _⟩ := Tp'.nolimit; hn.lt
   rw [← v0c.mp hm] at this
   exact Nat.lt_irrefl _ this
  ·intro A' E' i v s₂ m₂ hA hD hU hP hn hm hkp
   rw [List.forIn_nil]
   exact v1h ⟨rfl, s₂.heap, s₂.toks, rfl, fun _ _ e => e⟩
  ·intro A' E' i v s₂ m₂ hA hD hU hP hp hn hm hkp
   have hP : vs[i]? = some v := hP
   obtain ⟨w0, t0, hw0, rfl⟩ := vsW l5 hP
   obtain ⟨r, rfl, hr1, hr2⟩ := hw _ (v0i hw0)
   refine v1j (eltQ (base := c.base) (m := m₂) hqc hA ?_ ?_ (fun b o e => ?_) O.gnd ⟨mg, mb, Tp⟩ hr1 hr2 ?_ ?_ ?_ O.glob hn hm) (fun y s₃ h => ⟨⟨_, h.1.choose, hw0, h.1.choose_spec⟩, h.2⟩) fun _ _ e => e
   ·have := O.dep; lia
   ·have := O.units; lia
   ·have e1 := keepB b o e
    refine hkp b (v0Q.mpr (v0a e1)) (fun q => ?_) o (hhref b o e1)
    rw [v0c.mp q] at e
    exact absurd (v0a (Sx.stay O _ _ e)) (Nat.lt_irrefl _)
   ·exact q5O
   ·show (geS geE).names.lookup (S "quote") = _ <;> exact ge_q
   ·show (geS geE).names.lookup (S "arg") = _ <;> exact ge_x
  ·have key : ∀ b o, b ≠ jP → s.heap.get? b = some o → h₅.get? b = some o := fun b o q e => hk₅ b o (hx b o q (q9X _ e))
   have hIh : s.heap.objs.size < h'.objs.size := v0a it1
   refine hQ _ _ ⟨_, _, _, _, _, _, W, ?_, hat, (fun i s' st => st.1.typeIs), v0x, ?_, ?_, ?_⟩ ?_
   ·rw [i8, v0X, ← v0D, ← l5.length, v0I]
   ·intro b hb
    show b < h₅.objs.size
    rw [hsz₅]
    rcases v0F.mp hb with rfl | hb
    ·exact v0u _
    ·rcases v0F.mp hb with rfl | hb
     ·exact Nat.lt_succ_of_lt hag
     ·exact Nat.lt_succ_of_lt (Nat.lt_trans (v0Q.mp hb) hag)
   ·intro b hb
    rcases v0F.mp hb with rfl | hb
    ·exact v0g (Nat.le_of_lt hIh)
    ·cases v0c.mp hb
     exact v0g (v0h _)
   ·intro j y ⟨i, e1, w0, t', e2, e3⟩
    rw [i8] at e1
    obtain ⟨e4, e5⟩ := q9W.mp e1
    rw [List.getElem_range] at e5
    subst e5
    exact ⟨w0, t', e2, e3⟩
   ·have A2 : AllBare s.gens := by
     have := Sx.gens
     rw [hfr] at this
     exact this
    have Sc := Sx.chg (n := tk) (h' := h') (m' := mm) j1 (fun m hn => (hn.push _).extBut hx fun q => (Sx.off jP (v0i j1)).1 q.symm) (fun b o q1 q2 e => hx b o q1 (q9X _ e)) hcd (ao := .jtab) ⟨j1, ps', rfl, htr⟩
    have Sd := Sc.heapK (h' := h₅) (n := tk5) hk₅
    exact ⟨Sd.fr, Sd.hs, Sd.off, Sd.os, by rw [hfr]; exact A2.push hgb, Sd.cel⟩
 ·rfl
end
noncomputable def D2 : List (List Nat) → List Nat
 | [] => []
 | a :: r => match r with
  | [] => quo a
  | _ :: _ => quo a ++ 32 :: D2 r
theorem q1a : ∀ ws : List (List Nat), PySem.Str.join ⟨#[32]⟩ (ws.map fun x => (⟨(quo x).toArray⟩ : PySem.Str)) = ⟨(D2 ws).toArray⟩
 | [] => rfl
 | [a] => by simp [PySem.Str.join, D2]
 | a :: b :: r => by
  have ih := q1a (b :: r)
  show (⟨(quo a).toArray⟩ : PySem.Str) ++ ⟨#[32]⟩ ++ PySem.Str.join ⟨#[32]⟩ ((b :: r).map fun x => (⟨(quo x).toArray⟩ : PySem.Str)) = _
  rw [ih]
  show (⟨(quo a).toArray ++ #[32] ++ (D2 (b :: r)).toArray⟩ : PySem.Str) = ⟨(quo a ++ 32 :: D2 (b :: r)).toArray⟩
  congr 1
  apply Array.ext'
  simp
theorem q1b : ∀ (ws : List (List Nat)) (n : Nat), (ws.map fun x => (⟨(quo x).toArray⟩ : PySem.Str)).foldl (fun a b => a + b.length + (⟨#[32]⟩ : PySem.Str).length) n ≤ n + (D2 ws).length + 1
 | [], n => by show n ≤ _; lia
 | [a], n => by
  show n + (quo a).length + 1 ≤ n + (quo a).length + 1
  lia
 | a :: b :: r, n => by
  rw [v0K, v0B]
  refine v0S (q1b (b :: r) _) ?_
  show n + (quo a).length + 1 + (D2 (b :: r)).length + 1 ≤ n + (quo a ++ 32 :: D2 (b :: r)).length + 1
  rw [v0G, v0U]
  lia
theorem q7w {ws : List (List Nat)} (h : (D2 ws).length ≤ 100000) : JoinOk ⟨#[32]⟩ (ws.map fun x => (⟨(quo x).toArray⟩ : PySem.Str)) = true := by
 unfold JoinOk
 rw [List.foldl_toArray]
 show (!decide (_ > sizeLine)) = true
 rw [decide_eq_false (Nat.not_lt.mpr (v0S (q1b ws 0) (sz (by lia))))]; rfl
theorem q4a {ws : List (List Nat)} {P : Nat → Value → Prop} (hP : ∀ j y, P j y → ∃ r t', ws[j]? = some r ∧ y = .str ⟨(quo r).toArray⟩ t') {l : List (PySem.Str × Tok)} (h : ItemsOf P (strValues l).toArray ws.length) : l.map (·.1) = ws.map fun x => (⟨(quo x).toArray⟩ : PySem.Str) := by
 have hl : l.length = ws.length := by simpa [strValues] using h.1
 apply List.ext_getElem?
 intro j
 by_cases hj : j < ws.length
 ·have hj' : j < l.length := hl ▸ hj
  obtain ⟨r, t', e1, e2⟩ := hP j _ (h.2 j (.str l[j].1 l[j].2) (by simp [strValues, q9Z hj']))
  injection e2 with h1 _
  rw [q9Z hj] at e1
  cases e1
  rw [v0L, v0L, q9Z hj', q9Z hj, Option.map_some, Option.map_some, h1]
 ·rw [List.getElem?_eq_none (by simpa [hl] using Nat.le_of_not_lt hj), List.getElem?_eq_none (by simpa using Nat.le_of_not_lt hj)]
noncomputable def joE : Expr := rtE (nth (fdB (A0 42)) 0)
noncomputable def joA : Pos := (A6 (eK joE) 0).pos
noncomputable def joP : Pos := joE.pos
noncomputable def joC : Nat × Pos := (eC (A6 (eK (A6 (eK joE) 0)) 0), (A6 (eK (A6 (eK joE) 0)) 0).pos)
noncomputable def joR : Pos := (nth (fdB (A0 42)) 0).pos
theorem jo_eq : fdB (A0 42) = [.Return (some (.Call (.Attribute (.Constant (.str ⟨#[32]⟩) joC.1 joC.2) (S "join") joA) [geE] [] joP)) joR] := by rfl'
theorem q7x : (joA.endLine == joP.line) = true := by rfl'
section
variable {x : SX} {loc : Loc} {sto : Sto} {K : AV → Sto → Prop} {c : Cx} {α : List Addr} {s : Shared}
theorem Sat.moved {s0 s' : Shared} {wr : List Addr} {g : Nat} {loc0 : Loc} {sto0 : Sto} (S0 : Sat x c α loc0 sto0 s0) (Sx : Sat x c α loc sto s) (hfr : x.fr = true) (hm : Moved wr (GenOnlyQ g) s s') (hw : ∀ b ∈ wr, s0.heap.get? b = none) (n : Nat) : Sat x c α loc sto { s' with toks := n } := by
 obtain ⟨⟨m, F, l⟩, ⟨ln, nd, ce⟩, off, os, gens, cel⟩ := Sx
 obtain ⟨m0, F0, l0⟩ := S0.fr
 refine ⟨⟨m, F.kBut (S := wr) (fun hL => ?_) (fun b hb => F0.keep.none (hw b hb)) (fun b o q e => hm.heap b o q e), l⟩, ⟨ln, nd, fun i o e => ?_⟩, off, hm.os.trans os, ?_, cel⟩
 ·have := hw _ hL
  obtain ⟨o, _, _, e, _⟩ := F0.ns
  rw [e] at this; cases this
 ·obtain ⟨a, ob, h1, h2, h3⟩ := ce i o e
  refine ⟨a, ob, h1, hm.heap a ob (fun q => ?_) h2, h3⟩
  have := hw _ q
  have hi : i < sto0.length := by rw [← S0.hs.len]; exact (q9W.mp h1).1
  obtain ⟨ob', h2', _⟩ := S0.objAt h1 (q9Z hi)
  exact nomatch this.symm.trans h2'
 ·rw [hfr] at gens ⊢
  exact AllBare.moved gens hm.gens
theorem q9w (O : Ok x c) (hfr : x.fr = true) (hd : 6 ≤ x.d) {ws : List (List Nat)} (Sx : Sat x c α [(S "split_command", .ref 1)] [.jtab, .lsS ws] s) (hsc : x.scope = fdS (A0 42)) (hcode : c.env.code = .ref 813) (hw : ∀ w ∈ ws, ∃ r, w = 61 :: 63 :: r ∧ r.length ≤ 100000 ∧ 39 ∉ r) (hz : (D2 ws).length ≤ 100000) (hn : ws.length ≤ 100000)
  {Q : Value → Shared → Prop} {E : Value → Shared → Prop} (hQ : ∀ α' t s', Ex α α' → Sat x c α' [(S "split_command", .ref 1)] [.jtab, .lsS ws] s' → Q (.str ⟨(D2 ws).toArray⟩ t) s') : wpAny (model pw x.w) c.A (eval (.Call (.Attribute (.Constant (.str ⟨#[32]⟩) joC.1 joC.2) (S "join") joA) [geE] [] joP) c.env) Q E s := by
 have hbase : attributeBase (.Constant (.str ⟨#[32]⟩) joC.1 joC.2) (S "join") c.env (eval (.Constant (.str ⟨#[32]⟩) joC.1 joC.2) c.env) = eval (.Constant (.str ⟨#[32]⟩) joC.1 joC.2) c.env := rfl
 rw [arm_eval_Call, hbase]
 refine v1e (EV.constStr (K := fun v s' => v = .str [32] ∧ s' = [.jtab, .lsS ws]) ⟨rfl, rfl⟩ c α s _ E O Sx fun v s1 α1 t1 va hv g1 S1 r1 => ?_)
 obtain ⟨rfl, rfl⟩ := hv
 obtain ⟨tk, rfl⟩ := r1
 refine v1e (v1f ?_)
 have hform : methodCallForm ([geE].length + ([] : List Keyword).length) (backTo joP (starEach [geE] c.env)) (backToKw joP (keywordEach [] c.env)) = true := rfl
 have hpos : methodCallPos true (.Constant (.str ⟨#[32]⟩) joC.1 joC.2) c.env joA joP = pure joP := by
  unfold methodCallPos
  rw [q7x]; rfl
 unfold methodCall
 rw [hform]
 refine v1e (v1g ?_)
 refine GM.join ?_
 refine v1e (v1k hpos ?_)
 refine callWith_of (P := fun h => (KK x.w.params).In h) rfl (fun h hh => B0 x _ h hh) ?_
 refine evalArgs_plain (Calls.spliced_cons (genJ O hfr hd S1 hsc hcode hw fun a s2 hg S2 => Calls.spliced_nil ?_))
 obtain ⟨fp, wr, g, n, P, St, W, rfl, hst, hT, ha, hfp, hwr, hP⟩ := hg
 have W := W.in4_2
 refine ⟨S2.gnd O, SC.joinGen W hT hst hfp ha (fun j v hv => let ⟨r, t', _, e⟩ := hP j v hv; ⟨_, t', e⟩) (fun s' lt hm hacc => ?_) (sz (by lia))⟩
 have hl := q4a hP hacc
 rw [hl]
 refine ⟨q7w hz, fun t' k => ?_⟩
 have ej : Txt.join ⟨#[32]⟩ (ws.map fun x => (⟨(quo x).toArray⟩ : PySem.Str)) = ⟨(D2 ws).toArray⟩ := by
  rw [← q1a ws]
  exact eq_of_beq (join_plain_closes _ _)
 rw [ej]
 exact hQ α1 t' _ g1 (S1.moved S2 hfr hm hwr k)
theorem q9x (hr : x.fr = true) (hd : 7 ≤ x.d) {ws : List (List Nat)} (hw : ∀ w ∈ ws, ∃ r, w = 61 :: 63 :: r ∧ r.length ≤ 100000 ∧ 39 ∉ r) (hz : (D2 ws).length ≤ 100000) (hn : ws.length ≤ 100000) (h : K (.str (D2 ws)) [.jtab, .lsS ws]) : CodeS x (.ref 814) [.ref 1] [] loc [.jtab, .lsS ws] K := by
 intro c α s vs ks R O Sx rv rk P
 refine U2 (loc₀ := [(S "split_command", .ref 1)]) (x' := inY x (A0 42)) (fn814.lk _) (fn814.da _) (fn814.bd _) (fn814.sc _) (fn814.gl _) (fn814.bi _) (fn814.cd _) fn814.ce (fun α vs ks r rk => ?_) (by rfl') (show List.Nodup [S "split_command"] from by decide +kernel) (by lia) rfl fn814.co fn814.ge fn814.ki O Sx rv rk fun s₁ ht O1 S1 => ?_
 ·obtain ⟨v, rfl, r1⟩ := r.one
  obtain rfl := rk.nil
  exact ⟨[(S "split_command", v)], fun Se => by rfl', rfl, r1, trivial⟩
 ·rw [jo_eq]
  refine v1m (wpAny_Return_some (q9w O1 hr (by show 6 ≤ x.d - 1; lia) S1 rfl (by rfl') hw hz hn fun α' t s' g S2 => ?_))
  refine Sx.bodyEnd P (f' := .ret (.str (D2 ws))) (BodyK.ret h) g S2 ⟨_, rfl, t, rfl⟩
end
theorem fn867 : FnOk 867 k867 (A0 54) := by constructor <;> rfl'
noncomputable def C3 (r : List Nat) : List Nat := ([61, 63, 120, 63, 113, 63] ++ r) ++ [63, 61]
noncomputable def C5 (rows : List (List Nat)) : List Nat := D2 (rows.map C3)
noncomputable abbrev cL : Expr := retE (nth (fdB (A0 54)) 0)
noncomputable abbrev lL : Expr := A6 (q5F cL) 0
noncomputable abbrev yL : Str := E5 (lcG lL).target
theorem q4b (r : List Nat) : C3 r = 61 :: 63 :: ([120, 63, 113, 63] ++ r ++ [63, 61]) := rfl
section
variable {x : SX} {loc : Loc} {sto : Sto} {K : AV → Sto → Prop}
theorem CallS.conv {f : Value} {as : List AV} {ks : List (Str × AV)} {i : Nat} {ao : AO} (ao' : AO) (hi : sto[i]? = some ao) (g : ∀ α ob, OR α ao ob → OR α ao' ob) (h : CallS x f as ks loc (sto.set i ao') K) : CallS x f as ks loc sto K :=
 fun c α s vs kv Q E O S rv rk P => h c α s vs kv Q E O (S.conv hi (g α)) rv rk P
noncomputable def lR1 : Loc := [(S "rows", .ref 1)]
theorem q9y (hr : x.fr = true) (hd : 8 ≤ x.d) {rows : List (List Nat)} (hq : ∀ r ∈ rows, r.length ≤ 1000 ∧ 39 ∉ r) (hz : (C5 rows).length ≤ 100000) (hn : rows.length ≤ 1000) (h : K (.str (C5 rows)) [.jtab, .lsS rows]) : CodeS x (.ref 867) [.ref 1] [] loc [.jtab, .lsS rows] K := by
 refine D5 fn867 (loc₀ := lR1) (fun α vs ks r rk => ?_) (by rfl') (show List.Nodup [S "rows"] from by decide +kernel) (by lia) ?_
 ·obtain ⟨v, rfl, r1⟩ := r.one
  obtain rfl := rk.nil
  exact ⟨[(S "rows", v)], fun Se => by rfl', rfl, r1, trivial⟩
 ·have TO := D6 (x := inY x (A0 54)) (A9 _)
  have eb : fdB (A0 54) = [.Return (some (q3J cL (a5 lL))) (stP (nth (fdB (A0 54)) 0))] := by rfl'
  rw [eb]
  refine XSs.cons (XS.ret ?_)
  refine EV.call (K2 := fun f as ks s => f = .ref 814 ∧ ks = [] ∧ CallS (inY x (A0 54)) f as [] lR1 s fun a s₁ => BodyK 2 K (.ret a) lR1 s₁) (ev := fun e s K => EV (inY x (A0 54)) e lR1 s K) (fun _ _ _ h => h) (by rfl') (A4 TO 40 false _ _ _ _ ?_) (fun f vs ks s hk => ?_)
  ·have e1 : ∀ KK : KA1, ew (inY x (A0 54)) (B6 D0) 40 false (.Name (q0e cL) (n6 cL)) lR1 [.jtab, .lsS rows] KK = KK (.ext (.ref 814)) [.jtab, .lsS rows] := fun KK => by rfl'
   show ew (inY x (A0 54)) (B6 D0) 40 false (.Name (q0e cL) (n6 cL)) lR1 [.jtab, .lsS rows] _
   rw [e1]
   show EV (inY x (A0 54)) (a5 lL) lR1 [.jtab, .lsS rows] fun v s₁ => (Value.ref 814 = .ref 814 ∧ ([] : List (Str × AV)) = [] ∧ CallS (inY x (A0 54)) (.ref 814) [v] [] lR1 s₁ fun a s₁ => BodyK 2 K (.ret a) lR1 s₁)
   refine EV.comp (F5 (by rfl')) (S7 (by rfl') (by rfl')) (by rfl') (A4 TO 40 false _ _ _ _ ?_)
   have e2 : ∀ KK : KA1, ew (inY x (A0 54)) (B6 D0) 40 false (lcG lL).iter lR1 [.jtab, .lsS rows] KK = KK (.ref 1) [.jtab, .lsS rows] := fun KK => by rfl'
   rw [e2]
   refine CompS.intro (n := rows.length) (fun i => (rows.take i).map (fun r => AV.str (C3 r))) (fun o => [.jtab, .raw o]) (by rfl') (.lsS rfl) (sz (by lia)) ?_ (fun o p hp => ?_) (fun o => ⟨rfl, rfl⟩) (fun o i o' hi hl => ?_) fun o hl => ?_
   ·intro p hp
    first | exact A7 (by rfl') _ hp | exact B9 (by rfl') _ hp | exact flJ rfl (by rfl') _ hp | exact C7 (by rfl') _ hp
   ·skip
    cases v0c.mp hp
    rfl
   ·skip
    generalize hys : (rows.take i).map (fun r => AV.str (C3 r)) = ys
    refine A4 (D6 (x := cx (inY x (A0 54)) (lcS lL)) (A9 _)) 40 false _ _ _ _ ?_
    have htk : rows.take (i + 1) = rows.take i ++ [rows.getD i []] := by rw [v0O, C0 (d := []) hi]; rfl
    have hm : rows.getD i [] ∈ rows := by
     rw [v0J, q9Z hi]; exact List.getElem_mem hi
    have hl1 := (hq _ hm).1
    generalize hrr : rows.getD i [] = r at hl1 htk
    have e3 : ∀ (KK : KA1), ew (cx (inY x (A0 54)) (lcS lL)) (B6 D0) 40 false (lcE lL) [(yL, .str r)] [.jtab, .raw o, .lst ys, .raw o'] KK =
      (([61, 63, 120, 63, 113, 63] : List Nat).length + r.length ≤ sizeLine ∧ ([61, 63, 120, 63, 113, 63] ++ r).length + ([63, 61] : List Nat).length ≤ sizeLine ∧ KK (.str (C3 r)) [.jtab, .raw o, .lst ys, .raw o']) := fun KK => by rfl'
    show ew (cx (inY x (A0 54)) (lcS lL)) (B6 D0) 40 false (lcE lL) [(yL, .str r)] [.jtab, .raw o, .lst ys, .raw o'] _
    rw [e3]
    refine ⟨sz (by simp; lia), sz (by simp; lia), [.jtab, .raw o], [], rfl, rfl, trivial, ?_, ?_, rfl⟩
    ·intro p hp
     first | exact A7 (by rfl') _ hp | exact B9 (by rfl') _ hp | exact flJ rfl (by rfl') _ hp | exact C7 (by rfl') _ hp
    ·rw [htk, v0M, hys]; rfl
   ·skip
    refine ⟨rfl, rfl, ?_⟩
    rw [v0R]
    refine CallS.conv (i := 2) (.lsS (rows.map C3)) rfl (fun α ob h => (by
     show LRep α ((rows.map C3).map .str) ob
     rw [v0W]; exact h)) ?_
    show CallS (inY x (A0 54)) (.ref 814) [.ref 2] [] lR1 [.jtab, .lsS rows, .lsS (rows.map C3)] _
    refine CallS.liftJ (as₀ := [.ref 1]) (sto₀ := [.jtab, .lsS (rows.map C3)]) (K₀ := fun v s₁ => v = .str (D2 (rows.map C3)) ∧ s₁ = [.jtab, .lsS (rows.map C3)]) [0, 2] (fun loc₀ => (q9x (x := I2 (inY x (A0 54))) hr (by show 7 ≤ x.d - 1; lia) (fun w hw => ?_) hz (by rw [v0I]; lia) ⟨rfl, rfl⟩).call) rfl (by decide) (fun k j hk => ?_) (fun o ho => ?_) (fun a ha => ?_) rfl fun v s₁ hv => ?_
    ·obtain ⟨r, hr1, rfl⟩ := v0z.mp hw
     obtain ⟨q1, q2⟩ := hq r hr1
     refine ⟨_, q4b r, ?_, fun hm => ?_⟩
     ·simp only [v0G, v0U, List.length_nil]; lia
     ·rcases v0f.mp hm with hm | hm
      ·rcases v0f.mp hm with hm | hm
       ·revert hm; decide
       ·exact q2 hm
      ·revert hm; decide
    ·match k with
     | 0 => cases hk; rfl
     | 1 => cases hk; rfl
     | k + 2 => simp at hk
    ·first | exact A7 (by rfl') _ ho | exact B9 (by rfl') _ ho | exact flJ rfl (by rfl') _ ho | exact C7 (by rfl') _ ho
    ·cases v0c.mp ha
     exact Nat.one_lt_two
    ·obtain ⟨rfl, rfl⟩ := hv
     refine ⟨[.jtab, .lsS (rows.map C3)], [], rfl, rfl, (fun o ho => ?_), .inl ⟨trivial, ?_⟩⟩
     ·first | exact A7 (by rfl') _ ho | exact B9 (by rfl') _ ho | exact flJ rfl (by rfl') _ ho | exact C7 (by rfl') _ ho
     ·refine .inl ⟨[.jtab, .lsS rows], [.lsS (rows.map C3)], rfl, rfl, trivial, (fun o ho => ?_), h⟩
      first | exact A7 (by rfl') _ ho | exact B9 (by rfl') _ ho | exact flJ rfl (by rfl') _ ho | exact C7 (by rfl') _ ho
  ·obtain ⟨rfl, rfl, hk⟩ := hk
   exact ⟨fn814.keep _, hk⟩
end
section
open PySem.Spec
def O4 (ls : List (List Nat)) : Prop := ∀ l ∈ ls, ∀ c ∈ l, c < 1114112
noncomputable def sD (l : List Nat) : PyData := .str ⟨l.toArray⟩
theorem b7 {α : List Addr} {h : Heap} : ∀ {is : List Int} {vs : List Value}, VRs α (is.map .int) vs → ReadsAll h vs (is.map .int) []
 | [], [], _ => .nil
 | n :: is, v :: vs, ⟨⟨t, e⟩, r⟩ => by rw [e]; exact .cons (.int n t) (b7 r)
 | [], _ :: _, h => h.elim
 | _ :: _, [], h => h.elim
theorem y3 {α : List Addr} {h : Heap} : ∀ {ls : List (List Nat)} {vs : List Value}, VRs α (ls.map .str) vs → ReadsAll h vs (ls.map sD) []
 | [], [], _ => .nil
 | n :: is, v :: vs, ⟨⟨t, e⟩, r⟩ => by rw [e]; exact .cons (.str _ t) (y3 r)
 | [], _ :: _, h => h.elim
 | _ :: _, [], h => h.elim
theorem u0 : ∀ is js : List Int, PyData.eqvAll (is.map .int) (js.map .int) = decide (is = js)
 | [], [] => by simp [PyData.eqvAll]
 | [], _ :: _ => by simp [PyData.eqvAll]
 | _ :: _, [] => by simp [PyData.eqvAll]
 | a :: r, b :: t => by
  simp only [v0K, PyData.eqvAll, PyData.eqv, u0 r t]
  by_cases h : a = b <;> by_cases h' : r = t <;> simp [h, h']
theorem q9z {a b : List Nat} : ((⟨a.toArray⟩ : Str) == ⟨b.toArray⟩) = decide (a = b) := by
 by_cases h : a = b
 ·rw [h]; simp
 ·rw [decide_eq_false h]
  exact beq_eq_false_iff_ne.mpr fun q => h (by injection q with q; simpa using q)
theorem q2a : ∀ is js : List (List Nat), PyData.eqvAll (is.map sD) (js.map sD) = decide (is = js)
 | [], [] => by simp [PyData.eqvAll]
 | [], _ :: _ => by simp [PyData.eqvAll]
 | _ :: _, [] => by simp [PyData.eqvAll]
 | a :: r, b :: t => by
  have h1 : PyData.eqv (sD a) (sD b) = decide (a = b) := by unfold sD; simp only [PyData.eqv, q9z]
  simp only [v0K, PyData.eqvAll, h1, q2a r t]
  by_cases h : a = b <;> by_cases h' : r = t <;> simp [h, h']
theorem P5 : ∀ is : List Int, PyData.canLayAll0 (is.map .int) = true ∧ PyData.depthAll (is.map .int) = 0
 | [] => by simp [PyData.canLayAll0, PyData.depthAll]
 | a :: r => by
  have := P5 r
  simp only [v0K, PyData.canLayAll0, PyData.canLay0, PyData.depthAll, PyData.depth, this.1, this.2]; simp
theorem u5 : ∀ ls : List (List Nat), O4 ls → PyData.canLayAll0 (ls.map sD) = true ∧ PyData.depthAll (ls.map sD) = 0
 | [], _ => by simp [PyData.canLayAll0, PyData.depthAll]
 | a :: r, h => by
  have := u5 r fun l hl => h l (v0y _ hl)
  have h1 : PyData.strOk ⟨a.toArray⟩ = true := by
   unfold PyData.strOk
   rw [← Array.all_toList]
   exact v0w.mpr fun c hc => decide_eq_true (h a v0x c (by simpa using hc))
  have h2 : PyData.canLay0 (sD a) = true := by unfold sD; simp only [PyData.canLay0, h1]
  have h3 : PyData.depth (sD a) = 0 := by unfold sD; simp only [PyData.depth]
  simp only [v0K, PyData.canLayAll0, PyData.depthAll, h2, h3, this.1, this.2]; simp
noncomputable def q1c (ao : AO) : Option (List PyData) := AO.casesOn ao (fun l => List.casesOn l (some []) fun _ _ => none) (fun _ => none) (fun _ => none) (fun _ => none) (fun _ _ _ => none) (fun ls => some (ls.map sD)) (fun is => some (is.map .int)) (fun _ => none) (fun _ _ => none) (fun _ => none) none
def q9A (ao bo : AO) (q : Bool) : Prop := ∃ ds es, q1c ao = some ds ∧ q1c bo = some es ∧ PyData.eqvAll ds es = q ∧ (PyData.canLayAll0 ds = true ∧ PyData.depthAll ds = 0) ∧ PyData.canLayAll0 es = true ∧ PyData.depthAll es = 0
noncomputable def eqP (ao bo : AO) (KB : Bool → Prop) : Option Prop := AO.casesOn ao (fun _ => none) (fun _ => none) (fun _ => none) (fun _ => none) (fun _ _ _ => none)
 (fun ls => bo.oS none fun ms => some ((O4 ls ∧ O4 ms) ∧ KB (decide (ls = ms))))
 (fun is => AO.casesOn bo (fun l => List.casesOn l (some (KB (decide (is = [])))) fun _ _ => none) (fun _ => none) (fun _ => none) (fun _ => none) (fun _ _ _ => none) (fun _ => none) (fun js => some (KB (decide (is = js)))) (fun _ => none) (fun _ _ => none) (fun _ => none) none)
 (fun _ => none) (fun _ _ => none) (fun _ => none) none
theorem q1d {ao bo : AO} {KB : Bool → Prop} {P : Prop} (h : eqP ao bo KB = some P) (hP : P) : ∃ q, q9A ao bo q ∧ KB q := by
 cases ao with
 | lsI is => cases bo with
  | lsI js => exact ⟨_, ⟨_, _, rfl, rfl, u0 _ _, P5 _, P5 _⟩, C6 h hP⟩
  | lst l => cases l with
   | nil => exact ⟨_, ⟨_, _, rfl, rfl, u0 _ [], P5 _, P5 []⟩, C6 h hP⟩
   | cons _ _ => exact noO h
  | _ => exact noO h
 | lsS ls => cases bo with
  | lsS ms => obtain ⟨g, k⟩ := C6 h hP; exact ⟨_, ⟨_, _, rfl, rfl, q2a _ _, u5 _ g.1, u5 _ g.2⟩, k⟩
  | _ => exact noO h
 | _ => exact noO h
section
variable {x : SX} {loc : Loc} {sto : Sto} {K : AV → Sto → Prop} {c : Cx} {α : List Addr} {s : Shared}
theorem O5 (S : Sat x c α loc sto s) {i : Nat} {ao : AO} {ds : List PyData} {a : Addr} (hx : sto[i]? = some ao) (hd : q1c ao = some ds) (ha : α[i]? = some a) : Reads s.heap (.ref a) (.list ds) [a] := by
 cases ao with
 | lsI is =>
  obtain ⟨o, vs, n, h1, h2, h3, h4, h5, h6, h7⟩ := S.list hx rfl ha
  rw [← Option.some.inj hd]
  exact .list h1 h2 h4 (b7 h5)
 | lsS is =>
  obtain ⟨o, vs, n, h1, h2, h3, h4, h5, h6, h7⟩ := S.list hx rfl ha
  rw [← Option.some.inj hd]
  exact .list h1 h2 h4 (y3 h5)
 | lst l => cases l with
  | nil =>
   obtain ⟨o, vs, n, h1, h2, h3, h4, h5, h6, h7⟩ := S.list hx rfl ha
   rw [← Option.some.inj hd]
   exact .list h1 h2 h4 (b7 (is := []) h5)
  | cons _ _ => exact noO hd
 | _ => exact noO hd
noncomputable def ref2 (l : List AV) : Option (Nat × Nat) := W1 none l fun a b => a.onR none fun i => b.onR none fun j => some (i, j)
theorem q4c {l : List AV} {p : Nat × Nat} (h : ref2 l = some p) : l = [.ref p.1, .ref p.2] := by
 obtain ⟨a, b, rfl, g⟩ := j2 h
 obtain ⟨i, rfl, g2⟩ := AV.jR g
 obtain ⟨j, rfl, g3⟩ := AV.jR g2
 cases g3; rfl
noncomputable def q1e (ao : AO) : Option (Nat × Nat) := ao.onTu none ref2
theorem y4 {ao : AO} {p : Nat × Nat} (h : q1e ao = some p) : ao = .tup [.ref p.1, .ref p.2] := by
 obtain ⟨l, rfl, g⟩ := AO.jTu h
 rw [q4c g]
noncomputable def eqT (p q : Nat × Nat) (sto : Sto) (KB : Bool → Prop) : Option Prop := onO none sto p.1 fun a => onO none sto q.1 fun b => eqP a b fun q1 => onO False sto p.2 fun d => onO False sto q.2 fun e => orP (eqP d e fun q2 => KB (q1 && q2)) False
noncomputable def eqR (i j : Nat) (sto : Sto) (KB : Bool → Prop) : Option Prop := onO none sto i fun a => onO none sto j fun b => Option.casesOn (q1e a) (eqP a b KB) fun p => Option.casesOn (q1e b) none fun q => eqT p q sto KB
theorem orP_F {a : Option Prop} (h : orP a False) : ∃ P, a = some P ∧ P := by
 cases a with
 | none => exact False.elim h
 | some P => exact ⟨P, rfl, h⟩
theorem y5 (S : Sat x c α loc sto s) {k : Nat} {t : Addr} {p : Nat × Nat} {xs ys : List PyData} {a1 a2 : AO} (hk : sto[k]? = some (.tup [.ref p.1, .ref p.2])) (ht : α[k]? = some t) (e1 : sto[p.1]? = some a1) (e2 : sto[p.2]? = some a2) (g1 : q1c a1 = some xs) (g2 : q1c a2 = some ys) : ∃ as, Reads s.heap (.ref t) (.tuple [.list xs, .list ys]) as := by
 obtain ⟨o, x2, x3, x4, vs, n, x5, x6⟩ := S.objAt ht hk
 obtain ⟨u, w, hv, ⟨a, y1, y2⟩, ⟨b, z1, z2⟩⟩ := VRs.two x6
 exact ⟨_, .tuple x2 x3 x5 (by rw [hv, y2, z2]; exact .cons (O5 S e1 g1 y1) (.cons (O5 S e2 g2 z1) .nil))⟩
theorem q4d {i j : Nat} {KB : Bool → Prop} {P : Prop} (h : eqR i j sto KB = some P) (hP : P) (S : Sat x c α loc sto s) {a b : Addr} (ha : α[i]? = some a) (hb : α[j]? = some b) :
  ∃ q da db as bs, Reads s.heap (.ref a) da as ∧ Reads s.heap (.ref b) db bs ∧ SeqAt.shaped da = true ∧ SeqAt.shaped db = true ∧ PyData.eqv da db = q ∧ KB q := by
 have sh : ∀ {ds : List PyData}, (PyData.canLayAll0 ds = true ∧ PyData.depthAll ds = 0) → SeqAt.shaped (.list ds) = true := fun {ds} h => by
  simp only [SeqAt.shaped, PyData.canLay0, PyData.depth, h.1, h.2]; decide
 have sh2 : ∀ {ds es : List PyData}, (PyData.canLayAll0 ds = true ∧ PyData.depthAll ds = 0) → (PyData.canLayAll0 es = true ∧ PyData.depthAll es = 0) → SeqAt.shaped (.tuple [.list ds, .list es]) = true := fun {ds es} h k => by
  simp only [SeqAt.shaped, PyData.canLay0, PyData.canLayAll0, PyData.depth, PyData.depthAll, h.1, h.2, k.1, k.2]; decide
 obtain ⟨ao, hi, g1⟩ := jO h
 obtain ⟨bo, hj, g2⟩ := jO g1
 revert g2
 cases hp : q1e ao with
 | none =>
  intro g2
  obtain ⟨q1, ⟨ds, es, d1, d2, d3, d4, d5⟩, h1⟩ := q1d g2 hP
  exact ⟨_, _, _, _, _, O5 S hi d1 ha, O5 S hj d2 hb, sh d4, sh d5, (by simp only [PyData.eqv, d3]), h1⟩
 | some p => cases hq : q1e bo with
  | none => exact fun g2 => noO g2
  | some q =>
   intro g2
   rw [y4 hp] at hi
   rw [y4 hq] at hj
   obtain ⟨a1, e1, g3⟩ := jO g2
   obtain ⟨b1, f1, g4⟩ := jO g3
   obtain ⟨q1, ⟨ds, es, d1, d2, d3, d4, d5⟩, h1⟩ := q1d g4 hP
   obtain ⟨a2, e2, h2⟩ := isO h1
   obtain ⟨b2, f2, h3⟩ := isO h2
   obtain ⟨P2, h4, h5⟩ := orP_F h3
   obtain ⟨q2, ⟨ds', es', d1', d2', d3', d4', d5'⟩, h6⟩ := q1d h4 h5
   obtain ⟨as, ra⟩ := y5 S hi ha e1 e2 d1 d1'
   obtain ⟨bs, rb⟩ := y5 S hj hb f1 f2 d2 d2'
   exact ⟨_, _, _, _, _, ra, rb, sh2 d4 d4', sh2 d5 d5', (by simp only [PyData.eqv, PyData.eqvAll, d3, d3', Bool.and_true]), h6⟩
noncomputable def cmpL (op : CmpOp) (a b : AV) (sto : Sto) (K : KA1) : Option Prop := match op with
 | .Eq => a.onR none fun i => b.onR none fun j => eqR i j sto fun q => K (.bool q) sto
 | .NotEq => a.onR none fun i => b.onR none fun j => eqR i j sto fun q => K (.bool (!q)) sto
 | .NotIn => a.onI none fun k => b.onR none fun j => onO none sto j fun ao => ao.oI none fun is => some (K (.bool (!decide (k ∈ is))) sto)
 | _ => none
theorem q2b (k : Int) : ∀ is : List Int, ((is.map PyData.int).any fun y => PyData.eqv y (.int k)) = decide (k ∈ is)
 | [] => by simp
 | a :: r => by
  simp only [v0K, List.any_cons, PyData.eqv, q2b k r, v0F]
  by_cases h : a = k
  ·subst h; simp
  ·have h' : ¬ k = a := fun q => h q.symm
   simp [h, h']
theorem q7y {o : CmpOp} {a b : AV} {P : Prop} (h : cmpL o a b sto K = some P) (hP : P) : OpS x (op2 (compareOp o)) [a, b] loc sto K := by
 intro c α s vs Q E O S r Po
 obtain ⟨v, w, rfl, r1, r2⟩ := r.two
 have hu : c.A.units + 64 < cLine := by have := O.units; lia
 cases o with
 | Eq =>
  obtain ⟨i, rfl, g1⟩ := AV.jR (show AV.onR none a _ = _ from h)
  obtain ⟨j, rfl, g2⟩ := AV.jR g1
  obtain ⟨a, ha, rfl⟩ := r1
  obtain ⟨b, hb, rfl⟩ := r2
  obtain ⟨q, da, db, as, bs, h1, h2, h3, h4, rfl, h5⟩ := q4d g2 hP S ha hb
  exact eq_dataH h1 h2 h3 h4 hu (Po _ _ _ _ _ h5 .refl S rfl)
 | NotEq =>
  obtain ⟨i, rfl, g1⟩ := AV.jR (show AV.onR none a _ = _ from h)
  obtain ⟨j, rfl, g2⟩ := AV.jR g1
  obtain ⟨a, ha, rfl⟩ := r1
  obtain ⟨b, hb, rfl⟩ := r2
  obtain ⟨q, da, db, as, bs, h1, h2, h3, h4, rfl, h5⟩ := q4d g2 hP S ha hb
  exact ne_dataH h1 h2 h3 h4 hu (Po _ _ _ _ _ h5 .refl S rfl)
 | NotIn =>
  obtain ⟨k, rfl, g1⟩ := AV.jI (show AV.onI none a _ = _ from h)
  obtain ⟨j, rfl, g2⟩ := AV.jR g1
  obtain ⟨ao, hj, g3⟩ := jO g2
  obtain ⟨is, rfl, g4⟩ := AO.jI g3
  have hK := C6 g4 hP
  obtain ⟨t, rfl⟩ := r1
  obtain ⟨b, hb, rfl⟩ := r2
  refine SeqAt.notIn_list_reads (O5 S hj rfl hb) (Reads.int _ t) (P5 _).1 rfl (by rw [(P5 _).2]; simp; lia) ?_
  rw [q2b]
  exact Po _ _ _ _ _ hK .refl S rfl
 | _ => exact noO h
noncomputable def q5Q (i : Nat) (sto : Sto) (K : KA1) : Option Prop := onO none sto i fun ao => AO.casesOn ao (fun _ => none) (fun _ => none) (fun _ => none) (fun _ => none)
 (fun p q k => sel (decide (k = 1)) (some (Builtin.Range.small p q 1 = true ∧ (0 ≤ q - p ∧ q - p ≤ 16777216) ∧ K (.ref sto.length) (sto ++ [.lsI ((List.range (q - p).toNat).map fun n : Nat => p + (n : Int))]))) none)
 (fun is => some (is.length ≤ sizeLine ∧ K (.ref sto.length) (sto ++ [.lsS is]))) (fun is => some (is.length ≤ sizeLine ∧ K (.ref sto.length) (sto ++ [.lsI is]))) (fun _ => none) (fun _ _ => none) (fun _ => none) none
theorem P6 {p q : Int} (h : 0 ≤ q - p) : Builtin.Range.rangeSize p q 1 = ((q - p).toNat : Int) := by
 unfold Builtin.Range.rangeSize
 split <;> simp <;> lia
theorem q4e {α : List Addr} {p : Int} {n : Nat} {acc : Array Value} (h : ItemsOf (fun i v => ∃ t, v = .int (p + (i : Int) * 1) t) acc n) : VRs α (((List.range n).map fun k : Nat => p + (k : Int)).map AV.int) acc.toList := by
 obtain ⟨h1, h2⟩ := h
 have key : ∀ (vs : List Value) (f : Nat → Int), (∀ (j : Nat) (v : Value), vs[j]? = some v → ∃ t, v = Value.int (f j) t) → VRs α (((List.range vs.length).map f).map AV.int) vs := by
  intro vs
  induction vs with
  | nil => intro f _; trivial
  | cons v vs ih =>
   intro f hf
   rw [v0U, List.range_succ_eq_map]
   refine ⟨hf 0 v rfl, ?_⟩
   rw [v0W (g := f)]
   exact ih (f ∘ Nat.succ) fun j w hj => hf (j + 1) w hj
 have := key acc.toList (fun k => p + (k : Int)) fun j v hj => by
  obtain ⟨t, e⟩ := h2 j v (by simpa using hj)
  exact ⟨t, by rw [e, Int.mul_one]⟩
 rwa [v0D, h1] at this
theorem q4W {i : Nat} {P : Prop} (h : q5Q i sto K = some P) (hP : P) : CallS x (.type "list") [.ref i] [] loc sto K := by
 intro c α s vs ks Q E O S rv rk Po
 obtain rfl := rk.nil
 obtain ⟨v, rfl, a, ha, rfl⟩ := rv.one
 have last : ∀ {D : Addr}, (α ++ [D])[sto.length]? = some D := fun {D} => by
  rw [← S.hs.len, v0d (v0h _), v0q]; rfl
 have copy : ∀ {ao ao' : AO} {xs : List AV}, sto[i]? = some ao → ao.items = some xs → ao'.items = some xs → xs.length ≤ sizeLine → K (.ref sto.length) (sto ++ [ao']) → wpAny (model pw x.w) c.A (call (.type "list") [.ref a]) Q E s := by
  intro ao ao' xs hx he he' hz hK
  obtain ⟨o, vs, n, h1, h2, h3, h4, h5, h6, h7⟩ := S.list hx he ha
  refine call_list_seq a (.inl rfl) h1 h2 h4 (fun h' c' hk hn => ?_) (by rw [h7]; exact hz)
  have S' := S.heapK (n := s.toks) hk
  exact Po _ _ _ _ _ hK .push (S'.addObj S.fresh.1 S.fresh.2.1 S.fresh.2.2 hn (ao := ao') (OR.of ⟨rfl, ⟨rfl, rfl⟩, _, _, rfl, h5⟩ he')) ⟨_, last, rfl⟩
 obtain ⟨ao, hx, g⟩ := jO h
 cases ao with
 | lsI is => have hK := C6 g hP; exact copy hx rfl rfl (by rw [v0I]; exact hK.1) hK.2
 | lsS is => have hK := C6 g hP; exact copy hx rfl rfl (by rw [v0I]; exact hK.1) hK.2
 | rng p q k =>
  rcases E9 g with ⟨hk, g⟩ | g
  ·obtain ⟨h1, ⟨h2, h3⟩, hK⟩ := C6 g hP
   obtain ⟨ob, g2, t, u, v, rfl⟩ := S.objAt ha hx
   rw [of_decide_eq_true hk] at g2
   refine call_list_range O.hh g2 h1 (P6 h2) (by lia) fun h' tk acc' c' hk hn hit => ?_
   have S' := S.heapK (n := tk) hk
   exact Po _ _ _ _ _ hK .push (S'.addObj S.fresh.1 S.fresh.2.1 S.fresh.2.2 hn (ao := .lsI _) ⟨rfl, ⟨rfl, rfl⟩, _, _, rfl, q4e hit⟩) ⟨_, last, rfl⟩
  ·exact noO g
 | _ => exact noO g
noncomputable def q5R (f : Value) (as : List AV) (kws : List (Str × AV)) (sto : Sto) (K : KA1) : Option Prop := onV none f (fun _ => none) (fun T => U4 none kws (sel (decide (T = "list")) (U3 none as fun a => a.onR none fun i => q5Q i sto K) none)) fun _ => none
theorem q4X {f : Value} {as : List AV} {kws : List (Str × AV)} {P : Prop} (h : q5R f as kws sto K = some P) (hP : P) : B7 x f ∧ CallS x f as kws loc sto K := by
 obtain ⟨T, rfl, g1⟩ := jT h
 obtain ⟨rfl, g2⟩ := jK g1
 rcases G4 g2 with ⟨rfl, g3⟩ | g3
 ·obtain ⟨a, rfl, g4⟩ := j1 g3
  obtain ⟨i, rfl, g5⟩ := AV.jR g4
  exact ⟨M9 x _, q4W g5 hP⟩
 ·exact noO g3
noncomputable def XL : XT := { X0 with cmp := cmpL, call := q5R }
theorem Y9 (x : SX) : P1 x XL :=
 { q5z x with
  cmp := fun o a b loc sto K P h hP => q7y h hP
  call := fun f as kws loc sto K P h hP => q4X h hP }
end
end
section
variable {x : SX} {loc : Loc} {sto : Sto} {K : AV → Sto → Prop}
def V0 (rows : List (List Nat)) : Prop := (∀ r ∈ rows, r.length ≤ 1000 ∧ 39 ∉ r) ∧ (C5 rows).length ≤ 100000 ∧ rows.length ≤ 1000
def q2E (as : List AV) (sto : Sto) (K : KA1) : Prop := U3 False as fun a => a.onR False fun i => atJ sto 0 (atS sto i fun rows => V0 rows ∧ K (.str (C5 rows)) sto)
theorem cLine (hr : x.fr = true) (hd : 8 ≤ x.d) {as : List AV} (h : q2E as sto K) : CallS x (.ref 867) as [] loc sto K := by
 ·obtain ⟨a, rfl, g1⟩ := is1 h
  obtain ⟨i, rfl, g2⟩ := AV.isR g1
  ·obtain ⟨h0, g3⟩ := q2p g2
   ·obtain ⟨rows, hx, h⟩ := n4 g3
    obtain ⟨⟨h1, h2, h3⟩, hK⟩ := h
    have hi : i ≠ 0 := fun q => by rw [q, h0] at hx; cases hx
    refine CallS.liftJ (as₀ := [.ref 1]) (sto₀ := [.jtab, .lsS rows]) (K₀ := fun v s₁ => v = .str (C5 rows) ∧ s₁ = [.jtab, .lsS rows]) [0, i] (fun loc₀ => (q9y (x := I2 x) hr hd h1 h2 h3 ⟨rfl, rfl⟩).call) rfl (by simp; exact fun q => hi q.symm) (fun k j hk => ?_) (fun o ho => ?_) (fun a ha => ?_) rfl fun v s₁ hv => ?_
    ·match k with
     | 0 => cases hk; exact h0
     | 1 => cases hk; exact hx
     | k + 2 => simp at hk
    ·first | exact A7 (by rfl') _ ho | exact B9 (by rfl') _ ho | exact flJ rfl (by rfl') _ ho | exact C7 (by rfl') _ ho
    ·cases v0c.mp ha
     exact Nat.one_lt_two
    ·obtain ⟨rfl, rfl⟩ := hv
     refine ⟨[.jtab, .lsS rows], [], rfl, rfl, (fun o ho => ?_), .inl ⟨trivial, ?_⟩⟩
     ·first | exact A7 (by rfl') _ ho | exact B9 (by rfl') _ ho | exact flJ rfl (by rfl') _ ho | exact C7 (by rfl') _ ho
     ·show K _ ((sto.set 0 .jtab).set i (.lsS rows))
      rw [E8 h0, E8 hx]; exact hK
noncomputable def DR : DT := dP 867 q2E (dP 836 q3D D0)
theorem DR_ok (hr : x.fr = true) (hd : 8 ≤ x.d) : DOk x DR := D9 (fun as loc sto K h => cLine hr hd h) (fn867.keep x) (D9 (fun as loc sto K h => q8y (by lia) h) (H5 x (by rfl')) (A9 _))
theorem fn879 : FnOk 879 k879 (A0 56) := by constructor <;> rfl'
noncomputable def lRm (room total : Int) : Loc := [(S "rows", .ref 1), (S "room", .int room), (S "narrow", .ref 2), (S "total", .int total)]
noncomputable def sRm (rows : List (List Nat)) (narrow : List Int) : Sto := [.jtab, .lsS rows, .lsI narrow]
theorem q9B (hr : x.fr = true) (hd : 9 ≤ x.d) {rows : List (List Nat)} {narrow : List Int} {room total : Int} (hl : V0 rows) (hz : ((C5 rows).length : Int) = total + 11 * rows.length - 1) (hn : narrow.length ≤ 100) (hm : ∀ k : Nat, k < narrow.length → (((k : Int) + 1 < rows.length) ↔ room < narrow.getD k 0))
  (h : K (.bool true) (sRm rows narrow)) : CodeS x (.ref 879) [.ref 1, .int room, .ref 2, .int total] [] loc (sRm rows narrow) K := by
 refine D5 fn879 (loc₀ := lRm room total) (fun α vs ks r rk => ?_) (by rfl') (show List.Nodup [S "rows", S "room", S "narrow", S "total"] from by decide +kernel) (by lia) ?_
 ··obtain ⟨v1, us, rfl, r1, rr⟩ := VRs.cons r
   obtain ⟨v2, v3, v4, rfl, r2, r3, r4⟩ := rr.three
   obtain rfl := rk.nil
   exact ⟨[(S "rows", v1), (S "room", v2), (S "narrow", v3), (S "total", v4)], fun Se => by rfl', rfl, r1, rfl, r2, rfl, r3, rfl, r4, trivial⟩
 ·have TO := D6 (x := inY x (A0 56)) (DR_ok (x := inY x (A0 56)) hr (by show 8 ≤ x.d - 1; lia))
  refine XSs.mid (pre := (fdB (A0 56)).take 1) (st := H6 (nth (fdB (A0 56)) 1)) (post := (fdB (A0 56)).drop 2) (by rfl') (A1 TO 40 _ _ _ _ ?_)
  have e1 : ∀ KK : KF, xw (inY x (A0 56)) (B6 DR) 40 ((fdB (A0 56)).take 1) (lRm room total) (sRm rows narrow) KK =
    (V0 rows ∧ (C5 rows).length ≤ sizeLine ∧ rows.length ≤ sizeLine ∧ IntMulOk 11 (rows.length : Int) ∧ cnd (((C5 rows).length : Int) != total + 11 * (rows.length : Int) - 1) (KK (.ret (.bool false)) (lRm room total) (sRm rows narrow)) (KK .next (lRm room total) (sRm rows narrow))) := fun KK => by rfl'
  rw [e1]
  obtain ⟨l1, l2, l3⟩ := id hl
  refine ⟨hl, sz (by lia), sz (by lia), ?_, ?_⟩
  ·exact IntMulOk.of_left (by decide +kernel)
  rw [show (((C5 rows).length : Int) != total + 11 * (rows.length : Int) - 1) = false from by rw [hz]; simp]
  show XS _ _ _ _ _
  refine XS.for_ (by rfl') (F5 (by rfl')) (A4 TO 40 false _ _ _ _ ?_)
  have e2 : ∀ KK : KA1, ew (inY x (A0 56)) (B6 DR) 40 false (Q0 (nth (fdB (A0 56)) 1)) (lRm room total) (sRm rows narrow) KK = (narrow.length ≤ sizeLine ∧ KK (.ref 3) [.jtab, .lsS rows, .lsI narrow, .rng 0 (narrow.length : Int) 1]) := fun KK => by rfl'
  rw [e2]
  have hsm : Builtin.Range.small 0 (narrow.length : Int) 1 = true := small_one (by decide) (by decide) (by lia) (by lia)
  refine ⟨sz (by lia), narrow.length, _, _, .range rfl hsm (by rw [P6 (by lia)]; lia), fun o => ⟨fun i l s => l = lRm room total ∧ s = [.jtab, .lsS rows, .lsI narrow, .rng 0 (narrow.length : Int) 1], fun i l s _ p hp => (by cases hp), ⟨rfl, rfl⟩, ?_, ?_⟩⟩
  ·rintro i l s o' hi hl' ⟨rfl, rfl⟩
   refine A1 TO 40 _ _ _ _ ?_
   rw [Int.zero_add]
   have hgd : narrow.getD (ix (i : Int) narrow.length) 0 = narrow.getD i 0 := by
    have : idx (i : Int) narrow.length = some i := by unfold idx; rw [if_pos (by lia), if_pos (by lia)]; rfl
    unfold ix; rw [this]; rfl
   have hok : okIx (i : Int) narrow.length := ⟨sz (by lia), by unfold idx; rw [if_pos (by lia), if_pos (by lia)]; rfl⟩
   have hmi := hm i hi
   generalize hk : (i : Int) = k at *
   have e3 : ∀ KK : KF, xw (inY x (A0 56)) (B6 DR) 40 (G2 (nth (fdB (A0 56)) 1)) (up (lRm room total) (E7 (nth (fdB (A0 56)) 1)) (.int k)) [.jtab, .lsS rows, .lsI narrow, .rng 0 (narrow.length : Int) 1, .raw o'] KK =
     (rows.length ≤ sizeLine ∧ okIx k narrow.length ∧ cnd ((b2i (decide (k + 1 < (rows.length : Int))) - b2i (decide ((rows.length : Int) < k + 1)) == 1) != (b2i (decide (narrow.getD (ix k narrow.length) 0 < room)) - b2i (decide (room < narrow.getD (ix k narrow.length) 0)) == -1))
      (KK (.ret (.bool false)) (up (up (up (lRm room total) (E7 (nth (fdB (A0 56)) 1)) (.int k)) (S "more") (.bool (b2i (decide (k + 1 < (rows.length : Int))) - b2i (decide ((rows.length : Int) < k + 1)) == 1))) (S "less") (.bool (b2i (decide (narrow.getD (ix k narrow.length) 0 < room)) - b2i (decide (room < narrow.getD (ix k narrow.length) 0)) == -1))) [.jtab, .lsS rows, .lsI narrow, .rng 0 (narrow.length : Int) 1, .raw o'])
      (KK .next (up (up (up (lRm room total) (E7 (nth (fdB (A0 56)) 1)) (.int k)) (S "more") (.bool (b2i (decide (k + 1 < (rows.length : Int))) - b2i (decide ((rows.length : Int) < k + 1)) == 1))) (S "less") (.bool (b2i (decide (narrow.getD (ix k narrow.length) 0 < room)) - b2i (decide (room < narrow.getD (ix k narrow.length) 0)) == -1))) [.jtab, .lsS rows, .lsI narrow, .rng 0 (narrow.length : Int) 1, .raw o'])) := fun KK => by rfl'
   show xw (inY x (A0 56)) (B6 DR) 40 (G2 (nth (fdB (A0 56)) 1)) (up (lRm room total) (E7 (nth (fdB (A0 56)) 1)) (.int k)) [.jtab, .lsS rows, .lsI narrow, .rng 0 (narrow.length : Int) 1, .raw o'] _
   rw [e3, hgd]
   refine ⟨sz (by lia), hok, ?_⟩
   generalize narrow.getD i 0 = w at hmi ⊢
   have hb : ((b2i (decide (k + 1 < (rows.length : Int))) - b2i (decide ((rows.length : Int) < k + 1)) == 1) != (b2i (decide (w < room)) - b2i (decide (room < w)) == -1)) = false := by
    have g1 : (b2i (decide (k + 1 < (rows.length : Int))) - b2i (decide ((rows.length : Int) < k + 1)) == 1) = decide (k + 1 < (rows.length : Int)) := by
     by_cases q1 : k + 1 < (rows.length : Int) <;> by_cases q2 : (rows.length : Int) < k + 1 <;> simp [b2i, q1, q2] <;> lia
    have g2 : (b2i (decide (w < room)) - b2i (decide (room < w)) == -1) = decide (room < w) := by
     by_cases q1 : w < room <;> by_cases q2 : room < w <;> simp [b2i, q1, q2] <;> lia
    rw [g1, g2]
    by_cases q : room < w
    ·rw [decide_eq_true q, decide_eq_true (hmi.mpr q)]; rfl
    ·rw [decide_eq_false q, decide_eq_false fun z => q (hmi.mp z)]; rfl
   rw [hb]
   refine ⟨lRm room total, [.jtab, .lsS rows, .lsI narrow, .rng 0 (narrow.length : Int) 1], [], fun y v hy => ?_, rfl, rfl, fun q hq => ?_, fun q hq => ?_, rfl, rfl⟩
   ·exact O0 (by rfl') y v (show (up (up (lRm room total) (E7 (nth (fdB (A0 56)) 1)) (.int k)) (S "more") _).lookup y = some v from O0 (by rfl') y v (O0 (by rfl') y v hy))
   ·first | exact A7 (by rfl') _ hq | exact B9 (by rfl') _ hq | exact flJ rfl (by rfl') _ hq | exact C7 (by rfl') _ hq
   ·first | exact A7 (by rfl') _ hq | exact B9 (by rfl') _ hq | exact flJ rfl (by rfl') _ hq | exact C7 (by rfl') _ hq
  ·rintro l s hl' ⟨rfl, rfl⟩
   refine A1 TO 40 _ _ _ _ ?_
   have e4 : ∀ KK : KF, xw (inY x (A0 56)) (B6 DR) 40 ((fdB (A0 56)).drop 2) (lRm room total) [.jtab, .lsS rows, .lsI narrow, .rng 0 (narrow.length : Int) 1] KK = KK (.ret (.bool true)) (lRm room total) [.jtab, .lsS rows, .lsI narrow, .rng 0 (narrow.length : Int) 1] := fun KK => by rfl'
   show xw (inY x (A0 56)) (B6 DR) 40 ((fdB (A0 56)).drop 2) (lRm room total) [.jtab, .lsS rows, .lsI narrow, .rng 0 (narrow.length : Int) 1] _
   rw [e4]
   refine .inl ⟨sRm rows narrow, [.rng 0 (narrow.length : Int) 1], rfl, rfl, trivial, fun q hq => ?_, h⟩
   first | exact A7 (by rfl') _ hq | exact B9 (by rfl') _ hq | exact flJ rfl (by rfl') _ hq | exact C7 (by rfl') _ hq
def n9 (rows : List (List Nat)) (narrow : List Int) (room total : Int) : Prop := V0 rows ∧ ((C5 rows).length : Int) = total + 11 * rows.length - 1 ∧ narrow.length ≤ 100 ∧ ∀ k : Nat, k < narrow.length → (((k : Int) + 1 < rows.length) ↔ room < narrow.getD k 0)
def q5S (as : List AV) (sto : Sto) (K : KA1) : Prop := arg4 as fun a b d e => a.onR False fun i => b.onI False fun room => d.onR False fun j => e.onI False fun total => atJ sto 0 (atS sto i fun rows => atI sto j fun narrow => n9 rows narrow room total ∧ K (.bool true) sto)
theorem cRoom (hr : x.fr = true) (hd : 9 ≤ x.d) {as : List AV} (h : q5S as sto K) : CallS x (.ref 879) as [] loc sto K := by
 ·obtain ⟨a, b, d, e, rfl, g1⟩ := is4 h
  obtain ⟨i, rfl, g2⟩ := AV.isR g1
  obtain ⟨room, rfl, g3⟩ := AV.isI g2
  obtain ⟨j, rfl, g4⟩ := AV.isR g3
  obtain ⟨total, rfl, g5⟩ := AV.isI g4
  ·obtain ⟨h0, g6⟩ := q2p g5
   ·obtain ⟨rows, hx, g7⟩ := n4 g6
    ·obtain ⟨narrow, hy, h⟩ := q5B g7
     obtain ⟨⟨h1, h2, h3, h4⟩, hK⟩ := h
     have hi : 0 ≠ i := fun q => by rw [← q, h0] at hx; cases hx
     have hj : 0 ≠ j := fun q => by rw [← q, h0] at hy; cases hy
     have hij : i ≠ j := fun q => by rw [q, hy] at hx; cases hx
     refine CallS.liftJ (as₀ := [.ref 1, .int room, .ref 2, .int total]) (sto₀ := sRm rows narrow) (K₀ := fun v s₁ => v = .bool true ∧ s₁ = sRm rows narrow) [0, i, j] (fun loc₀ => (q9B (x := I2 x) hr hd h1 h2 h3 h4 ⟨rfl, rfl⟩).call) rfl (by simp; exact ⟨⟨hi, hj⟩, hij⟩) (fun k l hk => ?_) (fun o ho => ?_) (fun a ha => ?_) rfl fun v s₁ hv => ?_
     ·match k with
      | 0 => cases hk; exact h0
      | 1 => cases hk; exact hx
      | 2 => cases hk; exact hy
      | k + 3 => simp at hk
     ·first | exact A7 (by rfl') _ ho | exact B9 (by rfl') _ ho | exact flJ rfl (by rfl') _ ho | exact C7 (by rfl') _ ho
     ·first | exact A7 (by rfl') _ ha | exact B9 (by rfl') _ ha | exact flJ rfl (by rfl') _ ha | exact C7 (by rfl') _ ha
     ·obtain ⟨rfl, rfl⟩ := hv
      refine ⟨sRm rows narrow, [], by simp, rfl, (fun o ho => ?_), .inl ⟨trivial, ?_⟩⟩
      ·first | exact A7 (by rfl') _ ho | exact B9 (by rfl') _ ho | exact flJ rfl (by rfl') _ ho | exact C7 (by rfl') _ ho
      ·show K _ (((sto.set 0 .jtab).set i (.lsS rows)).set j (.lsI narrow))
       rw [E8 h0, E8 hx, E8 hy]; exact hK
noncomputable def DC : DT := dP 862 s8 (dP 879 q5S D0)
theorem DC_ok (hr : x.fr = true) (hd : 9 ≤ x.d) : DOk x DC := D9 (fun as loc sto K h => q1T (by lia) h) (H5 x (by rfl')) (D9 (fun as loc sto K h => cRoom hr hd h) (fn879.keep x) (A9 _))
theorem fn886 : FnOk 886 k886 (A0 57) := by constructor <;> rfl'
noncomputable def lCn (total : Int) : Loc := [(S "pieces", .ref 1), (S "narrow", .ref 2), (S "total", .int total)]
noncomputable def V1 (total : Int) : Loc := [(S "pieces", .ref 1), (S "narrow", .ref 2), (S "total", .int total), (S "counts", .ref 3)]
noncomputable def sCn (ps : List (List Nat)) (narrow : List Int) : Sto := [.jtab, .lsS ps, .lsI narrow]
noncomputable def G0 (ps : List (List Nat)) (n : Nat) : List Int := (List.range n).map fun room : Nat => ((B5 ps (room : Int)).length : Int)
theorem q4f (ps : List (List Nat)) (n : Nat) : G0 ps (n + 1) = G0 ps n ++ [((B5 ps (n : Int)).length : Int)] := by
 unfold G0; rw [v0N, v0M]; rfl
theorem q4Y (hr : x.fr = true) (hd : 10 ≤ x.d) {ps : List (List Nat)} {narrow : List Int} {T : Nat} (hT : T ≤ 1000) (h1 : ps.length ≤ 100) (h2 : B1 ps ≤ 500) (hrm : ∀ room : Nat, room < T + 1 → n9 (B5 ps (room : Int)) narrow (room : Int) (T : Int))
  (h : K (.ref 3) [.jtab, .lsS ps, .lsI narrow, .lsI (G0 ps (T + 1))]) : CodeS x (.ref 886) [.ref 1, .ref 2, .int (T : Int)] [] loc (sCn ps narrow) K := by
 generalize htt : (T : Int) = tt at *
 refine D5 fn886 (loc₀ := lCn tt) (fun α vs ks r rk => ?_) (by rfl') (show List.Nodup [S "pieces", S "narrow", S "total"] from by decide +kernel) (by lia) ?_
 ·obtain ⟨v1, v2, v3, rfl, r1, r2, r3⟩ := r.three
  obtain rfl := rk.nil
  exact ⟨[(S "pieces", v1), (S "narrow", v2), (S "total", v3)], fun Se => by rfl', rfl, r1, rfl, r2, rfl, r3, trivial⟩
 ·have TO := D6 (x := inY x (A0 57)) (DC_ok (x := inY x (A0 57)) hr (by show 9 ≤ x.d - 1; lia))
  refine XSs.mid (pre := (fdB (A0 57)).take 1) (st := H6 (nth (fdB (A0 57)) 1)) (post := (fdB (A0 57)).drop 2) (by rfl') (A1 TO 40 _ _ _ _ ?_)
  have e1 : ∀ KK : KF, xw (inY x (A0 57)) (B6 DC) 40 ((fdB (A0 57)).take 1) (lCn tt) (sCn ps narrow) KK = (0 ≤ sizeLine ∧ KK .next (V1 tt) [.jtab, .lsS ps, .lsI narrow, .lst []]) := fun KK => by rfl'
  rw [e1]
  refine ⟨sz (by lia), SS.conv (i := 3) (.lsI []) rfl (fun α ob h => h) ?_⟩
  show XS (inY x (A0 57)) (H6 (nth (fdB (A0 57)) 1)) (V1 tt) [.jtab, .lsS ps, .lsI narrow, .lsI []] _
  refine XS.for_ (by rfl') (F5 (by rfl')) (A4 TO 40 false _ _ _ _ ?_)
  have e2 : ∀ KK : KA1, ew (inY x (A0 57)) (B6 DC) 40 false (Q0 (nth (fdB (A0 57)) 1)) (V1 tt) [.jtab, .lsS ps, .lsI narrow, .lsI []] KK = KK (.ref 4) [.jtab, .lsS ps, .lsI narrow, .lsI [], .rng 0 (tt + 1) 1] := fun KK => by rfl'
  rw [e2]
  refine ⟨T + 1, _, _, .range rfl (small_one (by decide) (by decide) (by lia) (by lia)) (by rw [P6 (by lia)]; lia), fun o => ⟨fun i l s => l = V1 tt ∧ s = [.jtab, .lsS ps, .lsI narrow, .lsI (G0 ps i), .rng 0 (tt + 1) 1], fun i l s _ p hp => (by cases hp), ⟨rfl, rfl⟩, ?_, ?_⟩⟩
  ·rintro i l s o' hi hl' ⟨rfl, rfl⟩
   refine A1 TO 40 _ _ _ _ ?_
   rw [Int.zero_add]
   have hc : (G0 ps i).length ≤ 2000 := by unfold G0; simp; lia
   have hrm := hrm i hi
   have hsn := q4f ps i
   have hpk := Y3 ps (i : Int)
   generalize hk : (i : Int) = k at *
   generalize G0 ps i = cs at *
   have e3 : ∀ KK : KF, xw (inY x (A0 57)) (B6 DC) 40 (G2 (nth (fdB (A0 57)) 1)) (up (V1 tt) (E7 (nth (fdB (A0 57)) 1)) (.int k)) [.jtab, .lsS ps, .lsI narrow, .lsI cs, .rng 0 (tt + 1) 1, .raw o'] KK =
     ((ps.length ≤ 100 ∧ B1 ps ≤ 500) ∧ n9 (B5 ps k) narrow k tt ∧ (B5 ps k).length ≤ sizeLine ∧ cs.length ≤ sizeLine ∧ KK .next (up (up (V1 tt) (E7 (nth (fdB (A0 57)) 1)) (.int k)) (S "rows") (.ref 6)) [.jtab, .lsS ps, .lsI narrow, .lsI (cs ++ [((B5 ps k).length : Int)]), .rng 0 (tt + 1) 1, .raw o', .lsS (B5 ps k)]) := fun KK => by rfl'
   show xw (inY x (A0 57)) (B6 DC) 40 (G2 (nth (fdB (A0 57)) 1)) (up (V1 tt) (E7 (nth (fdB (A0 57)) 1)) (.int k)) [.jtab, .lsS ps, .lsI narrow, .lsI cs, .rng 0 (tt + 1) 1, .raw o'] _
   rw [e3]
   refine ⟨⟨h1, h2⟩, hrm, sz (by lia), sz (by lia), ?_⟩
   refine ⟨V1 tt, [.jtab, .lsS ps, .lsI narrow, .lsI (cs ++ [((B5 ps k).length : Int)]), .rng 0 (tt + 1) 1], [.lsS (B5 ps k)], fun y v hy => ?_, rfl, rfl, fun q hq => ?_, fun q hq => ?_, rfl, by rw [hsn]⟩
   ·exact O0 (by rfl') y v (O0 (by rfl') y v hy)
   ·first | exact A7 (by rfl') _ hq | exact B9 (by rfl') _ hq | exact flJ rfl (by rfl') _ hq | exact C7 (by rfl') _ hq
   ·first | exact A7 (by rfl') _ hq | exact B9 (by rfl') _ hq | exact flJ rfl (by rfl') _ hq | exact C7 (by rfl') _ hq
  ·rintro l s hl' ⟨rfl, rfl⟩
   refine A1 TO 40 _ _ _ _ ?_
   generalize G0 ps (T + 1) = cs at *
   have e4 : ∀ KK : KF, xw (inY x (A0 57)) (B6 DC) 40 ((fdB (A0 57)).drop 2) (V1 tt) [.jtab, .lsS ps, .lsI narrow, .lsI cs, .rng 0 (tt + 1) 1] KK = KK (.ret (.ref 3)) (V1 tt) [.jtab, .lsS ps, .lsI narrow, .lsI cs, .rng 0 (tt + 1) 1] := fun KK => by rfl'
   show xw (inY x (A0 57)) (B6 DC) 40 ((fdB (A0 57)).drop 2) (V1 tt) [.jtab, .lsS ps, .lsI narrow, .lsI cs, .rng 0 (tt + 1) 1] _
   rw [e4]
   refine .inr (.inl ⟨sCn ps narrow, [.lsI cs, .rng 0 (tt + 1) 1], 3, .lsI cs, rfl, rfl, rfl, v0h _, rfl, trivial, fun q hq => ?_, h⟩)
   first | exact A7 (by rfl') _ hq | exact B9 (by rfl') _ hq | exact flJ rfl (by rfl') _ hq | exact C7 (by rfl') _ hq
def j6 (ps : List (List Nat)) (narrow : List Int) (T : Nat) : Prop := T ≤ 1000 ∧ ps.length ≤ 100 ∧ B1 ps ≤ 500 ∧ ∀ room : Nat, room < T + 1 → n9 (B5 ps (room : Int)) narrow (room : Int) (T : Int)
def q2c (as : List AV) (sto : Sto) (K : KA1) : Prop := arg3 as fun a b d => a.onR False fun i => b.onR False fun j => d.onI False fun total => atJ sto 0 (atS sto i fun ps => atI sto j fun narrow => (total = (total.toNat : Int) ∧ j6 ps narrow total.toNat) ∧ K (.ref sto.length) (sto ++ [.lsI (G0 ps (total.toNat + 1))]))
theorem q7z (hr : x.fr = true) (hd : 10 ≤ x.d) {as : List AV} (h : q2c as sto K) : CallS x (.ref 886) as [] loc sto K := by
 ·obtain ⟨a, b, d, rfl, g1⟩ := is3 h
  obtain ⟨i, rfl, g2⟩ := AV.isR g1
  obtain ⟨j, rfl, g3⟩ := AV.isR g2
  obtain ⟨total, rfl, g5⟩ := AV.isI g3
  ·obtain ⟨h0, g6⟩ := q2p g5
   ·obtain ⟨ps, hx, g7⟩ := n4 g6
    ·obtain ⟨narrow, hy, h⟩ := q5B g7
     obtain ⟨⟨ht, h1, h2, h3, h4⟩, hK⟩ := h
     have hi : 0 ≠ i := fun q => by rw [← q, h0] at hx; cases hx
     have hj : 0 ≠ j := fun q => by rw [← q, h0] at hy; cases hy
     have hij : i ≠ j := fun q => by rw [q, hy] at hx; cases hx
     refine CallS.liftJ (as₀ := [.ref 1, .ref 2, .int total]) (sto₀ := sCn ps narrow) (K₀ := fun v s₁ => v = .ref 3 ∧ s₁ = [.jtab, .lsS ps, .lsI narrow, .lsI (G0 ps (total.toNat + 1))]) [0, i, j] (fun loc₀ => ?_) rfl (by simp; exact ⟨⟨hi, hj⟩, hij⟩) (fun k l hk => ?_) (fun o ho => ?_) (fun a ha => ?_) rfl fun v s₁ hv => ?_
     ·have := q4Y (x := I2 x) (loc := loc₀) (K := fun v s₁ => v = .ref 3 ∧ s₁ = [.jtab, .lsS ps, .lsI narrow, .lsI (G0 ps (total.toNat + 1))]) hr hd h1 h2 h3 h4 ⟨rfl, rfl⟩
      rw [← ht] at this
      exact this.call
     ·match k with
      | 0 => cases hk; exact h0
      | 1 => cases hk; exact hx
      | 2 => cases hk; exact hy
      | k + 3 => simp at hk
     ·first | exact A7 (by rfl') _ ho | exact B9 (by rfl') _ ho | exact flJ rfl (by rfl') _ ho | exact C7 (by rfl') _ ho
     ·first | exact A7 (by rfl') _ ha | exact B9 (by rfl') _ ha | exact flJ rfl (by rfl') _ ha | exact C7 (by rfl') _ ha
     ·obtain ⟨rfl, rfl⟩ := hv
      refine ⟨sCn ps narrow, [.lsI (G0 ps (total.toNat + 1))], rfl, rfl, (fun o ho => ?_), .inr ⟨3, _, rfl, v0h _, rfl, trivial, ?_⟩⟩
      ·first | exact A7 (by rfl') _ ho | exact B9 (by rfl') _ ho | exact flJ rfl (by rfl') _ ho | exact C7 (by rfl') _ ho
      ·show K _ ((((sto.set 0 .jtab).set i (.lsS ps)).set j (.lsI narrow)) ++ _)
       rw [E8 h0, E8 hx, E8 hy]; exact hK
end
noncomputable def whB' (s : Stmt) : List Stmt := (sB s).1
noncomputable def whE (s : Stmt) : Expr := A6 (sK s) 0
noncomputable def d9 (s : Stmt) : List Stmt := (sB s).1
noncomputable def tryH (s : Stmt) : List ExceptHandler := dite _ (fun h => @Stmt.Try.elim (fun _ => List ExceptHandler) s h fun _ h _ _ _ => h) fun _ => []
noncomputable def u6 (s : Stmt) : List Stmt := (sB s).2
noncomputable def tryP (s : Stmt) : Pos := s.pos
noncomputable def ifA (s : Stmt) : List Stmt := (sB s).1
noncomputable def ifB (s : Stmt) : List Stmt := (sB s).2
noncomputable def ifP (s : Stmt) : Pos := s.pos
noncomputable def cnK (e : Expr) : Nat := eC e
noncomputable def cnP (e : Expr) : Pos := e.pos
noncomputable def hdB (l : List ExceptHandler) : List Stmt := l.casesOn [] fun h _ => @ExceptHandler.casesOn (fun _ => List Stmt) h fun _ _ b _ => b
noncomputable def hdP (l : List ExceptHandler) : Pos := l.casesOn ⟨0, 0, 0, 0⟩ fun h _ => @ExceptHandler.casesOn (fun _ => Pos) h fun _ _ _ p => p
noncomputable def hdNp (l : List ExceptHandler) : Pos := l.casesOn ⟨0, 0, 0, 0⟩ fun h _ => @ExceptHandler.casesOn (fun _ => Pos) h fun t _ _ _ => t.casesOn ⟨0, 0, 0, 0⟩ fun e => e.pos
noncomputable abbrev bS : List Stmt := fdB (A0 47)
noncomputable abbrev W₀ : Stmt := nth bS 3
noncomputable abbrev T₀ : Stmt := nth (whB' W₀) 0
noncomputable abbrev I₁ : Stmt := nth (d9 T₀) 2
noncomputable abbrev I₂ : Stmt := nth (ifB I₁) 0
noncomputable abbrev T₂ : Stmt := nth (ifB I₂) 1
noncomputable abbrev H₀ : List Stmt := hdB (tryH T₀)
noncomputable abbrev W₁ : Stmt := nth (ifA I₁) 2
noncomputable abbrev W₂ : Stmt := nth (d9 T₂) 0
noncomputable abbrev W₃ : Stmt := nth (u6 T₂) 1
theorem eW₀ : W₀ = .While (.Constant (.bool true) (cnK (whE W₀)) (cnP (whE W₀))) [T₀] [] (whP W₀) := by rfl'
theorem eT₀ : T₀ = .Try (d9 T₀) (.ExceptHandler (some (.Name (S "IndexError") (hdNp (tryH T₀)))) none (nth H₀ 0 :: H₀.drop 1) (hdP (tryH T₀)) :: []) [] [] (tryP T₀) := by rfl'
theorem eI₁ : I₁ = .If (ifT I₁) (ifA I₁) (ifB I₁) (ifP I₁) := by rfl'
theorem eI₂ : I₂ = .If (ifT I₂) (ifA I₂) (ifB I₂) (ifP I₂) := by rfl'
theorem eT₂ : T₂ = .Try [W₂] [] [] (nth (u6 T₂) 0 :: [W₃]) (tryP T₂) := by rfl'
theorem eW₁ : W₁ = .While (whE W₁) (whB' W₁) [] (whP W₁) := by rfl'
theorem eW₂ : W₂ = .While (whE W₂) (whB' W₂) [] (whP W₂) := by rfl'
theorem eW₃ : W₃ = .While (whE W₃) (whB' W₃) [] (whP W₃) := by rfl'
theorem fn829 : FnOk 829 k829 (A0 47) := by constructor <;> rfl'
section
variable {x : SX} {loc : Loc} {sto : Sto} {K : KF}
theorem XS.tryExc {body : List Stmt} {h₀ : ExceptHandler} {hs : List ExceptHandler} {pos : Pos} (h : XSs x body loc sto K) : XS x (.Try body (h₀ :: hs) [] [] pos) loc sto K := by
 intro c α s Q E O S P
 refine wpAny_Try_except (h c α s _ _ O S fun f l' s' α' t' fl hf ex S' r => ?_)
 have hq := P f l' s' α' t' fl hf ex S' r
 cases fl with
 | next => exact v1n hq
 | brk => exact hq
 | cont => exact hq
 | ret v => exact hq
theorem XS.tryFin {body : List Stmt} {f₀ : Stmt} {fs : List Stmt} {pos : Pos} (h : XSs x body loc sto fun f l s => f = .next ∧ XSs x (f₀ :: fs) l s K) : XS x (.Try body [] [] (f₀ :: fs) pos) loc sto K := by
 intro c α s Q E O S P
 refine wpAny_Try_finally (h c α s _ _ O S fun f l' s' α' t' fl hf ex S' r => ?_)
 obtain ⟨rfl, hf⟩ := hf
 obtain rfl : fl = .next := r
 refine v1n ?_
 refine hf c α' t' _ _ O S' fun g l2 s2 α2 t2 fl2 hg ex2 S2 r2 => ?_
 have hq := P g l2 s2 α2 t2 fl2 hg (ex.trans ex2) S2 r2
 cases fl2 with
 | next => exact hq
 | brk => exact hq
 | cont => exact hq
 | ret v => exact hq
end
noncomputable def pA (p : Nat → Bool) (n : Nat) : List Nat := (List.range n).filter p
noncomputable def pB (p : Nat → Bool) (n : Nat) : List Nat := (List.range n).filter fun k => !p k
noncomputable def toI (l : List Nat) : List Int := l.map fun k : Nat => (k : Int)
theorem u7 (p : Nat → Bool) (n : Nat) : pA p (n + 1) = pA p n ++ (if p n then [n] else []) := by
 unfold pA; rw [v0N, List.filter_append, v1c, List.filter_nil]
theorem u8 (p : Nat → Bool) (n : Nat) : pB p (n + 1) = pB p n ++ (if p n then [] else [n]) := by
 unfold pB; rw [v0N, List.filter_append, v1c, List.filter_nil]
 cases p n <;> rfl
theorem j7 (p : Nat → Bool) {i : Nat} : ∀ {m : Nat}, pA p (i + m) = pA p i ++ (List.range' i m).filter p := by
 intro m
 induction m with
 | zero => simp
 | succ m ih => rw [← Nat.add_assoc, u7, ih, List.range'_concat, List.filter_append, v0P]; simp [v1c]
theorem q5T {p : Nat → Bool} {i n : Nat} (h : i < n) (hp : p i = true) : (pA p i).length < (pA p n).length ∧ (pA p n).getD (pA p i).length 0 = i := by
 obtain ⟨m, rfl⟩ : ∃ m, n = i + (m + 1) := ⟨n - i - 1, by lia⟩
 rw [j7, List.range'_succ, v1c, if_pos hp]
 constructor
 ·simp
 ·rw [v0J, v0d (v0h _), v0q]; rfl
theorem q5U {p : Nat → Bool} {i n : Nat} (h : i < n) (hp : p i = false) (hl : p (n - 1) = true) : (pA p i).length < (pA p n).length ∧ i < (pA p n).getD (pA p i).length 0 := by
 obtain ⟨m, rfl⟩ : ∃ m, n = i + (m + 1) := ⟨n - i - 1, by lia⟩
 have hm : p (i + m) = true := hl
 rw [j7, List.range'_succ, v1c, if_neg (by rw [hp]; decide)]
 have hin : i + m ∈ (List.range' (i + 1) m).filter p := by
  refine List.mem_filter.mpr ⟨List.mem_range'_1.mpr ⟨?_, by lia⟩, hm⟩
  by_cases q : m = 0
  ·subst q; rw [Nat.add_zero, hp] at hm; cases hm
  ·lia
 cases hq : (List.range' (i + 1) m).filter p with
 | nil => rw [hq] at hin; cases hin
 | cons a r =>
  constructor
  ·simp
  ·rw [v0J, v0d (v0h _), v0q]
   have ha : a ∈ (List.range' (i + 1) m).filter p := by rw [hq]; exact v0x
   have := (List.mem_range'_1.mp (List.mem_filter.mp ha).1).1
   show i < a
   lia
theorem G7 (l : List Nat) : (toI l).length = l.length := v0I ..
theorem Z0 (l : List Nat) (i : Nat) : (toI l).getD i 0 = ((l.getD i 0 : Nat) : Int) := by
 unfold toI
 rw [v0J, v0J, v0L]
 cases l[i]? <;> rfl
theorem q2F (a b : List Nat) : toI (a ++ b) = toI a ++ toI b := v0M ..
theorem o0 {k n : Nat} (h : k < n) (hn : n ≤ 100000) : okIx (k : Int) n ∧ ix (k : Int) n = k := by
 have e : idx (k : Int) n = some k := by unfold idx; rw [if_pos (by lia), if_pos (by lia)]; rfl
 exact ⟨⟨sz (by lia), by rw [e]; rfl⟩, by unfold ix; rw [e]; rfl⟩
theorem o3 {i n : Nat} (h : i < n) : (List.range n).getD i 0 = i := by
 rw [v0J, List.getElem?_range h]; rfl
noncomputable def sS (O : Nat → AO) (es as ms us : List Int) : Sto := [O 0, O 1, O 2, O 3, O 4, O 5, .lsI es, O 7, O 8, .lsI as, .lsI ms, .lsI us]
noncomputable def lS0 (i j : Int) : Loc := [(S "expected", .ref 6), (S "actual", .ref 9), (S "i", .int i), (S "j", .int j), (S "missing", .ref 10), (S "unexpected", .ref 11)]
noncomputable def lS1 (i j e a : Int) : Loc := [(S "expected", .ref 6), (S "actual", .ref 9), (S "i", .int i), (S "j", .int j), (S "missing", .ref 10), (S "unexpected", .ref 11), (S "e", .int e), (S "a", .int a)]
noncomputable abbrev xS (x : SX) : SX := inY x (A0 47)
section
variable {x : SX} {O : Nat → AO} {es as ms us : List Int} {i j e a : Int}
theorem slPre (KK : KF) : xw (xS x) (B6 D0) 40 (bS.take 3) [(S "expected", .ref 6), (S "actual", .ref 9)] [O 0, O 1, O 2, O 3, O 4, O 5, .lsI es, O 7, O 8, .lsI as] KK = (0 ≤ sizeLine ∧ 0 ≤ sizeLine ∧ KK .next (lS0 0 0) [O 0, O 1, O 2, O 3, O 4, O 5, .lsI es, O 7, O 8, .lsI as, .lst [], .lst []]) := by rfl'
theorem slR (KK : KF) : xw (xS x) (B6 D0) 40 ((d9 T₀).take 2) (lS0 i j) (sS O es as ms us) KK = (okIx i es.length ∧ okIx j as.length ∧ KK .next (lS1 i j (es.getD (ix i es.length) 0) (as.getD (ix j as.length) 0)) (sS O es as ms us)) := by rfl'
theorem slT1 (KK : KA1) : ew (xS x) (B6 D0) 40 true (ifT I₁) (lS1 i j e a) (sS O es as ms us) KK = KK (.bool (decide (e < a))) (sS O es as ms us) := by rfl'
theorem slA1 (KK : KF) : xw (xS x) (B6 D0) 40 ((ifA I₁).take 2) (lS1 i j e a) (sS O es as ms us) KK = (ms.length ≤ sizeLine ∧ KK .next (lS1 (i + 1) j e a) (sS O es as (ms ++ [e]) us)) := by rfl'
theorem slW1 (KK : KA1) : ew (xS x) (B6 D0) 40 true (whE W₁) (lS1 i j e a) (sS O es as ms us) KK = (okIx i es.length ∧ KK (.bool (es.getD (ix i es.length) 0 == e)) (sS O es as ms us)) := by rfl'
theorem slT2 (KK : KA1) : ew (xS x) (B6 D0) 40 true (ifT I₂) (lS1 i j e a) (sS O es as ms us) KK = KK (.bool (decide (a < e))) (sS O es as ms us) := by rfl'
theorem slC (KK : KF) : xw (xS x) (B6 D0) 40 ((ifB I₂).take 1) (lS1 i j e a) (sS O es as ms us) KK = KK .next (lS1 (i + 1) j e a) (sS O es as ms us) := by rfl'
theorem slW2 (KK : KA1) : ew (xS x) (B6 D0) 40 true (whE W₂) (lS1 i j e a) (sS O es as ms us) KK = (okIx i es.length ∧ KK (.bool (es.getD (ix i es.length) 0 == e)) (sS O es as ms us)) := by rfl'
theorem slF (KK : KF) : xw (xS x) (B6 D0) 40 [nth (u6 T₂) 0] (lS1 i j e a) (sS O es as ms us) KK = KK .next (lS1 i (j + 1) e a) (sS O es as ms us) := by rfl'
theorem slW3 (KK : KA1) : ew (xS x) (B6 D0) 40 true (whE W₃) (lS1 i j e a) (sS O es as ms us) KK = (okIx j as.length ∧ KK (.bool (as.getD (ix j as.length) 0 == a)) (sS O es as ms us)) := by rfl'
theorem slRet (KK : KF) : xw (xS x) (B6 D0) 40 (bS.drop 4) (lS1 i j e a) (sS O es as ms us) KK = (2 ≤ sizeLine ∧ KK (.ret (.ref 12)) (lS1 i j e a) (sS O es as ms us ++ [.tup [.ref 10, .ref 11]])) := by rfl'
theorem slTB : d9 T₀ = (d9 T₀).take 2 ++ I₁ :: [] := by rfl'
theorem slAB : ifA I₁ = (ifA I₁).take 2 ++ W₁ :: [] := by rfl'
theorem slBB : ifB I₁ = [] ++ I₂ :: [] := by rfl'
theorem slCB : ifB I₂ = (ifB I₂).take 1 ++ T₂ :: [] := by rfl'
theorem q7A {K : KF} (h1 : okIx i es.length) (h2 : okIx j as.length) (he : es.getD (ix i es.length) 0 = e) (ha : as.getD (ix j as.length) 0 = a) (hlt : e < a) (hm : ms.length ≤ sizeLine) (h3 : okIx (i + 1) es.length) (h4 : (es.getD (ix (i + 1) es.length) 0 == e) = false)
  (h : K .next (lS1 (i + 1) j e a) (sS O es as (ms ++ [e]) us)) : XSs (xS x) [T₀] (lS0 i j) (sS O es as ms us) K := by
 have TO := D6 (x := xS x) (A9 _)
 refine XSs.cons ?_
 rw [eT₀]
 refine XS.tryExc (XSs.mid slTB (A1 TO 40 _ _ _ _ ?_))
 rw [slR, he, ha]
 refine ⟨h1, h2, ?_⟩
 show XS _ I₁ _ _ _
 rw [eI₁]
 refine XS.if_ (A4 TO 40 true _ _ _ _ ?_)
 rw [slT1, decide_eq_true hlt]
 refine XSs.mid slAB (A1 TO 40 _ _ _ _ ?_)
 rw [slA1]
 refine ⟨hm, ?_⟩
 show XS _ W₁ _ _ _
 rw [eW₁]
 refine XS.once (A4 TO 40 true _ _ _ _ ?_)
 rw [slW1, h4]
 exact ⟨h3, XSs.nil (XSs.nil (XSs.nil h))⟩
theorem q7B {K : KF} (h1 : okIx i es.length) (h2 : okIx j as.length) (he : es.getD (ix i es.length) 0 = e) (ha : as.getD (ix j as.length) 0 = e) (h3 : okIx (i + 1) es.length) (h4 : (es.getD (ix (i + 1) es.length) 0 == e) = false) (h5 : okIx (j + 1) as.length) (h6 : (as.getD (ix (j + 1) as.length) 0 == e) = false)
  (h : K .next (lS1 (i + 1) (j + 1) e e) (sS O es as ms us)) : XSs (xS x) [T₀] (lS0 i j) (sS O es as ms us) K := by
 have TO := D6 (x := xS x) (A9 _)
 refine XSs.cons ?_
 rw [eT₀]
 refine XS.tryExc (XSs.mid slTB (A1 TO 40 _ _ _ _ ?_))
 rw [slR, he, ha]
 refine ⟨h1, h2, ?_⟩
 show XS _ I₁ _ _ _
 rw [eI₁]
 refine XS.if_ (A4 TO 40 true _ _ _ _ ?_)
 rw [slT1, decide_eq_false (by lia)]
 refine XSs.mid slBB (XSs.nil ?_)
 show XS _ I₂ _ _ _
 rw [eI₂]
 refine XS.if_ (A4 TO 40 true _ _ _ _ ?_)
 rw [slT2, decide_eq_false (by lia)]
 refine XSs.mid slCB (A1 TO 40 _ _ _ _ ?_)
 rw [slC]
 show XS _ T₂ _ _ _
 rw [eT₂]
 refine XS.tryFin (XSs.cons ?_)
 rw [eW₂]
 refine XS.once (A4 TO 40 true _ _ _ _ ?_)
 rw [slW2, h4]
 refine ⟨h3, XSs.nil ⟨rfl, ?_⟩⟩
 refine XSs.mid (pre := [nth (u6 T₂) 0]) (st := W₃) (post := []) rfl (A1 TO 40 _ _ _ _ ?_)
 rw [slF]
 show XS _ W₃ _ _ _
 rw [eW₃]
 refine XS.once (A4 TO 40 true _ _ _ _ ?_)
 rw [slW3, h6]
 exact ⟨h5, XSs.nil (XSs.nil (XSs.nil (XSs.nil (XSs.nil h))))⟩
end
theorem z5 : plainId "proto.unchain" = true := by decide +kernel
theorem z6 : entryFor table "proto.unchain" = some Builtin.«proto.unchain» := entryFor_of_tree (by rfl')
section
variable {prog : Program} {w : World} {A : Around} {E : Value → Shared → Prop} {s : Shared}
def q0h (h h' : Heap) (e a : Addr) : Prop := (∀ b o, h.get? b = some o → h'.get? b = some o) ∧ h.get? e = none ∧ ∃ oe us, h'.get? e = some oe ∧ oe.cls = .type "IndexError" ∧ oe.data = .fields us ∧ us[1]? = some .none ∧ us[2]? = some (.ref a)
theorem q1w {α : Type} {Q : α → Shared → Prop} {a e : Addr} {oa oe : Obj} {vs us : Array Value} (hh : A.handled = some (.ref a)) (hne : a ≠ e) (ha : s.heap.get? a = some oa) (hd : oa.data = .fields vs) (h2 : vs[2]? = some .none) (he : s.heap.get? e = some oe) (hde : oe.data = .fields us) (hsz : 2 < us.size)
  (hE : E (.ref e) { s with heap := s.heap.update e (Obj.mapFields (·.setIfInBounds 2 (.ref a))) }) : wpAny (model prog w) A (raiseNew (.ref e) : Sem α) Q E s := by
 unfold raiseNew
 refine v1e (wpAny_handled ?_)
 rw [hh]
 have n1 : (Value.ref a != Value.ref e) = true := by simpa using hne
 show wpAny _ _ (if (Value.ref a != Value.ref e) = true then _ else _) _ _ _
 first | refine v1r (decide_eq_true n1) ?_ | rw [if_pos n1]
 refine v1e (v1g (wpAny_runValue (codeAny_builtin z6 ?_)))
 rw [Around.under_plainId z5]
 unfold Builtin.«proto.unchain»
 refine v1e (wpAny_field ha hd h2 ?_)
 first | refine v1r (decide_eq_true (by decide)) ?_ | rw [if_pos (by decide)]
 refine v1h ?_
 show wpAny _ _ (updateField e 2 (Value.ref a) >>= _) _ _ _
 refine v1e ?_
 show wpAny _ _ (setField (.ref e) 2 (Value.ref a)) _ _ _
 exact wpAny_setField he hde hsz (wpAny_throw hE)
theorem f0 {α : Type} {msg : String} {Q : α → Shared → Prop} {a : Addr} {oa : Obj} {vs : Array Value} (hh : A.handled = some (.ref a)) (ha : s.heap.get? a = some oa) (hd : oa.data = .fields vs) (h2 : vs[2]? = some .none)
  (hE : ∀ h' tk e, q0h s.heap h' e a → E (.ref e) { s with heap := h', toks := tk }) :
  wpAny (model prog w) A (raiseErrorWords "IndexError" msg : Sem α) Q E s := by
 unfold raiseErrorWords
 refine v1e (wpAny_mkText (v1e ?_))
 unfold newExc newTuple
 refine v1e (v1i ?_)
 refine v1e (m := firstArgMember _ _) (v1k (a := Value.none) (by simp only [firstArgMember, plainExc_IndexError.first]; rfl) ?_)
 rw [plainExc_IndexError.own]
 refine v1i ?_
 have hlt := v0a ha
 generalize ({ cls := .type "tuple", dict := none, data := .seq (_ : List Value).toArray } : Obj) = tp
 have hz : (s.heap.push tp).objs.size = s.heap.objs.size + 1 := v0E ..
 refine q1w (e := (s.heap.push tp).objs.size) hh (Nat.ne_of_lt (by rw [hz]; exact Nat.lt_succ_of_lt hlt)) (q9X _ (q9X _ ha)) hd h2 (v0e _ rfl) rfl (by simp) ?_
 dsimp only
 generalize hH : s.heap.push tp = H
 generalize hO : ({ cls := .type "IndexError", dict := none, data := .fields _ } : Obj) = ob
 have k1 : ∀ b o, s.heap.get? b = some o → H.get? b = some o := fun b o e => hH ▸ q9X _ e
 have n1 : s.heap.get? H.objs.size = none := v0g (by rw [← hH, v0E]; lia)
 have g1 : (H.push ob).get? H.objs.size = some ob := v0e _ (by rw [← hO]; rfl)
 have d1 := Obj.data_mapFields (o := ob) (by rw [← hO]) (fun x : Array Value => x.setIfInBounds 2 (.ref a))
 refine hE _ _ _ ⟨fun b o hb => ?_, n1, _, _, v0k _ g1 (Obj.isFreed_of_fields d1), ?_, d1, by simp, by simp⟩
 ·exact (Heap.get?_update_ne _ _ _ _ (fun q => by rw [q, n1] at hb; cases hb)).trans (q9X _ (k1 b o hb))
 ·rw [Obj.cls_mapFields, ← hO]
theorem q2G {l : Addr} {items : Array Value} {k : Int} {t : Tok} {Q : Value → Shared → Prop} {a : Addr} {oa : Obj} {vs : Array Value} (hh : A.handled = some (.ref a)) (ha : s.heap.get? a = some oa) (hd : oa.data = .fields vs) (h2 : vs[2]? = some .none) (hl : s.heap.IsList l items)
  (hout : (items.size : Int) ≤ k) (hhi : k < 2 ^ 63) (hE : ∀ h' tk e, q0h s.heap h' e a → E (.ref e) { s with heap := h', toks := tk }) :
  wpAny (model prog w) A (getItem (.ref l) (.int k t)) Q E s := by
 obtain ⟨o, ho, hc, ne, hdo⟩ := id hl
 unfold getItem
 try with_reducible refine v1g ?_
 first | refine v1e (v1h ?_) | skip
 refine v1e (wpAny_sequenceKey hl.typeIs (by decide) ?_)
 refine v1e (wpAny_callSpecial?_slot (name := Str.ofString "__getitem__") hl.typeIs slot_list_getitem
  (wpAny_call_entry slot_list_getitem hl.typeIs entry_list_getitem ?_ (args_list_getitem _ _)))
 show wpAny _ _ (Builtin.List.listSubscript? (.int k t) >>= _) _ _ s
 refine v1e (wpAny_listSubscript_int (fitsIndex_both (by lia) hhi) ?_)
 clear hhi
 cases k with
 | negSucc j => exact absurd hout (by have := Int.negSucc_lt_zero j; lia)
 | ofNat j =>
  have hx : items[j]? = none := Array.getElem?_eq_none (by have : (items.size : Int) ≤ (j : Int) := hout; lia)
  show wpAny _ _ ((seqItemAt l j >>= fun r => pure (r.map (j, ·))) >>= _) _ _ s
  refine v1e (v1e (wpAny_seqItemAt ho hdo (v1h ?_)))
  rw [hx]
  first
   | exact v1e (wpAny_rule (f0 hh ha hd h2 hE))
   | exact v1e (wpAny_rule (v1e (f0 hh ha hd h2 hE)))
   | exact v1e (v1e (wpAny_rule (f0 hh ha hd h2 hE)))
   | exact wpAny_rule (f0 hh ha hd h2 hE)
theorem q7C {value slice : PySem.Expr} {l : Addr} {items : Array Value} {k : Int} {u : Tok} {Q : Value → Shared → Prop} {a : Addr} {oa : Obj} {vs : Array Value} (hh : A.handled = some (.ref a)) (ha : s.heap.get? a = some oa) (hd : oa.data = .fields vs) (h2 : vs[2]? = some .none) (hl : s.heap.IsList l items)
  (hout : (items.size : Int) ≤ k) (hhi : k < 2 ^ 63) (hE : ∀ h' tk e, q0h s.heap h' e a → E (.ref e) { s with heap := h', toks := tk })
  (hs : subscripted slice false (.ref l) (.int k u) = operate [.ref l, .int k u] (getItem (.ref l) (.int k u))) :
  wpAny (model prog w) A (subscriptTail value slice (.ref l) (.int k u)) Q E s :=
 tail_any hl.typeIs slot_list_getitem.lookup (q2G hh ha hd h2 hl hout hhi hE) hs
end
section
variable {x : SX} {loc : Loc} {sto : Sto} {c : Cx} {α : List Addr} {s : Shared}
theorem Sat.notFrame (O : Ok x c) (S : Sat x c α loc sto s) (hr : x.fr = true) : ∀ a ∈ α, a ∉ c.outer.filterMap (·.frame) := fun a ha q => by
 obtain ⟨p1, p2, p3⟩ := O.below hr
 rcases O.fd a (p2 a q) with z | ⟨o, z⟩
 ·exact (S.off a ha).1 z
 ·rw [(S.off a ha).2] at z; cases z
theorem Sat.slots (O : Ok x c) (S : Sat x c α loc sto s) (hr : x.fr = true) {h' : Heap} (hs : Heap.SlotsOnly (c.outer.filterMap (·.frame)) s.heap h') : Sat x c α loc sto { s with heap := h' } := by
 obtain ⟨p1, p2, p3⟩ := O.below hr
 have na := S.notFrame O hr
 obtain ⟨m, F, l⟩ := S.fr
 have ns : h'.Ns c.env.locals m := by
  obtain ⟨oL, e, p, hoL, r⟩ := F.ns
  obtain ⟨sl, d⟩ := hs.2.2 _ _ hoL
  exact ⟨{ oL with slots := sl }, e, p, d, r⟩
 exact ⟨⟨m, ⟨ns, F.keep.comp fun b o _ e => ⟨fun n => (hs.2.1 b fun q => n (p2 b q)).trans e, hs.2.2 b o e⟩, F.off⟩, l⟩, ⟨S.hs.len, S.hs.nd, fun i o e => by
   obtain ⟨a, ob, h1, h2, h3⟩ := S.hs.cell i o e
   exact ⟨a, ob, h1, (hs.2.1 a (na a (v0i h1))).trans h2, h3⟩⟩, S.off, S.os, S.gens, S.cel⟩
theorem q7D (l : List AO) (a b d : AO) : (l ++ [a, b]).set l.length d = l ++ [d, b] := by simp
theorem q7E (l : List AO) (a b d : AO) : (l ++ [a, b]).set (l.length + 1) d = l ++ [a, d] := by
 induction l with
 | nil => rfl
 | cons z l ih => simp only [List.cons_append, v0U, List.set_cons_succ, ih]
structure FlO (T : Addr) (oe oT : Obj) (ctx f : Value) : Prop where
 cls : oe.cls = .type "IndexError"
 de : ∃ vs, oe.data = .fields vs ∧ vs[1]? = some (.ref T) ∧ vs[2]? = some ctx
 dt : ∃ ts, oT.data = .fields ts ∧ ts[3]? = some f
def InFl (x : SX) (c : Cx) (α : List Addr) (loc : Loc) (sto : Sto) (e : Addr) (ctx f : Value) (s : Shared) : Prop := ∃ T oe oT, Sat x c (α ++ [e, T]) loc (sto ++ [.raw oe, .raw oT]) s ∧ FlO T oe oT ctx f
theorem InFl.get {e : Addr} {ctx f : Value} (ln : α.length = sto.length) (I : InFl x c α loc sto e ctx f s) : ∃ T oe oT, Sat x c (α ++ [e, T]) loc (sto ++ [.raw oe, .raw oT]) s ∧ FlO T oe oT ctx f ∧ s.heap.get? e = some oe ∧ s.heap.get? T = some oT := by
 obtain ⟨T, oe, oT, S, h⟩ := I
 refine ⟨T, oe, oT, S, h, ?_, ?_⟩
 ·exact S.rawAt (i := sto.length) (by rw [← ln, v0d (v0h _), v0q]; rfl) (by rw [v0d (v0h _), v0q]; rfl)
 ·exact S.rawAt (i := sto.length + 1) (by rw [← ln, v0d (by lia), show α.length + 1 - α.length = 1 by lia]; rfl) (by rw [v0d (by lia), show sto.length + 1 - sto.length = 1 by lia]; rfl)
variable {M : Model} {A : Around} {E : Value → Shared → Prop} {Q : Unit → Shared → Prop}
theorem InFl.note {e : Addr} {ctx : Value} (ln : α.length = sto.length) (I : InFl x c α loc sto e ctx (rawInt c.env.locals) s) (hf : c.env.frame = some c.env.locals) (h : Q () s) : wpAny M A (noteFrame (.ref e) c.env) Q E s := by
 obtain ⟨T, oe, oT, S, ⟨h1, ⟨vs, d1, d2, d3⟩, ts, d4, d5⟩, g1, g2⟩ := I.get ln
 unfold noteFrame
 simp only [hf]
 refine v1e (wpAny_field g1 d1 d2 ?_)
 first | refine v1r (decide_eq_true (show (Value.ref T != Value.none) = true from by simp)) ?_ | rw [if_pos (show (Value.ref T != Value.none) = true from by simp)]
 refine v1e (wpAny_field g2 d4 d5 ?_)
 first | refine v1r (decide_eq_true (show (rawInt c.env.locals == rawInt c.env.locals) = true from by simp)) ?_ | rw [if_pos (show (rawInt c.env.locals == rawInt c.env.locals) = true from by simp)]
 exact v1h h
theorem InFl.set {e : Addr} {ctx f : Value} (ln : α.length = sto.length) (I : InFl x c α loc sto e ctx f s) (fr : Option Addr) (h : ∀ s', InFl x c α loc sto e ctx (fr.elim .none fun f => rawInt f) s' → Q () s') : wpAny M A (setFlight (.ref e) fr) Q E s := by
 obtain ⟨T, oe, oT, S, ⟨h1, ⟨vs, d1, d2, d3⟩, ts, d4, d5⟩, g1, g2⟩ := I.get ln
 have hz := (Array.getElem?_eq_some_iff.mp d5).1
 unfold setFlight
 refine v1e (wpAny_field g1 d1 d2 ?_)
 first | refine v1r (decide_eq_true (show (Value.ref T != Value.none) = true from by simp)) ?_ | rw [if_pos (show (Value.ref T != Value.none) = true from by simp)]
 refine wpAny_setField g2 d4 hz (h _ ?_)
 have dm := Obj.data_mapFields d4 (fun y : Array Value => y.setIfInBounds 3 (fr.elim .none fun f => rawInt f))
 refine ⟨T, oe, _, ?_, h1, ⟨vs, d1, d2, d3⟩, _, dm, by simp [hz]⟩
 have := S.upd (n := s.toks) (i := sto.length + 1) (a := T) (ao := .raw (oT.mapFields fun y => y.setIfInBounds 3 (fr.elim .none fun f => rawInt f))) (f := Obj.mapFields fun y => y.setIfInBounds 3 (fr.elim .none fun f => rawInt f)) (ob := oT) (by rw [← ln, v0d (by lia), show α.length + 1 - α.length = 1 by lia]; rfl) g2 rfl (Obj.isFreed_of_fields dm)
 exact Eq.mp (congrArg (fun z => Sat x c _ loc z _) (q7E sto _ _ _)) this
theorem InFl.new {e : Addr} {oe : Obj} {vs : Array Value} {ctx : Value} (O : Ok x c) (ln : α.length = sto.length) (S : Sat x c (α ++ [e]) loc (sto ++ [.raw oe]) s) (hr : x.fr = true) {out : List Env} (ho : c.outer = c.env :: out) (hf : c.env.frame = some c.env.locals) (hA : A.frames = c.A.frames)
  (hc : oe.cls = .type "IndexError") (hd : oe.data = .fields vs) (h1 : vs[1]? = some .none) (h2 : vs[2]? = some ctx) (h : ∀ s', InFl x c α loc sto e ctx (rawInt c.env.locals) s' → Q () s') : wpAny M A (noteFrame (.ref e) c.env) Q E s := by
 obtain ⟨p1, p2, p3⟩ := O.below hr
 have FF : s.heap.FunFrames c.base c.outer := by obtain ⟨m, F, l⟩ := S.fr; exact p3 _ _ F
 rw [ho] at FF p1
 have ge : s.heap.get? e = some oe := by
  exact S.rawAt (i := sto.length) (by rw [← ln, v0d (v0h _), v0q]; rfl) (by rw [v0d (v0h _), v0q]; rfl)
 have hsz := (Array.getElem?_eq_some_iff.mp h1).1
 unfold noteFrame
 simp only [hf]
 refine v1e (wpAny_field ge hd h1 ?_)
 first | refine v1s (decide_eq_false (by decide)) ?_ | rw [if_neg (by decide)]
 refine v1e (wpAny_frameOf_fun (hA.trans p1) FF hf fun h₁ hs₁ => ?_)
 rw [← ho] at hs₁
 have S1 := S.slots O hr hs₁
 refine v1e (wpAny_entryPlaceOf fun pl hpl => ?_)
 unfold EntryCells.newEntry newFields
 refine v1e (v1i ?_ (hpl.sizeOk5 _ _ _ _ _))
 generalize htb : ({ cls := .type "traceback", dict := none, data := .fields ([Value.none, .ref c.env.locals, .none, rawInt c.env.locals, .none] ++ (if pl.isEmpty then List.replicate 6 Value.none else pl)).toArray } : Obj) = tb
 have dtb : ∃ ts, tb.data = .fields ts ∧ ts[3]? = some (rawInt c.env.locals) := by
  rw [← htb]
  exact ⟨_, rfl, by simp⟩
 have ftb : tb.isFreed = false := by rw [← htb]; rfl
 have S2 := S1.push (n := s.toks) (ao := .raw tb) rfl ftb
 have ge2 : (h₁.push tb).get? e = some oe := by
  refine q9X _ ?_
  have := (hs₁.2.1 e (S.notFrame O hr e (by simp)))
  exact this.trans ge
 refine wpAny_setField ge2 hd hsz (h _ ?_)
 have dm := Obj.data_mapFields hd (fun y : Array Value => y.setIfInBounds 1 (.ref h₁.objs.size))
 have S3 := S2.upd (n := s.toks) (i := sto.length) (a := e) (ao := .raw (oe.mapFields fun y => y.setIfInBounds 1 (.ref h₁.objs.size))) (f := Obj.mapFields fun y => y.setIfInBounds 1 (.ref h₁.objs.size)) (ob := oe) (by rw [v0P, ← ln, v0d (v0h _), v0q]; rfl) ge2 rfl (Obj.isFreed_of_fields dm)
 rw [v0P, v0P] at S3
 refine ⟨_, _, tb, Eq.mp (congrArg (fun z => Sat x c _ loc z _) (q7D sto _ _ _)) S3, (Obj.cls_mapFields _ _).trans hc, ⟨_, dm, by simp [hsz], by rw [Array.getElem?_setIfInBounds_ne (by decide)]; exact h2⟩, dtb⟩
theorem InFl.back {e : Addr} {ctx f : Value} {env : Env} {E' : Value → Shared → Prop} (ln : α.length = sto.length) (I : InFl x c α loc sto e ctx f s) (h : ∀ s', InFl x c α loc sto e ctx (env.frame.elim .none fun f => rawInt f) s' → E' (.ref e) s') : cameBackBy M A env E' (.ref e) s := by
 obtain ⟨T, oe, oT, S, ⟨h1, ⟨vs, d1, d2, d3⟩, ts, d4, d5⟩, g1, g2⟩ := I.get ln
 unfold cameBackBy
 refine v1e (wpAny_field g1 d1 d2 ?_)
 first | refine v1s (decide_eq_false (by simp)) ?_ | rw [if_neg (by simp)]
 exact I.set ln env.frame h
end
noncomputable def cmL (e : Expr) : Expr := A6 (eK e) 0
noncomputable def cmR (e : Expr) : Expr := A6 (eK e) 1
noncomputable def cmP (e : Expr) : Pos := e.pos
noncomputable def sbV (e : Expr) : Expr := A6 (eK e) 0
noncomputable def sbI (e : Expr) : Expr := A6 (eK e) 1
noncomputable def sbP (e : Expr) : Pos := e.pos
noncomputable def slL (e : Expr) : Expr := A6 (eK e) 0
noncomputable def slP (e : Expr) : Pos := e.pos
noncomputable def agP (s : Stmt) : Pos := s.pos
noncomputable def agT (s : Stmt) : Expr := A6 (sK s) 1
noncomputable def agV (s : Stmt) : Expr := A6 (sK s) 0
noncomputable def exE (s : Stmt) : Expr := A6 (sK s) 0
noncomputable def exSP (s : Stmt) : Pos := s.pos
noncomputable def mtO (e : Expr) : Expr := A6 (eK (A6 (eK e) 0)) 0
noncomputable def mtP (e : Expr) : Pos := (A6 (eK e) 0).pos
section
variable {x : SX} {loc : Loc} {sto : Sto} {c : Cx} {α : List Addr} {s : Shared} {A : Around} {E : Value → Shared → Prop}
theorem Z1 {Q : Value → Shared → Prop} (O : Ok x c) (S : Sat x c α loc sto s) {y : Str} {pos : Pos} {v : AV} (hd : Fast.sEq y "__debug__" = false) (hk : lk x.scope.names y = some .local) (hv : lk loc y = some v) (h : ∀ u, VR α v u → Q u s) : wpAny (model pw x.w) A (eval (.Name y pos) c.env) Q E s := by
 obtain ⟨m, F, l⟩ := S.fr
 obtain ⟨u, hu, hr⟩ := l y v (by rw [← F7]; exact hv)
 exact wpAny_Name (v1d O.kind (B8 O hk) F.ns hu (h u hr)) (G3 hd)
theorem augL {Q : Flow → Shared → Prop} (O : Ok x c) (S : Sat x c α loc sto s) {y : Str} {p pos q : Pos} {i k : Int} {kd : Nat} (hk : lk x.scope.names y = some .local) (hv : lk loc y = some (.int i)) (h : ∀ s', Sat x c α (up loc y (.int (i + k))) sto s' → Q .next s') :
  wpAny (model pw x.w) A (exec (.AugAssign (.Name y p) .Add (.Constant (.int k) kd q) pos) c.env) Q E s := by
 obtain ⟨m, F, l⟩ := S.fr
 obtain ⟨u, hu, t, rfl⟩ := l y (.int i) (by rw [← F7]; exact hv)
 refine wpAny_AugAssign_Name (v1d O.kind (B8 O hk) F.ns hu ?_)
 refine wpAny_Constant_int (PySem.P.iadd_int ?_)
 have S1 := (S.toks (s.toks + 1)).toks (s.toks + 1 + 1)
 obtain ⟨m1, F1, l1⟩ := S1.fr
 refine v1l (B8 O hk) F1.ns (fun h' hn hs => h _ (S1.setLoc (v := .int (i + k)) ⟨_, rfl⟩ F1 l1 hn hs)) ?_
 rw [O.kind]; rfl
theorem q7F {Q : Bool → Shared → Prop} {whole : Sem Value} (O : Ok x c) (S : Sat x c α loc sto s) {L I : Str} {p1 p2 p3 p4 : Pos} {r : Expr} {li : Nat} {es : List Int} {i : Int} (hA : A.handled = none) (hb : behindInMarks .Eq r = false) (d1 : Fast.sEq L "__debug__" = false) (d2 : Fast.sEq I "__debug__" = false) (k1 : lk x.scope.names L = some .local) (k2 : lk x.scope.names I = some .local)
  (v1 : lk loc L = some (.ref li)) (v2 : lk loc I = some (.int i)) (hs : sto[li]? = some (.lsI es)) (ho : (es.length : Int) ≤ i) (hi : i < 2 ^ 63) (hE : ∀ h' tk e, Heap.NewExc s.heap h' e "IndexError" → E (.ref e) { s with heap := h', toks := tk }) :
  wpAny (model pw x.w) A (PySem.isTrue (.Compare (.Subscript (.Name L p1) (.Name I p2) p3) [.Eq] [r] p4) c.env whole) Q E s := by
 refine wpAny_isTrue_Compare1 (Subscript_ (Z1 O S d1 k1 v1 fun u hu => Z1 O S d2 k2 v2 fun w hw => ?_)) hb
 obtain ⟨a, ha, rfl⟩ := hu
 obtain ⟨t, rfl⟩ := hw
 obtain ⟨o, vs, n, h1, h2, h3, h4, h5, h6, h7⟩ := S.list hs rfl ha
 rw [v0I] at h7
 exact item_outK hA h6 (.inr (by rw [h7]; exact ho)) (by lia) hi hE rfl
theorem q9C {Q : Bool → Shared → Prop} {whole : Sem Value} (O : Ok x c) (S : Sat x c α loc sto s) {L I : Str} {p1 p2 p3 p4 : Pos} {r : Expr} {li : Nat} {es : List Int} {i : Int} {a : Addr} {oa : Obj} {vs : Array Value} (hA : A.handled = some (.ref a)) (ga : s.heap.get? a = some oa) (da : oa.data = .fields vs) (d0 : vs[2]? = some .none) (hb : behindInMarks .Eq r = false) (d1 : Fast.sEq L "__debug__" = false) (d2 : Fast.sEq I "__debug__" = false) (k1 : lk x.scope.names L = some .local) (k2 : lk x.scope.names I = some .local)
  (v1 : lk loc L = some (.ref li)) (v2 : lk loc I = some (.int i)) (hs : sto[li]? = some (.lsI es)) (ho : (es.length : Int) ≤ i) (hi : i < 2 ^ 63) (hE : ∀ h' tk e, q0h s.heap h' e a → E (.ref e) { s with heap := h', toks := tk }) :
  wpAny (model pw x.w) A (PySem.isTrue (.Compare (.Subscript (.Name L p1) (.Name I p2) p3) [.Eq] [r] p4) c.env whole) Q E s := by
 refine wpAny_isTrue_Compare1 (Subscript_ (Z1 O S d1 k1 v1 fun u hu => Z1 O S d2 k2 v2 fun w hw => ?_)) hb
 obtain ⟨b, hb, rfl⟩ := hu
 obtain ⟨t, rfl⟩ := hw
 obtain ⟨o, ws, n, h1, h2, h3, h4, h5, h6, h7⟩ := S.list hs rfl hb
 rw [v0I] at h7
 exact q7C hA ga da d0 h6 (by rw [h7]; exact ho) hi hE rfl
theorem q9D {Q : Value → Shared → Prop} (S : Sat x c α loc sto s) {i : Nat} {es : List Int} {lo : Option Int} {lv : Value} {a : Addr} (hx : sto[i]? = some (.lsI es)) (ha : α[i]? = some a) (hsz : es.length ≤ 100000) (pl : IsPart lv lo) (v : Expr) (le ue : Option Expr) (p : Pos)
  (h : ∀ a' s', Sat x c (α ++ [a']) loc (sto ++ [.lsI (cutL es lo none)]) s' → Q (.ref a') s') :
  wpAny (model pw x.w) A (newFields "slice" [lv, .none, .none]) (fun i s' => wpAny (model pw x.w) A (subscriptTail v (.Slice le ue none p) (.ref a) i) Q E s') E s := by
 obtain ⟨o, vs, n, h1, h2, h3, h4, h5, h6, h7⟩ := S.list hx rfl ha
 rw [v0I] at h7
 refine v1i (T := "slice") ?_ (by size_fits)
 refine tail_any (T := "list") (ops := [.ref s.heap.objs.size, .ref a]) (h6.push _).typeIs slot_list_getitem.lookup ?_ rfl
 have S₁ := S.heapK (h' := s.heap.push { cls := .type "slice", data := .fields #[lv, .none, .none] }) (n := s.toks) fun b ob e => q9X _ e
 refine wpAny_getItem_list_slice (h6.push _) (Heap.IsSliceOf.new ..) pl .none .none (by simp) ?_ (by rw [h7]; exact sz (by lia))
 exact h _ _ (S₁.push (ao := .lsI (cutL es lo none)) (o := { cls := .type "list", data := .seq (slicePick vs lo none none) }) (n := s.toks) ⟨rfl, ⟨rfl, rfl⟩, _, _, rfl, by rw [a4, ← q0A]; exact h5.cutL lo none⟩ rfl)
theorem extL {Q : Flow → Shared → Prop} (O : Ok x c) (Sx : Sat x c α loc sto s) {Mn L I : Str} {p1 p2 p3 p4 p5 ap pos sp : Pos} {li mi : Nat} {es ms : List Int} {i : Int} (d0 : Fast.sEq Mn "__debug__" = false) (d1 : Fast.sEq L "__debug__" = false) (d2 : Fast.sEq I "__debug__" = false) (k0 : lk x.scope.names Mn = some .local) (k1 : lk x.scope.names L = some .local) (k2 : lk x.scope.names I = some .local)
  (v0 : lk loc Mn = some (.ref mi)) (v1 : lk loc L = some (.ref li)) (v2 : lk loc I = some (.int i)) (hs : sto[li]? = some (.lsI es)) (hm : sto[mi]? = some (.lsI ms)) (hl : Nat.beq ap.endLine pos.line = true) (hz : ms.length + es.length ≤ 100000)
  (h : ∀ α' s', Ex α α' → Sat x c α' loc (sto.set mi (.lsI (ms ++ cutL es (some i) none)) ++ [.lsI (cutL es (some i) none)]) s' → Q .next s') :
  wpAny (model pw x.w) A (exec (.Expr (.Call (.Attribute (.Name Mn p1) (S "extend") ap) [.Subscript (.Name L p2) (.Slice (some (.Name I p3)) none none p4) p5] [] pos) sp) c.env) Q E s := by
 refine wpAny_Expr_any ?_ (by unfold interactive; rw [O.kind]; rfl) (T9 rfl)
 have hbase : attributeBase (.Name Mn p1) (S "extend") c.env (eval (.Name Mn p1) c.env) = eval (.Name Mn p1) c.env := rfl
 rw [arm_eval_Call, hbase]
 refine v1e (Z1 O Sx d0 k0 v0 fun u hu => ?_)
 obtain ⟨a, ha, rfl⟩ := hu
 refine v1e (v1f ?_)
 have hform : methodCallForm ([Expr.Subscript (.Name L p2) (.Slice (some (.Name I p3)) none none p4) p5].length + ([] : List Keyword).length) (backTo pos (starEach [.Subscript (.Name L p2) (.Slice (some (.Name I p3)) none none p4) p5] c.env)) (backToKw pos (keywordEach [] c.env)) = true := rfl
 have hpos : methodCallPos true (.Name Mn p1) c.env ap pos = pure pos := by
  unfold methodCallPos
  rw [show (ap.endLine == pos.line) = true from by rw [beq_iff_eq]; exact v0t hl]; rfl
 unfold methodCall
 rw [hform]
 refine v1e (v1g ?_)
 show wpAny _ _ (getMethod (.ref a) (S "extend") _) _ E s
 obtain ⟨o, ws, n, h1, h2, h3, h4, h5, h6, h7⟩ := Sx.list hm rfl ha
 refine getMethod_list_of (name := S "extend") PySem.F.slot_list_extend PySem.F.type_list_extend h6 ?_ ?_
 ·first | exact ⟨_, h1, h3.1⟩ | (intro o' ho'; rw [h1] at ho'; cases ho'; exact h3.1)
 refine v1e (v1k hpos ?_)
 show wpAny _ _ (callWith pos (.builtin "list.extend") [.ref a] [(false, eval (.Subscript (.Name L p2) (.Slice (some (.Name I p3)) none none p4) p5) c.env)] []) _ _ _
 refine PySem.P.extend_list (Subscript_ (Z1 O Sx d1 k1 v1 fun w hw => ?_))
 obtain ⟨b, hb, rfl⟩ := hw
 show wpAny _ _ (do let l ← eval (.Name I p3) c.env; let u ← holding [l] (pure Value.none); let s ← holding [l, u] (pure Value.none); newFields "slice" [l, u, s]) _ _ _
 refine v1e (Z1 O Sx d2 k2 v2 fun w hw => ?_)
 obtain ⟨t, rfl⟩ := hw
 refine v1e (v1g (v1h (v1e (v1g (v1h ?_)))))
 have S1 := q9D (A := A) (E := E) Sx hs hb (by lia) (IsPart.int i t) (.Name L p2) (some (.Name I p3)) none p4 (Q := fun v s₁ => ∃ b items items2 n n2, items.size ≤ sizeLine ∧ items.size + items2.size ≤ sizeLine + 1 ∧ ¬(!items.isEmpty && Builtin.List.listTooLong (items.size + items2.size)) = true ∧ v = .ref b ∧ PySem.IsL s₁.heap a items n ∧ PySem.IsL s₁.heap b items2 n2 ∧ Q .next { s₁ with heap := s₁.heap.update a (Obj.mapSeq fun xs => xs ++ items2) }) ?_
 ·exact S1
 ·intro a' s' S'
  have hmi := (q9W.mp hm).1
  have lo := Sx.hs.len
  have hx1 : (sto ++ [AO.lsI (cutL es (some i) none)])[mi]? = some (.lsI ms) := by rw [q9V hmi]; exact hm
  have hx2 : (sto ++ [AO.lsI (cutL es (some i) none)])[sto.length]? = some (.lsI (cutL es (some i) none)) := by rw [v0d (v0h _), v0q]; rfl
  have ha1 : (α ++ [a'])[mi]? = some a := by rw [q9V (by lia)]; exact ha
  have ha2 : (α ++ [a'])[sto.length]? = some a' := by rw [← lo, v0d (v0h _), v0q]; rfl
  obtain ⟨o1, vs1, n1, g1, g2, g3, g4, g5, g6, g7⟩ := S'.list hx1 rfl ha1
  obtain ⟨o2, vs2, n2, f1, f2, f3, f4, f5, f6, f7⟩ := S'.list hx2 rfl ha2
  rw [v0I] at g7 f7
  have hcl := j0 es (some i) none
  have hsz : vs1.size + vs2.size ≤ sizeLine := by rw [g7, f7]; exact sz (by lia)
  have eo : ∀ {o : Obj} {vs : Array Value} {n : Nat}, o.cls = .type "list" → (o.dict = none ∧ o.slots = #[]) → o.data = .seq vs n → o = { cls := .type "list", dict := none, data := .seq vs n, slots := #[] } := by
   intro o vs n q1 q2 q3
   obtain ⟨oc, od, dd, os⟩ := o
   simp only at q1 q2 q3
   obtain ⟨q2, q4⟩ := q2
   subst q1 q2 q3 q4; rfl
  refine ⟨a', vs1, vs2, n1, n2, v0S (Nat.le_add_right _ _) hsz, Nat.le_succ_of_le hsz, extend_door hsz, rfl, (g1.trans (congrArg some (eo g2 g3 g4))), (f1.trans (congrArg some (eo f2 f3 f4))), ?_⟩
  obtain ⟨n', hd'⟩ := Obj.data_mapSeq g4 (fun xs : Array Value => xs ++ vs2)
  have S2 := S'.upd (n := s'.toks) (i := mi) (a := a) (ao := .lsI (ms ++ cutL es (some i) none)) (f := Obj.mapSeq fun xs => xs ++ vs2) (ob := o1) ha1 g1 ⟨(Obj.cls_mapSeq ..).trans g2, ⟨(W0 ..).trans g3.1, (U1 ..).trans g3.2⟩, _, _, hd', by rw [v0M, Array.toList_append]; exact g5.append f5⟩ (Obj.isFreed_of_seq hd')
  refine h (α ++ [a']) _ .push ?_
  have e : (sto ++ [AO.lsI (cutL es (some i) none)]).set mi (.lsI (ms ++ cutL es (some i) none)) = sto.set mi (.lsI (ms ++ cutL es (some i) none)) ++ [AO.lsI (cutL es (some i) none)] := List.set_append_left _ _ hmi
  exact Eq.mp (congrArg (fun z => Sat x c _ loc z _) e) S2
end
section
variable {x : SX} {loc : Loc} {sto : Sto} {c : Cx} {K : KF}
def SSc (x : SX) (c : Cx) (t : Sem Flow) (loc : Loc) (sto : Sto) (K : KF) : Prop :=
 ∀ α s Q E, Ok x c → Sat x c α loc sto s → (∀ f loc' sto' α' s' fl, K f loc' sto' → Ex α α' → Sat x c α' loc' sto' s' → FR α' f fl → Q fl s') → wpAny (model pw x.w) c.A t Q E s
theorem SSc.of {t : Cx → Sem Flow} (h : SS x t loc sto K) : SSc x c (t c) loc sto K := fun α s Q E O S P => h c α s Q E O S P
theorem SSc.mid {B pre post : List Stmt} {st : Stmt} (hB : B = pre ++ st :: post) (h : SSc x c (execs pre c.env) loc sto fun f l s => match f with
  | .next => SSc x c (exec st c.env) l s (fun f l s => match f with
   | .next => SSc x c (execs post c.env) l s K
   | f => K f l s)
  | f => K f l s) : SSc x c (execs B c.env) loc sto K := by
 subst hB
 intro α s Q E O S P
 rw [E4]
 refine v1e (h α s _ E O S fun f l1 s1 α1 t1 fl hf g1 S1 r1 => ?_)
 cases f with
 | next =>
  obtain rfl : fl = .next := r1
  refine v1m (hf α1 t1 _ E O S1 fun f l2 s2 α2 t2 fl2 h2 g2 S2 r2 => ?_)
  cases f with
  | next =>
   obtain rfl : fl2 = .next := r2
   exact h2 α2 t2 Q E O S2 fun f l3 s3 α3 t3 fl h3 g3 S3 r3 => P f l3 s3 α3 t3 fl h3 ((g1.trans g2).trans g3) S3 r3
  | brk => obtain rfl : fl2 = .brk := r2; exact P .brk l2 s2 α2 t2 _ h2 (g1.trans g2) S2 rfl
  | cont => obtain rfl : fl2 = .cont := r2; exact P .cont l2 s2 α2 t2 _ h2 (g1.trans g2) S2 rfl
  | ret v => obtain ⟨u, rfl, hu⟩ := r2; exact P (.ret v) l2 s2 α2 t2 _ h2 (g1.trans g2) S2 ⟨u, rfl, hu⟩
 | brk => obtain rfl : fl = .brk := r1; exact v1h (P .brk l1 s1 α1 t1 _ hf g1 S1 rfl)
 | cont => obtain rfl : fl = .cont := r1; exact v1h (P .cont l1 s1 α1 t1 _ hf g1 S1 rfl)
 | ret v => obtain ⟨u, rfl, hu⟩ := r1; exact v1h (P (.ret v) l1 s1 α1 t1 _ hf g1 S1 ⟨u, rfl, hu⟩)
theorem SSc.while_ {test : Expr} {body : List Stmt} {pos : Pos} (Inv : Nat → Loc → Sto → Prop) (n₀ : Nat) (h0 : Inv n₀ loc sto)
  (turn : ∀ n loc s, s.length = sto.length → Inv n loc s → TS x test loc s fun b s₁ => I0 b (SSc x c (execs body c.env) loc s₁ (WhileK Inv K n sto.length)) (K .next loc s₁)) : SSc x c (exec (.While test body [] pos) c.env) loc sto K := by
 intro α s Q E O S P
 refine wpAny_While ?_
 have cm := S.cmLt
 refine codeAny_whileLoop (fun n s' => ∃ loc sto', Sat x c α loc sto' s' ∧ Inv n loc sto') ?_ n₀ ⟨loc, sto, S, h0⟩
 rintro n s' ⟨loc, sto', S', hI⟩
 have ln : sto'.length = sto.length := S'.hs.len.symm.trans S.hs.len
 refine turn n loc sto' ln hI c α s' _ _ O S' fun b s1 α1 t1 hb g1 S1 => ?_
 cases b with
 | false =>
  first | refine v1s (decide_eq_false v0o) ?_ | rw [if_neg v0o]
  exact v1n (P .next _ _ _ _ _ hb g1 S1 rfl)
 | true =>
  first | refine v1r (decide_eq_true rfl) ?_ | rw [if_pos rfl]
  refine hb α1 t1 _ _ O S1 fun f l2 s2 α2 t2 fl h2 g2 S2 r2 => ?_
  have again : (∃ m loc₂ s₂ junk, m < n ∧ (∀ y v, loc₂.lookup y = some v → l2.lookup y = some v) ∧ s2 = s₂ ++ junk ∧ s₂.length = sto.length ∧ P9 sto.length loc₂ ∧ C2 sto.length s₂ ∧ Inv m loc₂ s₂) → ∃ m, m < n ∧ ∃ loc sto', Sat x c α loc sto' t2 ∧ Inv m loc sto' := by
   rintro ⟨m, loc₂, s₂, junk, hm, hsub, rfl, hl, lt, st, hv⟩
   obtain ⟨β, rfl⟩ := g1.trans g2
   have la := S.hs.len
   exact ⟨m, hm, loc₂, s₂, Sat.trunc (S2.forget hsub) (hl.trans la.symm) (la ▸ lt) (la ▸ st) cm, hv⟩
  cases f with
  | next => obtain rfl : fl = .next := r2; exact again h2
  | cont => obtain rfl : fl = .cont := r2; exact again h2
  | brk => obtain rfl : fl = .brk := r2; exact P .next _ _ _ _ _ h2 (g1.trans g2) S2 rfl
  | ret v => obtain ⟨u, rfl, hu⟩ := r2; exact P (.ret v) _ _ _ _ _ h2 (g1.trans g2) S2 ⟨u, rfl, hu⟩
end
theorem eE₂ : whE W₂ = .Compare (.Subscript (.Name (S "expected") (F3 (sbV (cmL (whE W₂))))) (.Name (S "i") (F3 (sbI (cmL (whE W₂))))) (sbP (cmL (whE W₂)))) [.Eq] [cmR (whE W₂)] (cmP (whE W₂)) := by rfl'
theorem eE₃ : whE W₃ = .Compare (.Subscript (.Name (S "actual") (F3 (sbV (cmL (whE W₃))))) (.Name (S "j") (F3 (sbI (cmL (whE W₃))))) (sbP (cmL (whE W₃)))) [.Eq] [cmR (whE W₃)] (cmP (whE W₃)) := by rfl'
theorem bE₂ : behindInMarks .Eq (cmR (whE W₂)) = false := by rfl'
theorem bE₃ : behindInMarks .Eq (cmR (whE W₃)) = false := by rfl'
noncomputable abbrev F₀ : Stmt := nth (u6 T₂) 0
theorem eF₀ : nth (u6 T₂) 0 = .AugAssign (.Name (S "j") (F3 (agT F₀))) .Add (.Constant (.int 1) (cnK (agV F₀)) (cnP (agV F₀))) (agP F₀) := by rfl'
noncomputable def mtA (e : Expr) : Expr := A6 (eK e) 1
noncomputable def xStm (st : Stmt) (M L I : Str) : Stmt := .Expr (.Call (.Attribute (.Name M (F3 (mtO (exE st)))) (S "extend") (mtP (exE st))) [.Subscript (.Name L (F3 (sbV (mtA (exE st))))) (.Slice (some (.Name I (F3 (slL (sbI (mtA (exE st))))))) none none (slP (sbI (mtA (exE st))))) (sbP (mtA (exE st)))] [] (exP (exE st))) (exSP st)
noncomputable def brP (s : Stmt) : Pos := s.pos
theorem eH₀ : nth H₀ 0 :: H₀.drop 1 = [xStm (nth H₀ 0) (S "missing") (S "expected") (S "i"), xStm (nth H₀ 1) (S "unexpected") (S "actual") (S "j"), .Break (brP (nth H₀ 2))] := by rfl'
theorem bH₀ : Nat.beq (mtP (exE (nth H₀ 0))).endLine (exP (exE (nth H₀ 0))).line = true := by rfl'
theorem bH₁ : Nat.beq (mtP (exE (nth H₀ 1))).endLine (exP (exE (nth H₀ 1))).line = true := by rfl'
theorem q1f (l : List Int) {n : Int} (h : n = (l.length : Int)) : cutL l (some n) none = [] := by
 subst h
 unfold cutL bnd
 simp only [if_neg (show ¬ ((l.length : Int) < 0) by lia), show (max 0 (min (l.length : Int) (l.length : Int))).toNat = l.length by lia, v0q, List.take_zero]
section
variable {x : SX} {loc : Loc} {sto : Sto} {c : Cx} {α : List Addr} {s : Shared} {A : Around} {E : Value → Shared → Prop}
theorem nameG {Q : Value → Shared → Prop} (O : Ok x c) (Sa : Sat x c α loc sto s) {y : Str} {pos : Pos} {v : Value} (hd : Fast.sEq y "__debug__" = false) (hk : lk x.scope.names y = some .globalImplicit) (hg : m7 y = some v) (h : Q v s) : wpAny (model pw x.w) A (eval (.Name y pos) c.env) Q E s := by
 obtain ⟨m, F, l⟩ := Sa.fr
 obtain ⟨mg, mb, Tp⟩ := O.top
 have Tp := Tp.keeps (O.stay F)
 have X := O.gnd.keeps (O.stay F)
 refine Name_function_global O.kind (B8 O hk) ?_ (G3 hd)
 rcases i9 hg with e | ⟨e, e', n⟩
 ·exact loadGlobal_global (by rw [O.glob]; exact Tp.g) (mg_of X Tp.g e) h
 ·exact loadGlobal_builtin (by rw [O.glob]; exact Tp.g) (mg_none_of X Tp.g e) (by rw [O.bi]; exact Tp.b) ((Tp.builtins y n).trans e') h
theorem Sat.raw (S : Sat x c α loc sto s) {h' : Heap} {n : Nat} {e : Addr} {oe : Obj} (k : ∀ b o, s.heap.get? b = some o → h'.get? b = some o) (hn : s.heap.get? e = none) (he : h'.get? e = some oe) : Sat x c (α ++ [e]) loc (sto ++ [.raw oe]) { s with heap := h', toks := n } := by
 have S' := S.heapK (n := n) k
 refine S'.addObj (fun ha => ?_) ?_ ?_ he rfl
 ·obtain ⟨i, hi, e'⟩ := q9Y.mp ha
  obtain ⟨ob, h2, _⟩ := S.objAt ((q9Z hi).trans (congrArg _ e')) (q9Z (S.hs.len ▸ hi))
  exact nomatch hn.symm.trans h2
 ·obtain ⟨m, F, l⟩ := S.fr
  obtain ⟨oL, es, p, hoL, r⟩ := F.ns
  intro q
  rw [q, hoL] at hn; cases hn
 ·obtain ⟨m, F, l⟩ := S.fr
  exact F.keep.none hn
end
section
variable {x : SX} {c : Cx} {O : Nat → AO} {es as ms us : List Int} {i j e : Int}
theorem q7G {K : KF} (hr : x.fr = true) {out : List Env} (ho : c.outer = c.env :: out) (hf : c.env.frame = some c.env.locals) (hO : ∀ k, (O k).Lt 10) (h1 : okIx i es.length) (h2 : okIx j as.length) (he : es.getD (ix i es.length) 0 = e) (ha : as.getD (ix j as.length) 0 = e)
  (h3 : i + 1 = (es.length : Int)) (h4 : j + 1 = (as.length : Int)) (z1 : es.length ≤ 10000) (z2 : as.length ≤ 10000) (z3 : ms.length ≤ 10000) (z4 : us.length ≤ 10000)
  (h : K .brk (lS1 (i + 1) (j + 1) e e) (sS O es as ms us)) : SSc (xS x) c (execs [T₀] c.env) (lS0 i j) (sS O es as ms us) K := by
 intro α s Q E Oc S₀ P
 have TO := D6 (x := xS x) (A9 _)
 refine v1m ?_
 rw [eT₀]
 refine wpAny_Try_except ?_
 refine T7 fun Q1 E1 _ hE1 => ?_
 rw [slTB, E4]
 refine v1e (A1 (K := fun f l s => f = .next ∧ l = lS1 i j e e ∧ s = sS O es as ms us) TO 40 _ _ _ (by rw [slR, he, ha]; exact ⟨h1, h2, rfl, rfl, rfl⟩) c α s _ _ Oc S₀ fun f l s₁ α₁ t₁ fl hq g1 S1 r1 => ?_)
 obtain ⟨rfl, rfl, rfl⟩ := hq
 obtain rfl : fl = .next := r1
 refine v1m (T8 fun Q' => ?_)
 rw [eI₁]
 refine wpAny_If (A4 (K := fun v s => v = .bool false ∧ s = sS O es as ms us) TO 40 true _ _ _ (by rw [slT1, decide_eq_false (by lia)]; exact ⟨rfl, rfl⟩) c α₁ t₁ _ _ Oc S1 fun b s₂ α₂ t₂ hb g2 S2 => ?_)
 obtain ⟨hb, rfl⟩ := hb
 cases hb
 first | (refine v1s (decide_eq_false v0o) ?_; rw [slBB, List.nil_append]) | rw [if_neg v0o, slBB, List.nil_append]
 refine v1m (T8 fun Q' => ?_)
 rw [eI₂]
 refine wpAny_If (A4 (K := fun v s => v = .bool false ∧ s = sS O es as ms us) TO 40 true _ _ _ (by rw [slT2, decide_eq_false (by lia)]; exact ⟨rfl, rfl⟩) c α₂ t₂ _ _ Oc S2 fun b s₃ α₃ t₃ hb g3 S3 => ?_)
 obtain ⟨hb, rfl⟩ := hb
 cases hb
 first | (refine v1s (decide_eq_false v0o) ?_; rw [slCB, E4]) | rw [if_neg v0o, slCB, E4]
 refine v1e (A1 (K := fun f l s => f = .next ∧ l = lS1 (i + 1) j e e ∧ s = sS O es as ms us) TO 40 _ _ _ (by rw [slC]; exact ⟨rfl, rfl, rfl⟩) c α₃ t₃ _ _ Oc S3 fun f l s₄ α₄ t₄ fl hq g4 S4 r4 => ?_)
 obtain ⟨rfl, rfl, rfl⟩ := hq
 obtain rfl : fl = .next := r4
 refine v1m (T8 fun Q' => ?_)
 rw [eT₂]
 refine wpAny_Try_finally (T7 fun Q2 E2 _ hE2 => ?_)
 refine v1m (T8 fun Q' => ?_)
 rw [eW₂]
 refine wpAny_While (codeAny_whileLoop (fun _ s' => s' = t₄) (fun n s' hs' => ?_) 0 rfl)
 subst hs'
 rw [eE₂]
 have hh : c.A.handled = none := Oc.hh
 have l4 := S4.hs.len
 have hx : (xS x).fr = true := hr
 refine q7F Oc S4 (li := 6) (es := es) (i := i + 1) hh bE₂ (by rfl') (by rfl') (by rfl') (by rfl') (by rfl') (by rfl') rfl (by lia) (by lia) fun h5 tk5 e1 hx1 => ?_
 refine small fun G' bk => ?_
 obtain ⟨oe, t0, ge, ce, de⟩ := hx1.there
 refine bk ?_
 clear bk
 have S5 := S4.raw (n := tk5) hx1.keeps hx1.new ge
 clear hx1
 generalize ({ s' with heap := h5, toks := tk5 } : Shared) = s5 at S5 ⊢
 refine InFl.new Oc l4 S5 hx ho hf rfl ce de (ctx := .none) rfl rfl fun h6 I6 => ?_
 refine InFl.back l4 I6 fun h7 I7 => ?_
 rw [hf] at I7
 refine hE2 _ _ (InFl.note l4 I7 hf ⟨ref_ne_byPass _, InFl.note l4 I7 hf (InFl.set l4 I7 none fun h8 I8 => ?_)⟩)
 refine small fun G' bk => ?_
 obtain ⟨T1, oe1, oT1, S8, fl1, _, _⟩ := I8.get l4
 refine bk ?_
 clear bk
 refine T7 fun Q3 E3 _ hE3 => ?_
 refine v1m ?_
 rw [eF₀]
 refine augL Oc S8 (i := j) (k := 1) (by rfl') (by rfl') fun s9 S9 => ?_
 have e9 : up (lS1 (i + 1) j e e) (S "j") (.int (j + 1)) = lS1 (i + 1) (j + 1) e e := by rfl'
 rw [e9] at S9
 have I9 : InFl (xS x) c α₄ (lS1 (i + 1) (j + 1) e e) (sS O es as ms us) e1 .none .none s9 := ⟨T1, oe1, oT1, S9, fl1⟩
 refine small fun G' bk => ?_
 obtain ⟨T1', oe1', oT1', S9', ⟨c1, ⟨vs1, d1, d2, d3⟩, ts1, d4, d5⟩, ge1, gT1⟩ := I9.get l4
 refine bk ?_
 clear bk
 have l9 := S9'.hs.len
 refine v1m (T8 fun Q' => ?_)
 rw [eW₃]
 refine wpAny_While (codeAny_whileLoop (fun _ s' => s' = s9) (fun n s' hs' => ?_) 0 rfl)
 subst hs'
 rw [eE₃]
 refine q9C Oc S9' (a := e1) (li := 9) (es := as) (i := j + 1) rfl ge1 d1 d3 bE₃ (by rfl') (by rfl') (by rfl') (by rfl') (by rfl') (by rfl') rfl (by lia) (by lia) fun h10 tk10 e2 hx2 => ?_
 refine small fun G' bk => ?_
 obtain ⟨k2, n2, oe2, us2, ge2, ce2, de2, f1, f2⟩ := hx2
 refine bk ?_
 clear bk
 have S10 := S9'.raw (n := tk10) k2 n2 ge2
 clear k2 n2 ge2
 generalize ({ s' with heap := h10, toks := tk10 } : Shared) = s10 at S10 ⊢
 refine InFl.new Oc l9 S10 hx ho hf rfl ce2 de2 f1 f2 fun h11 I11 => ?_
 refine InFl.back l9 I11 fun h12 I12 => ?_
 rw [hf] at I12
 refine hE3 _ _ (InFl.note l9 I12 hf ?_)
 refine InFl.back l9 I12 fun h13 I13 => ?_
 rw [hf] at I13
 refine hE1 _ _ (InFl.note l9 I13 hf (InFl.set l9 I13 none fun h14 I14 => ?_))
 refine small fun G' bk => ?_
 obtain ⟨T2, oe3, oT2, S14, fl2, ge14, _⟩ := I14.get l9
 refine bk ?_
 clear bk
 refine wpAny_handleBy_builtin (X := "IndexError") (T := "IndexError") (b := true) PySem.F.isExc_IndexError PySem.F.notTuple_IndexError (by rw [isSubtype_type]; rfl') ?_
 refine nameG Oc S14 (v := .type "IndexError") (by rfl') (by rfl') (by rfl') ⟨rfl, ⟨_, ge14, fl2.cls⟩, ?_⟩
 first | refine v1r (decide_eq_true rfl) ?_ | rw [if_pos rfl]
 refine InFl.set l9 ⟨T2, oe3, oT2, S14, fl2⟩ none fun h15 I15 => ?_
 refine small fun G' bk => ?_
 obtain ⟨T3, oe4, oT3, S15, fl3⟩ := I15
 refine bk ?_
 clear bk
 rw [eH₀]
 refine v1m ?_
 refine extL Oc S15 (mi := 10) (li := 6) (es := es) (ms := ms) (i := i + 1) (by rfl') (by rfl') (by rfl') (by rfl') (by rfl') (by rfl') (by rfl') (by rfl') (by rfl') rfl rfl bH₀ (by lia) fun α6 s6 g6 S16 => ?_
 rw [q1f es h3, v0H] at S16
 refine v1m ?_
 refine extL Oc S16 (mi := 11) (li := 9) (es := as) (ms := us) (i := j + 1) (by rfl') (by rfl') (by rfl') (by rfl') (by rfl') (by rfl') (by rfl') (by rfl') (by rfl') rfl rfl bH₁ (by lia) fun α7 s7 g7 S17 => ?_
 rw [q1f as h4, v0H] at S17
 refine v1m (wpAny_Break ?_)
 show Q .brk s7
 have gg : Ex α α7 := (((((g1.trans g2).trans g3).trans g4).trans ⟨[e1, T1'], rfl⟩).trans ⟨[e2, T3], rfl⟩ |>.trans g6).trans g7
 obtain ⟨β, rfl⟩ := gg
 have la : α.length = 12 := S₀.hs.len
 have S18 : Sat (xS x) c (α ++ β) (lS1 (i + 1) (j + 1) e e) (sS O es as ms us ++ [.raw oe1', .raw oT1', .raw oe4, .raw oT3, .lsI [], .lsI []]) s7 := S17
 refine P .brk _ _ α s7 _ h .refl (Sat.trunc S18 la.symm (fun q hq => ?_) (fun q hq => ?_) S₀.cmLt) rfl
 ·rw [la]
  exact B9 (by rfl') _ hq
 ·rw [la]
  simp only [sS, v0F, List.not_mem_nil, or_false] at hq
  rcases hq with rfl | rfl | rfl | rfl | rfl | rfl | rfl | rfl | rfl | rfl | rfl | rfl <;> first | exact (hO _).mono (by lia) | trivial
end
theorem slB : bS = bS.take 3 ++ W₀ :: bS.drop 4 := by rfl'
section
variable {x : SX} {loc : Loc} {sto : Sto} {c : Cx} {K : KF}
theorem SSc.conv {t : Sem Flow} {i : Nat} {ao : AO} (ao' : AO) (hi : sto[i]? = some ao) (f : ∀ α ob, OR α ao ob → OR α ao' ob) (h : SSc x c t loc (sto.set i ao') K) : SSc x c t loc sto K :=
 fun α s Q E O S P => h α s Q E O (S.conv hi (f α)) P
end
section
variable {x : SX} {loc : Loc} {O : Nat → AO}
noncomputable def sS0 (O : Nat → AO) (es as : List Int) : Sto := [O 0, O 1, O 2, O 3, O 4, O 5, .lsI es, O 7, O 8, .lsI as]
theorem q9E (hr : x.fr = true) {c : Cx} {out : List Env} (ho : c.outer = c.env :: out) (hf : c.env.frame = some c.env.locals) (hO : ∀ k, (O k).Lt 10) {n : Nat} {p : Nat → Bool} (hn : 0 < n) (hn2 : n ≤ 2000) (hp : p (n - 1) = true) {K : AV → Sto → Prop}
  (h : K (.ref 12) (sS O (toI (List.range n)) (toI (pA p n)) (toI (pB p n)) [] ++ [.tup [.ref 10, .ref 11]])) :
  SSc (xS x) c (execs bS c.env) [(S "expected", .ref 6), (S "actual", .ref 9)] (sS0 O (toI (List.range n)) (toI (pA p n))) (BodyK 10 K) := by
 have TO := D6 (x := xS x) (A9 _)
 have hle : (toI (List.range n)).length = n := by rw [G7, v0X]
 have hla : (toI (pA p n)).length = (pA p n).length := G7 _
 have hpl : (pA p n).length ≤ n := by unfold pA; exact v0S (List.length_filter_le _ _) (by rw [v0X]; exact v0h _)
 have hge : ∀ i, i < n → okIx (i : Int) (toI (List.range n)).length ∧ (toI (List.range n)).getD (ix (i : Int) (toI (List.range n)).length) 0 = (i : Int) := fun i hi => by
  obtain ⟨a, b⟩ := o0 (k := i) (n := (toI (List.range n)).length) (by lia) (by lia)
  exact ⟨a, by rw [b, Z0, o3 hi]⟩
 have hga : ∀ j, j < (pA p n).length → okIx (j : Int) (toI (pA p n)).length ∧ (toI (pA p n)).getD (ix (j : Int) (toI (pA p n)).length) 0 = (((pA p n).getD j 0 : Nat) : Int) := fun j hj => by
  obtain ⟨a, b⟩ := o0 (k := j) (n := (toI (pA p n)).length) (by lia) (by lia)
  exact ⟨a, by rw [b, Z0]⟩
 have hbl : ∀ i, (pB p i).length ≤ i := fun i => by unfold pB; exact v0S (List.length_filter_le _ _) (by rw [v0X]; exact v0h _)
 generalize hes : toI (List.range n) = es at *
 generalize has : toI (pA p n) = as at *
 refine SSc.mid slB (SSc.of (t := fun c => execs (bS.take 3) c.env) (A1 TO 40 _ _ _ _ ?_))
 show xw (xS x) (B6 D0) 40 (bS.take 3) [(S "expected", .ref 6), (S "actual", .ref 9)] [O 0, O 1, O 2, O 3, O 4, O 5, .lsI es, O 7, O 8, .lsI as] _
 rw [slPre]
 refine ⟨sz (by lia), sz (by lia), ?_⟩
 refine SSc.conv (i := 10) (.lsI []) rfl (fun α ob h => h) (SSc.conv (i := 11) (.lsI []) rfl (fun α ob h => h) ?_)
 show SSc (xS x) c (exec W₀ c.env) (lS0 0 0) (sS O es as [] []) _
 rw [eW₀]
 refine SSc.while_ (fun m l s => ∃ i : Nat, i < n ∧ m = n - i ∧ l = lS0 (i : Int) ((pA p i).length : Int) ∧ s = sS O es as (toI (pB p i)) []) n ⟨0, hn, rfl, rfl, rfl⟩ ?_
 rintro m l s _ ⟨i, hi, rfl, rfl, rfl⟩
 refine TS.constTrue ?_
 show SSc (xS x) c (execs [T₀] c.env) (lS0 (i : Int) ((pA p i).length : Int)) (sS O es as (toI (pB p i)) []) _
 obtain ⟨g1, g2⟩ := hge i hi
 have hb := hbl i
 have ltS : ∀ ms, C2 (sS O es as (toI (pB p i)) []).length (sS O es as ms []) := fun ms q hq => by
  simp only [sS, v0F, List.not_mem_nil, or_false] at hq
  show q.Lt 12
  rcases hq with rfl | rfl | rfl | rfl | rfl | rfl | rfl | rfl | rfl | rfl | rfl | rfl <;> first | exact (hO _).mono (by lia) | trivial
 have ltL : ∀ a b, P9 (sS O es as (toI (pB p i)) []).length (lS0 a b) := fun a b q hq => by
  simp only [lS0, v0F, List.not_mem_nil, or_false] at hq
  show q.2.Lt 12
  rcases hq with rfl | rfl | rfl | rfl | rfl | rfl
  ·show 6 < 12; lia
  ·show 9 < 12; lia
  ·trivial
  ·trivial
  ·show 10 < 12; lia
  ·show 11 < 12; lia
 have again : ∀ j e a ms, (j : Int) = ((pA p (i + 1)).length : Int) → i + 1 < n → ms = toI (pB p (i + 1)) → WhileK (fun m l s => ∃ i : Nat, i < n ∧ m = n - i ∧ l = lS0 (i : Int) ((pA p i).length : Int) ∧ s = sS O es as (toI (pB p i)) []) (fun f l s => match f with
   | .next => SSc (xS x) c (execs (bS.drop 4) c.env) l s (BodyK 10 K)
   | f => BodyK 10 K f l s) (n - i) (sS O es as (toI (pB p i)) []).length .next (lS1 ((i : Int) + 1) j e a) (sS O es as ms []) := by
  rintro j e a ms hj hi1 rfl
  refine ⟨n - (i + 1), lS0 ((i : Int) + 1) j, sS O es as (toI (pB p (i + 1))) [], [], by lia, fun y v hy => r9 (r := [(S "e", .int e), (S "a", .int a)]) y v hy, rfl, rfl, ltL _ _, ltS _, i + 1, hi1, rfl, ?_, rfl⟩
  rw [hj]; rfl
 cases hpi : p i with
 | false =>
  obtain ⟨a1, a2⟩ := q5U hi hpi hp
  obtain ⟨g3, g4⟩ := hga _ a1
  have hi1 : i + 1 < n := by
   by_cases q : i + 1 = n
   ·rw [show n - 1 = i by lia, hpi] at hp; cases hp
   ·lia
  obtain ⟨g5, g6⟩ := hge (i + 1) hi1
  have hA : pA p (i + 1) = pA p i := by rw [u7, hpi]; simp
  have hB : pB p (i + 1) = pB p i ++ [i] := by rw [u8, hpi]; rfl
  refine SSc.of (t := fun c => execs [T₀] c.env) (q7A (e := (i : Int)) (a := (((pA p n).getD (pA p i).length 0 : Nat) : Int)) g1 g3 g2 g4 (by lia) (by rw [G7]; exact sz (by lia)) g5 ?_ ?_)
  ·have : ((i : Int) + 1) = ((i + 1 : Nat) : Int) := rfl
   rw [this, g6]
   exact beq_eq_false_iff_ne.mpr (by lia)
  ·exact again _ _ _ _ (by rw [hA]) hi1 (by rw [hB, q2F]; rfl)
 | true =>
  obtain ⟨a1, a2⟩ := q5T hi hpi
  obtain ⟨g3, g4⟩ := hga _ a1
  rw [a2] at g4
  have hA : pA p (i + 1) = pA p i ++ [i] := by rw [u7, hpi]; simp
  have hB : pB p (i + 1) = pB p i := by rw [u8, hpi]; simp
  have hA1 : (pA p (i + 1)).length = (pA p i).length + 1 := by rw [hA]; simp
  by_cases hi1 : i + 1 < n
  ·obtain ⟨g5, g6⟩ := hge (i + 1) hi1
   have hnext : (pA p i).length + 1 < (pA p n).length ∧ i < (pA p n).getD ((pA p i).length + 1) 0 := by
    rw [← hA1]
    cases hq : p (i + 1) with
    | false => obtain ⟨b1, b2⟩ := q5U hi1 hq hp; exact ⟨b1, by lia⟩
    | true => obtain ⟨b1, b2⟩ := q5T hi1 hq; exact ⟨b1, by lia⟩
   obtain ⟨g7, g8⟩ := hga _ hnext.1
   refine SSc.of (t := fun c => execs [T₀] c.env) (q7B (e := (i : Int)) g1 g3 g2 g4 g5 ?_ g7 ?_ ?_)
   ·have : ((i : Int) + 1) = ((i + 1 : Nat) : Int) := rfl
    rw [this, g6]
    exact beq_eq_false_iff_ne.mpr (by lia)
   ·have : (((pA p i).length : Int) + 1) = (((pA p i).length + 1 : Nat) : Int) := rfl
    rw [this, g8]
    exact beq_eq_false_iff_ne.mpr (by lia)
   ·exact again _ _ _ _ (by rw [hA1]; rfl) hi1 (by rw [hB])
  ·have hin : n = i + 1 := by lia
   refine q7G hr ho hf hO g1 g3 g2 g4 (by rw [hle]; lia) (by rw [hla, hin, hA1]; rfl) (by lia) (by lia) (by rw [G7]; lia) (by simp) ?_
   show SSc (xS x) c (execs (bS.drop 4) c.env) _ _ (BodyK 10 K)
   refine SSc.of (t := fun c => execs (bS.drop 4) c.env) (A1 TO 40 _ _ _ _ ?_)
   rw [slRet]
   refine ⟨sz (by lia), BodyK.ret ?_⟩
   rw [hin, hB] at h
   exact h
theorem cSld (hr : x.fr = true) (hd : 1 ≤ x.d) (hO : ∀ k, (O k).Lt 10) {n : Nat} {p : Nat → Bool} (hn : 0 < n) (hn2 : n ≤ 2000) (hp : p (n - 1) = true) {K : AV → Sto → Prop}
  (h : K (.ref 12) (sS O (toI (List.range n)) (toI (pA p n)) (toI (pB p n)) [] ++ [.tup [.ref 10, .ref 11]])) : CodeS x (.ref 829) [.ref 6, .ref 9] [] loc (sS0 O (toI (List.range n)) (toI (pA p n))) K := by
 intro c α s vs ks R Oc Sx rv rk P
 refine U2 (x' := xS x) (loc₀ := [(S "expected", .ref 6), (S "actual", .ref 9)]) (fn829.lk _) (fn829.da _) (fn829.bd _) (fn829.sc _) (fn829.gl _) (fn829.bi _) (fn829.cd _) fn829.ce (fun α vs ks r rk => ?_) (by rfl') (show List.Nodup [S "expected", S "actual"] from by decide +kernel) hd rfl fn829.co fn829.ge fn829.ki Oc Sx rv rk fun s₁ _ O₁ S₁ => ?_
 ·obtain ⟨v, w, rfl, r1, r2⟩ := r.two
  obtain rfl := rk.nil
  exact ⟨[(S "expected", v), (S "actual", w)], fun Se => by rfl', rfl, r1, rfl, r2, trivial⟩
 ·exact q9E (x := x) hr rfl rfl hO hn hn2 hp (K := K) h α s₁ _ _ O₁ S₁ fun f' l' s' α' t' fl hf ex S₂ r => Sx.bodyEnd P hf ex S₂ r
end
noncomputable def agN (s : Stmt) : Expr := A6 (sK s) 1
noncomputable def agL (s : Stmt) : Expr := A6 (sK s) 0
noncomputable def q2H : Option NameKind → Bool
 | some .local => true
 | _ => false
noncomputable def q5V : NameKind → Bool
 | .local => true
 | .cell => true
 | _ => false
noncomputable def q5W (sc : Scope) (t : Str) (pt pos : Pos) (scope : Scope) : Bool := q2H (lk sc.names t) && Nat.beq pt.line pos.line && scope.names.all fun p => !(Fast.sEq p.1 t && q5V p.2)
theorem o4 {k : Option NameKind} (h : q2H k = true) : k = some .local := by
 unfold q2H at h
 split at h
 ·rfl
 ·cases h
theorem q7H {x : SX} {t : Str} {pt pos : Pos} {line : Nat} {elt : Expr} {gens : List Comprehension} {scope : Scope} (h : q5W x.scope t pt pos scope = true) :
  ∀ env : Env, env.scope = x.scope → env.scope.kind = .function → swapsWith (.ListComp elt gens scope pos) (some (.Name t pt)) line env = pure true := by
 intro env hs hk
 obtain ⟨h, h3⟩ := v0r.mp h
 obtain ⟨h1, h2⟩ := v0r.mp h
 show pure (env.blockKind == .function && env.kindOf t == some .local && pt.line == pos.line && !(scope.names.any fun (n, k) => n == t && (k == .local || k == .cell))) = pure true
 have e1 : env.blockKind = .function := by unfold Env.blockKind; rw [hk]; rfl
 have e2 : env.kindOf t = some .local := by
  have h1 := o4 h1
  rw [F7] at h1
  show env.scope.names.lookup t = _
  rw [hs]; exact h1
 have e3 : (scope.names.any fun (n, k) => n == t && (k == .local || k == .cell)) = false := by
  rw [List.any_eq_false]
  intro p hp
  have := v0w.mp h3 p hp
  obtain ⟨n, k⟩ := p
  have e : (n == t) = Fast.sEq n t := W6 n t
  show ¬ ((n == t && (k == .local || k == .cell)) = true)
  rw [e]
  cases k <;> simp_all [q5V]
 rw [e1, e2, e3, v0t h2]
 simp
noncomputable def asC (st : Stmt) : Stmt := .Assign [.Name (E5 (agN st)) (F3 (agN st))] (lcX (agL st)) (stP st)
section
variable {x : SX} {loc : Loc} {sto : Sto} {K : KF}
theorem XS.asC {st : Stmt} (hf : q5D (lcG (agL st)).iter = false) (fo : q5G x (lcS (agL st)) = true) (hk : (lcS (agL st)).kind = .function) (hy : (lcS (agL st)).names.lookup (E5 (lcG (agL st)).target) = some .local)
  (hs : q5W x.scope (E5 (agN st)) (F3 (agN st)) (exP (agL st)) (lcS (agL st)) = true)
  (h : EV x (lcG (agL st)).iter loc sto (CompS x (E5 (lcG (agL st)).target) (lcE (agL st)) (lcG (agL st)).ifs (lcS (agL st)) fun a s₁ => K .next (up loc (E5 (agN st)) a) s₁)) : XS x (Mine.asC st) loc sto K :=
 XS.assignComp (F5 hf) (S7 fo hk) hy (o4 (v0r.mp (v0r.mp hs).1).1) (q7H hs) h
end
noncomputable abbrev bF : List Stmt := fdB (A0 58)
noncomputable abbrev XF (x : SX) : SX := { w := x.w, fr := x.fr, d := x.d - 1, scope := fdS (A0 58), cm := [(S "counts", 2), (S "narrow", 3)] }
noncomputable abbrev cF : Expr := agL (nth bF 2)
noncomputable abbrev dF : Expr := agL (nth bF 5)
noncomputable abbrev yF : Str := E5 (lcG cF).target
noncomputable abbrev yD : Str := E5 (lcG dF).target
noncomputable def C1 (counts : List Int) (room : Nat) : Bool := decide (1 ≤ room) && decide (counts.getD room 0 < counts.getD (room - 1) 0)
def q0i (counts narrow : List Int) : Prop := 0 < counts.length ∧ counts.length ≤ 1001 ∧ C1 counts (counts.length - 1) = true ∧ ∀ room : Nat, room < counts.length → ((room = 0 ∨ (room : Int) ∉ narrow) ↔ C1 counts room = false)
noncomputable def fwO (counts narrow rooms sl fw : List Int) : Nat → AO
 | 0 => .lsI counts
 | 1 => .lsI narrow
 | 2 => .cell (.ref 0)
 | 3 => .cell (.ref 1)
 | 4 => .rng 0 (counts.length : Int) 1
 | 5 => .lsI rooms
 | 7 => .lsI sl
 | _ => .lsI fw
theorem q9F (counts narrow rooms sl fw : List Int) (k : Nat) : (fwO counts narrow rooms sl fw k).Lt 10 := by
 match k with
 | 0 => trivial
 | 1 => trivial
 | 2 => show 0 < 10; lia
 | 3 => show 1 < 10; lia
 | 4 => trivial
 | 5 => trivial
 | 6 => trivial
 | 7 => trivial
 | k + 8 => trivial
noncomputable def avs (l : List Nat) : List AV := l.map fun k : Nat => AV.int (k : Int)
theorem q7I (l : List Nat) : avs l = (toI l).map .int := by unfold avs toI; rw [v0W]; rfl
section
variable {x : SX} {loc : Loc} {sto : Sto} {K : AV → Sto → Prop} {counts narrow rooms sl fw es as ms due : List Int} {ys : List AV} {o o' : Obj} {k : Int} {O : Nat → AO}
theorem fw1 (KK : KF) : xw (XF x) (A5 D0 XL) 40 (bF.take 2) [] [.lsI counts, .lsI narrow, .cell (.ref 0), .cell (.ref 1)] KK = (counts.length ≤ sizeLine ∧ Builtin.Range.small 0 (counts.length : Int) 1 = true ∧ (0 ≤ (counts.length : Int) - 0 ∧ (counts.length : Int) - 0 ≤ 16777216) ∧ ((List.range ((counts.length : Int) - 0).toNat).map fun n : Nat => (0 : Int) + (n : Int)).length ≤ sizeLine ∧
  KK .next [(S "rooms", .ref 5), (S "first", .ref 6)] [.lsI counts, .lsI narrow, .cell (.ref 0), .cell (.ref 1), .rng 0 (counts.length : Int) 1, .lsI ((List.range ((counts.length : Int) - 0).toNat).map fun n : Nat => (0 : Int) + (n : Int)), .lsI ((List.range ((counts.length : Int) - 0).toNat).map fun n : Nat => (0 : Int) + (n : Int))]) := by rfl'
theorem fw2 (KK : KA1) : ew (XF x) (A5 D0 XL) 40 false (lcG cF).iter [(S "rooms", .ref 5), (S "first", .ref 6)] [.lsI counts, .lsI narrow, .cell (.ref 0), .cell (.ref 1), .rng 0 (counts.length : Int) 1, .lsI rooms, .lsI rooms] KK = (rooms.length ≤ sizeLine ∧ KK (.ref 7) [.lsI counts, .lsI narrow, .cell (.ref 0), .cell (.ref 1), .rng 0 (counts.length : Int) 1, .lsI rooms, .lsI rooms, .lsI (cutL rooms (some 1) none)]) := by rfl'
theorem fw3 (KK : KA1) : ew (cx (XF x) (lcS cF)) (A5 D0 XL) 40 true (A6 (lcG cF).ifs 0) [(yF, .int k)] [.lsI counts, .lsI narrow, .cell (.ref 0), .cell (.ref 1), .rng 0 (counts.length : Int) 1, .lsI rooms, .lsI rooms, .raw o, .lst ys, .raw o'] KK =
 (okIx k counts.length ∧ okIx (k - 1) counts.length ∧ KK (.bool (decide (counts.getD (ix k counts.length) 0 < counts.getD (ix (k - 1) counts.length) 0))) [.lsI counts, .lsI narrow, .cell (.ref 0), .cell (.ref 1), .rng 0 (counts.length : Int) 1, .lsI rooms, .lsI rooms, .raw o, .lst ys, .raw o']) := by rfl'
theorem fw4 (s : Sto) (KK : KA1) : ew (cx (XF x) (lcS cF)) (A5 D0 XL) 40 false (lcE cF) [(yF, .int k)] s KK = KK (.int k) s := by rfl'
theorem fw5 (KK : KF) : xw (XF x) (A5 D0 XL) 40 [nth bF 3] [(S "rooms", .ref 5), (S "first", .ref 6), (S "fewer", .ref 8)] [.lsI counts, .lsI narrow, .cell (.ref 0), .cell (.ref 1), .rng 0 (counts.length : Int) 1, .lsI rooms, .lsI es, .lsI sl, .lsI fw] KK =
 (fw.length ≤ sizeLine ∧ KK .next [(S "rooms", .ref 5), (S "first", .ref 6), (S "fewer", .ref 8), (S "second", .ref 9)] [.lsI counts, .lsI narrow, .cell (.ref 0), .cell (.ref 1), .rng 0 (counts.length : Int) 1, .lsI rooms, .lsI es, .lsI sl, .lsI fw, .lsI fw]) := by rfl'
theorem fw6 (KK : KF) : xw (XF x) (A5 (Y5 829 [.ref 6, .ref 9] (sS0 O es as) (.ref 12) (sS O es as ms [] ++ [.tup [.ref 10, .ref 11]]) D0) XL) 40 [nth bF 4] [(S "rooms", .ref 5), (S "first", .ref 6), (S "fewer", .ref 8), (S "second", .ref 9)] (sS0 O es as) KK =
 ([AV.ref 6, .ref 9] = [AV.ref 6, .ref 9] ∧ sS0 O es as = sS0 O es as ∧ KK .next [(S "rooms", .ref 5), (S "first", .ref 6), (S "fewer", .ref 8), (S "second", .ref 9), (S "told", .ref 12)] (sS O es as ms [] ++ [.tup [.ref 10, .ref 11]])) := by rfl'
theorem fw7 (s : Sto) (KK : KA1) : ew (XF x) (A5 D0 XL) 40 false (lcG dF).iter [(S "rooms", .ref 5), (S "first", .ref 6), (S "fewer", .ref 8), (S "second", .ref 9), (S "told", .ref 12)] s KK = KK (.ref 5) s := by rfl'
noncomputable def fwD (counts narrow es sl fw as ms : List Int) (a : AO) : Sto := [.lsI counts, .lsI narrow, .cell (.ref 0), .cell (.ref 1), .rng 0 (counts.length : Int) 1, a, .lsI es, .lsI sl, .lsI fw, .lsI as, .lsI ms, .lsI [], .tup [.ref 10, .ref 11]]
theorem fw8 (KK : KA1) : ew (cx (XF x) (lcS dF)) (A5 D0 XL) 40 true (A6 (lcG dF).ifs 0) [(yD, .int k)] (fwD counts narrow es sl fw as ms (.raw o) ++ [.lst ys, .raw o']) KK =
 cnd (k == 0) (KK (.bool true) (fwD counts narrow es sl fw as ms (.raw o) ++ [.lst ys, .raw o'])) (cnd (!decide (k ∈ narrow)) (KK (.bool true) (fwD counts narrow es sl fw as ms (.raw o) ++ [.lst ys, .raw o'])) (KK (.bool false) (fwD counts narrow es sl fw as ms (.raw o) ++ [.lst ys, .raw o']))) := by rfl'
theorem fw9 (s : Sto) (KK : KA1) : ew (cx (XF x) (lcS dF)) (A5 D0 XL) 40 false (lcE dF) [(yD, .int k)] s KK = KK (.int k) s := by rfl'
theorem fw10 (KK : KF) : xw (XF x) (A5 D0 XL) 40 (bF.drop 6) [(S "rooms", .ref 5), (S "first", .ref 6), (S "fewer", .ref 8), (S "second", .ref 9), (S "told", .ref 12), (S "due", .ref 13)] (fwD counts narrow es sl fw as ms (.lsI rooms) ++ [.lsI due]) KK =
 (0 ≤ sizeLine ∧ 2 ≤ sizeLine ∧ cnd (decide (ms = due) && decide (([] : List Int) = [])) (cnd (decide (es = rooms)) (KK (.ret (.bool (decide (as = fw)))) [(S "rooms", .ref 5), (S "first", .ref 6), (S "fewer", .ref 8), (S "second", .ref 9), (S "told", .ref 12), (S "due", .ref 13)] (fwD counts narrow es sl fw as ms (.lsI rooms) ++ [.lsI due, .lst [], .tup [.ref 13, .ref 14]]))
   (KK (.ret (.bool (decide (es = rooms)))) [(S "rooms", .ref 5), (S "first", .ref 6), (S "fewer", .ref 8), (S "second", .ref 9), (S "told", .ref 12), (S "due", .ref 13)] (fwD counts narrow es sl fw as ms (.lsI rooms) ++ [.lsI due, .lst [], .tup [.ref 13, .ref 14]])))
  (KK (.ret (.bool (decide (ms = due) && decide (([] : List Int) = [])))) [(S "rooms", .ref 5), (S "first", .ref 6), (S "fewer", .ref 8), (S "second", .ref 9), (S "told", .ref 12), (S "due", .ref 13)] (fwD counts narrow es sl fw as ms (.lsI rooms) ++ [.lsI due, .lst [], .tup [.ref 13, .ref 14]]))) := by rfl'
end
theorem q5X {l : List Nat} : ∀ α ob, OR α (.lst (avs l)) ob → OR α (.lsI (toI l)) ob := fun α ob h => by
 have h : LRep α (avs l) ob := h
 rw [q7I] at h; exact h
theorem q9G (n : Nat) : ((List.range ((n : Int) - 0).toNat).map fun k : Nat => (0 : Int) + (k : Int)) = toI (List.range n) := by
 rw [Int.sub_zero, Int.toNat_natCast]
 unfold toI
 exact List.map_congr_left fun a _ => Int.zero_add _
theorem cut1 (n : Nat) : cutL (toI (List.range n)) (some 1) none = toI (List.range' 1 (n - 1)) := by
 unfold cutL bnd
 rw [G7, v0X]
 simp only [if_neg (show ¬ ((1 : Int) < 0) by decide)]
 by_cases h : n = 0
 ·subst h; rfl
 ·rw [show (max 0 (min (1 : Int) (n : Int))).toNat = 1 by lia]
  unfold toI
  rw [← List.map_drop, ← List.map_take]
  congr 1
  rw [List.range_eq_range', List.drop_range', List.take_of_length_le (by rw [List.length_range']; exact v0h _)]
theorem q1x {a i m : Nat} (h : i < m) : (List.range' a m).getD i 0 = a + i := by
 rw [v0J, List.getElem?_range' h]; simp
theorem q1y (p : Nat → Bool) (h : p 0 = false) (n : Nat) : (List.range' 1 (n - 1)).filter p = pA p n := by
 cases n with
 | zero => rfl
 | succ n =>
  have := j7 p (i := 1) (m := n)
  rw [Nat.add_comm 1 n] at this
  rw [this, show pA p 1 = [] from by unfold pA; simp [v0N, h]]
  simp
section
variable {x : SX} {loc : Loc} {sto : Sto} {K : AV → Sto → Prop}
theorem q7J (hr : x.fr = true) (hd : 2 ≤ x.d) {counts narrow : List Int} (hF : q0i counts narrow) (h : K (.bool true) [.lsI counts, .lsI narrow]) : CallS x (.ref 891) [.ref 0, .ref 1] [] loc [.lsI counts, .lsI narrow] K := by
 obtain ⟨hL, hL2, hlast, hdue⟩ := hF
 refine q3v (o := k891 x.w.params) (fd := C9 (k891 x.w.params)) (body := fdB (A0 58)) (scope := fdS (A0 58)) (cm := [(S "counts", 2), (S "narrow", 3)]) (cvs := [.ref 0, .ref 1]) (cns := [S "counts", S "narrow"]) (by rfl') (by rfl') (by rfl') (by rfl') (by rfl') (by rfl') (by rfl') (by rfl')
  (cns2 (fun n => by rfl') (fun n => by rfl')) (mem2 (by rfl') (by rfl')) (lk2 ⟨v0h _, rfl⟩ ⟨Nat.le_succ _, rfl⟩) rfl (by decide +kernel) (fun α vs r => ?_) (by lia) ?_ (by rfl') (by rfl') (by rfl')
 ·obtain ⟨v, w, rfl, r1, r2⟩ := r.two
  have : ∀ (P : Params) (v w : Value), bindArgs (C9 (k891 P)) ⟨[v, w], []⟩ = pure [(S "counts", v), (S "narrow", w)] := fun P v w => by rfl'
  exact ⟨[v, w], this _ v w, r1, r2, trivial⟩
 ·show XSs (XF x) bF [] [.lsI counts, .lsI narrow, .cell (.ref 0), .cell (.ref 1)] (BodyK 2 K)
  have TO := B2 (x := XF x) (A9 _) (Y9 _)
  refine XSs.mid (pre := bF.take 2) (st := asC (nth bF 2)) (post := bF.drop 3) (by rfl') (A1 TO 40 _ _ _ _ ?_)
  rw [fw1, q9G]
  have hR : (toI (List.range counts.length)).length = counts.length := by rw [G7, v0X]
  refine ⟨sz (by lia), small_one (by decide) (by decide) (by lia) (by lia), ⟨by lia, by lia⟩, sz (by lia), ?_⟩
  have hp0 : C1 counts 0 = false := rfl
  have hgd : ∀ i, i < counts.length → okIx (i : Int) counts.length ∧ ix (i : Int) counts.length = i := fun i hi => o0 hi (by lia)
  show XS (XF x) (asC (nth bF 2)) [(S "rooms", .ref 5), (S "first", .ref 6)] [.lsI counts, .lsI narrow, .cell (.ref 0), .cell (.ref 1), .rng 0 (counts.length : Int) 1, .lsI (toI (List.range counts.length)), .lsI (toI (List.range counts.length))] _
  refine XS.asC (by rfl') (by rfl') (by rfl') (by rfl') (by rfl') (A4 TO 40 false _ _ _ _ ?_)
  rw [fw2, cut1, show (lcG cF).ifs = [A6 (lcG cF).ifs 0] from by rfl']
  refine ⟨sz (by lia), (toI (List.range' 1 (counts.length - 1))).length, _, _, .lsI rfl, sz (by rw [G7, List.length_range']; lia), ?_, fun o => ⟨fun i ys s => ys = avs ((List.range' 1 i).filter (C1 counts)) ∧ s = [.lsI counts, .lsI narrow, .cell (.ref 0), .cell (.ref 1), .rng 0 (counts.length : Int) 1, .lsI (toI (List.range counts.length)), .lsI (toI (List.range counts.length)), .raw o], ?_, ⟨rfl, rfl⟩, ?_, ?_⟩⟩
  ·intro q hq
   first | exact A7 (by rfl') _ hq | exact B9 (by rfl') _ hq | exact flJ rfl (by rfl') _ hq | exact C7 (by rfl') _ hq
  ·rintro i ys s ⟨rfl, rfl⟩ p hp
   cases v0c.mp hp
   rfl
  ·rintro i ys s o' hi hl ⟨rfl, rfl⟩
   rw [G7, List.length_range'] at hi
   have hel : (toI (List.range' 1 (counts.length - 1))).getD i 0 = ((1 + i : Nat) : Int) := by rw [Z0, q1x hi]
   rw [hel]
   obtain ⟨k1, k2⟩ := hgd (1 + i) (by lia)
   obtain ⟨k3, k4⟩ := hgd i (by lia)
   have hi1 : ((1 + i : Nat) : Int) - 1 = (i : Int) := by lia
   have hsn : (List.range' 1 (i + 1)).filter (C1 counts) = (List.range' 1 i).filter (C1 counts) ++ (if C1 counts (1 + i) then [1 + i] else []) := by
    rw [List.range'_concat, List.filter_append, v1c, List.filter_nil, Nat.one_mul]
   have hpe : C1 counts (1 + i) = decide (counts.getD (1 + i) 0 < counts.getD i 0) := by
    unfold C1
    rw [decide_eq_true (show 1 ≤ 1 + i by lia), Bool.true_and, show 1 + i - 1 = i by lia]
   generalize hys : avs ((List.range' 1 i).filter (C1 counts)) = ys
   generalize hkk : ((1 + i : Nat) : Int) = kk at *
   refine A4 (B2 (x := cx (XF x) (lcS cF)) (A9 _) (Y9 _)) 40 true _ _ _ _ ?_
   show ew (cx (XF x) (lcS cF)) (A5 D0 XL) 40 true (A6 (lcG cF).ifs 0) [(yF, .int kk)] [.lsI counts, .lsI narrow, .cell (.ref 0), .cell (.ref 1), .rng 0 (counts.length : Int) 1, .lsI (toI (List.range counts.length)), .lsI (toI (List.range counts.length)), .raw o, .lst ys, .raw o'] _
   rw [fw3, hi1, k2, k4, ← hpe]
   refine ⟨k1, k3, rfl, ?_⟩
   show cnd (C1 counts (1 + i)) _ _
   refine cnd_iff.mpr ⟨fun hc => ?_, fun hc => ⟨?_, rfl⟩⟩
   ·refine A4 (B2 (x := cx (XF x) (lcS cF)) (A9 _) (Y9 _)) 40 false _ _ _ _ ?_
    rw [fw4]
    refine ⟨[.lsI counts, .lsI narrow, .cell (.ref 0), .cell (.ref 1), .rng 0 (counts.length : Int) 1, .lsI (toI (List.range counts.length)), .lsI (toI (List.range counts.length)), .raw o], [], rfl, rfl, trivial, fun q hq => ?_, ?_, rfl⟩
    ·first | exact A7 (by rfl') _ hq | exact B9 (by rfl') _ hq | exact flJ rfl (by rfl') _ hq | exact C7 (by rfl') _ hq
    ·rw [hsn, if_pos hc, ← hys, ← hkk]; unfold avs; rw [v0M]; rfl
   ·rw [hsn, hc, ← hys]; simp
  ·rintro ys s hl ⟨rfl, rfl⟩
   rw [G7, List.length_range', q1y _ hp0]
   show XSs (XF x) (bF.drop 3) [(S "rooms", .ref 5), (S "first", .ref 6), (S "fewer", .ref 8)] [.lsI counts, .lsI narrow, .cell (.ref 0), .cell (.ref 1), .rng 0 (counts.length : Int) 1, .lsI (toI (List.range counts.length)), .lsI (toI (List.range counts.length)), .lsI (toI (List.range' 1 (counts.length - 1))), .lst (avs (pA (C1 counts) counts.length))] (BodyK 2 K)
   refine SS.conv (i := 8) (.lsI (toI (pA (C1 counts) counts.length))) rfl q5X ?_
   have hpl : (toI (pA (C1 counts) counts.length)).length ≤ 2000 := by rw [G7]; unfold pA; have := List.length_filter_le (C1 counts) (List.range counts.length); rw [v0X] at this; lia
   rw [show bF.drop 3 = [nth bF 3] ++ ([nth bF 4] ++ (asC (nth bF 5) :: bF.drop 6)) from by rfl']
   refine XSs.append (A1 TO 40 _ _ _ _ ?_)
   show xw (XF x) (A5 D0 XL) 40 [nth bF 3] [(S "rooms", .ref 5), (S "first", .ref 6), (S "fewer", .ref 8)] [.lsI counts, .lsI narrow, .cell (.ref 0), .cell (.ref 1), .rng 0 (counts.length : Int) 1, .lsI (toI (List.range counts.length)), .lsI (toI (List.range counts.length)), .lsI (toI (List.range' 1 (counts.length - 1))), .lsI (toI (pA (C1 counts) counts.length))] _
   rw [fw5]
   refine ⟨sz (by lia), ?_⟩
   have cS : ∀ (loc : Loc) (K : AV → Sto → Prop), K (.ref 12) (sS (fwO counts narrow (toI (List.range counts.length)) (toI (List.range' 1 (counts.length - 1))) (toI (pA (C1 counts) counts.length))) (toI (List.range counts.length)) (toI (pA (C1 counts) counts.length)) (toI (pB (C1 counts) counts.length)) [] ++ [.tup [.ref 10, .ref 11]]) →
     CodeS (XF x) (.ref 829) [.ref 6, .ref 9] [] loc (sS0 (fwO counts narrow (toI (List.range counts.length)) (toI (List.range' 1 (counts.length - 1))) (toI (pA (C1 counts) counts.length))) (toI (List.range counts.length)) (toI (pA (C1 counts) counts.length))) K :=
    fun loc K hK => cSld (x := XF x) (O := fwO counts narrow (toI (List.range counts.length)) (toI (List.range' 1 (counts.length - 1))) (toI (pA (C1 counts) counts.length))) hr (by show 1 ≤ x.d - 1; lia) (q9F _ _ _ _ _) hL (by lia) hlast hK
   generalize hes : toI (List.range counts.length) = es at *
   generalize has : toI (pA (C1 counts) counts.length) = as at *
   generalize hms : toI (pB (C1 counts) counts.length) = ms at *
   generalize toI (List.range' 1 (counts.length - 1)) = sl at *
   have TD : D8 (XF x) (A5 (Y5 829 [.ref 6, .ref 9] (sS0 (fwO counts narrow es sl as) es as) (.ref 12) (sS (fwO counts narrow es sl as) es as ms [] ++ [.tup [.ref 10, .ref 11]]) D0) XL) := B2 (P3 (fun loc K h => (cS loc K h).call) (fn829.keep _) (A9 _)) (Y9 _)
   have e6 := fw6 (x := x) (O := fwO counts narrow es sl as) (es := es) (as := as) (ms := ms)
   generalize hs0 : sS0 (fwO counts narrow es sl as) es as = s0 at *
   generalize hs1 : sS (fwO counts narrow es sl as) es as ms [] ++ [.tup [.ref 10, .ref 11]] = s1 at *
   have hs0' : [.lsI counts, .lsI narrow, .cell (.ref 0), .cell (.ref 1), .rng 0 (counts.length : Int) 1, .lsI es, .lsI es, .lsI sl, .lsI as, .lsI as] = s0 := hs0
   rw [hs0']
   refine XSs.append (A1 TD 40 _ _ _ _ ?_)
   rw [e6]
   refine ⟨rfl, rfl, XSs.cons ?_⟩
   rw [← hs1]
   show XS (XF x) (asC (nth bF 5)) [(S "rooms", .ref 5), (S "first", .ref 6), (S "fewer", .ref 8), (S "second", .ref 9), (S "told", .ref 12)] (fwD counts narrow es sl as as ms (.lsI es)) _
   refine XS.asC (by rfl') (by rfl') (by rfl') (by rfl') (by rfl') (A4 TO 40 false _ _ _ _ ?_)
   rw [fw7, show (lcG dF).ifs = [A6 (lcG dF).ifs 0] from by rfl']
   refine ⟨es.length, _, _, .lsI rfl, sz (by lia), A7 (by rfl'), fun o => ⟨fun i ys s => ys = avs (pB (C1 counts) i) ∧ s = fwD counts narrow es sl as as ms (.raw o), ?_, ⟨rfl, rfl⟩, ?_, ?_⟩⟩
   ·rintro i ys s ⟨rfl, rfl⟩ p hp
    cases v0c.mp hp
    rfl
   ·rintro i ys s o' hi hl ⟨rfl, rfl⟩
    rw [hR] at hi
    have hel : es.getD i 0 = (i : Int) := by rw [← hes, Z0, o3 hi]
    rw [hel]
    have hd := hdue i hi
    have hsn := u8 (C1 counts) i
    generalize hys : avs (pB (C1 counts) i) = ys
    generalize hkk : (i : Int) = kk at *
    refine A4 (B2 (x := cx (XF x) (lcS dF)) (A9 _) (Y9 _)) 40 true _ _ _ _ ?_
    show ew (cx (XF x) (lcS dF)) (A5 D0 XL) 40 true (A6 (lcG dF).ifs 0) [(yD, .int kk)] (fwD counts narrow es sl as as ms (.raw o) ++ [.lst ys, .raw o']) _
    rw [fw8]
    have yes : C1 counts i = false → (fwD counts narrow es sl as as ms (.raw o) ++ [.lst ys, .raw o'] = fwD counts narrow es sl as as ms (.raw o) ++ [.lst ys, .raw o'] ∧ I0 (.bool true) (EV (cx (XF x) (lcS dF)) (lcE dF) [(yD, .int kk)] (fwD counts narrow es sl as as ms (.raw o) ++ [.lst ys, .raw o']) (V6 (fun ys s => ys = avs (pB (C1 counts) (i + 1)) ∧ s = fwD counts narrow es sl as as ms (.raw o)) ys 13 o')) (ys = avs (pB (C1 counts) (i + 1)) ∧ fwD counts narrow es sl as as ms (.raw o) = fwD counts narrow es sl as as ms (.raw o))) := fun hc => by
     refine ⟨rfl, A4 (B2 (x := cx (XF x) (lcS dF)) (A9 _) (Y9 _)) 40 false _ _ _ _ ?_⟩
     rw [fw9]
     refine ⟨fwD counts narrow es sl as as ms (.raw o), [], rfl, rfl, trivial, A7 (by rfl'), ?_, rfl⟩
     rw [hsn, hc, ← hys, ← hkk]; unfold avs; rw [v0M]; rfl
    refine cnd_iff.mpr ⟨fun hc => yes (hd.mp (.inl ?_)), fun hc => cnd_iff.mpr ⟨fun hc' => yes (hd.mp (.inr ?_)), fun hc' => ⟨rfl, ?_⟩⟩⟩
    ·have := beq_iff_eq.mp hc; lia
    ·simpa using hc'
    ·show ys = avs (pB (C1 counts) (i + 1)) ∧ _
     have : C1 counts i = true := by
      cases q : C1 counts i with
      | true => rfl
      | false =>
       rcases hd.mpr q with z | z
       ·rw [beq_eq_false_iff_ne] at hc; lia
       ·simp at hc'; exact absurd hc' z
     rw [hsn, this, ← hys]; simp
   ·rintro ys s hl ⟨rfl, rfl⟩
    rw [hR]
    show XSs (XF x) (bF.drop 6) [(S "rooms", .ref 5), (S "first", .ref 6), (S "fewer", .ref 8), (S "second", .ref 9), (S "told", .ref 12), (S "due", .ref 13)] (fwD counts narrow es sl as as ms (.lsI es) ++ [.lst (avs (pB (C1 counts) counts.length))]) (BodyK 2 K)
    refine SS.conv (i := 13) (.lsI (toI (pB (C1 counts) counts.length))) rfl q5X ?_
    rw [hms]
    refine A1 TO 40 _ _ _ _ ?_
    show xw (XF x) (A5 D0 XL) 40 (bF.drop 6) [(S "rooms", .ref 5), (S "first", .ref 6), (S "fewer", .ref 8), (S "second", .ref 9), (S "told", .ref 12), (S "due", .ref 13)] (fwD counts narrow es sl as as ms (.lsI es) ++ [.lsI ms]) _
    rw [fw10, decide_eq_true (rfl : ms = ms), decide_eq_true (rfl : es = es), decide_eq_true (rfl : as = as), decide_eq_true (rfl : ([] : List Int) = [])]
    refine ⟨sz (by lia), sz (by lia), .inl ⟨[.lsI counts, .lsI narrow], [.cell (.ref 0), .cell (.ref 1), .rng 0 (counts.length : Int) 1, .lsI es, .lsI es, .lsI sl, .lsI as, .lsI as, .lsI ms, .lsI [], .tup [.ref 10, .ref 11], .lsI ms, .lst [], .tup [.ref 13, .ref 14]], rfl, rfl, trivial, fun q hq => ?_, h⟩⟩
    first | exact A7 (by rfl') _ hq | exact B9 (by rfl') _ hq | exact flJ rfl (by rfl') _ hq | exact C7 (by rfl') _ hq
end
section
variable {x : SX} {c : Cx} {α : List Addr} {loc : Loc} {sto : Sto} {s : Shared}
theorem Sat.pick (S : Sat x c α loc sto s) (hcm : x.cm = []) (js : List Nat) (hjs : js.Nodup) (hlt : ∀ j ∈ js, j < sto.length) {s₂ : Sto} (h2 : s₂.length = js.length) (hat : ∀ (i j : Nat), js[i]? = some j → s₂[i]? = sto[j]?) (flat : C2 0 s₂) {loc₂ : Loc}
  (hl : ∀ y v, loc₂.lookup y = some v → v.Lt js.length ∧ loc.lookup y = some (ren js v)) : Sat x c (js.map fun j => α.getD j 0) loc₂ s₂ s := by
 obtain ⟨m, F, l⟩ := S.fr
 have ln := S.hs.len
 have aat : ∀ {i j : Nat}, js[i]? = some j → (js.map fun j => α.getD j 0)[i]? = some (α.getD j 0) ∧ α[j]? = some (α.getD j 0) := fun {i j} e =>
  ⟨by rw [v0L, e]; rfl, C0 (by rw [ln]; exact hlt j (v0i e))⟩
 have inj : ∀ {i j : Nat} {a : Addr}, α[i]? = some a → α[j]? = some a → i = j := fun {i j a} e1 e2 => by
  obtain ⟨p1, q1⟩ := q9W.mp e1
  obtain ⟨p2, q2⟩ := q9W.mp e2
  exact (v0m S.hs.nd).mp (q1.trans q2.symm)
 refine ⟨⟨m, F, fun y v e => ?_⟩, ⟨by simp [h2], ?_, fun i o e => ?_⟩, fun a ha => ?_, S.os, S.gens, fun y i e => by rw [hcm] at e; cases e⟩
 ·obtain ⟨hv, e'⟩ := hl y v e
  obtain ⟨u, h1, h3⟩ := l y _ e'
  refine ⟨u, h1, ?_⟩
  cases v <;> try exact h3
  rename_i i
  obtain ⟨a, h4, h5⟩ := h3
  have ej : js[i]? = some (js.getD i 0) := C0 hv
  obtain ⟨p1, p2⟩ := aat ej
  rw [p2] at h4; cases h4
  exact ⟨_, p1, h5⟩
 ·rw [List.Nodup, List.pairwise_map]
  refine hjs.imp_of_mem fun {a b} ha hb hne q => hne ?_
  exact inj (a := α.getD a 0) (C0 (by rw [ln]; exact hlt a ha)) (by rw [show α.getD a 0 = α.getD b 0 from q]; exact C0 (by rw [ln]; exact hlt b hb))
 ·have hi : i < js.length := h2 ▸ (q9W.mp e).1
  have ej : js[i]? = some js[i] := q9Z hi
  obtain ⟨p1, p2⟩ := aat ej
  rw [hat i _ ej] at e
  obtain ⟨ob, h3, h4⟩ := S.objAt p2 e
  exact ⟨_, ob, p1, h3, h4.flat (flat o (by rw [← hat i _ ej] at e; exact v0i e))⟩
 ·obtain ⟨j, hj, rfl⟩ := v0z.mp ha
  exact S.off _ (v0i (C0 (d := 0) (by rw [ln]; exact hlt j hj)))
def SM (x : SX) (c : Cx) (α₀ : List Addr) (t : Sem Flow) (loc : Loc) (sto : Sto) (K : KF) : Prop :=
 ∀ β s Q E, Ok x c → Sat x c (α₀ ++ β) loc sto s → (∀ f loc' sto' β' s' fl, K f loc' sto' → Sat x c (α₀ ++ β') loc' sto' s' → FR (α₀ ++ β') f fl → Q fl s') → wpAny (model pw x.w) c.A t Q E s
variable {α₀ : List Addr} {K : KF}
theorem SM.mid {B pre post : List Stmt} {st : Stmt} (hB : B = pre ++ st :: post) (h : SM x c α₀ (execs pre c.env) loc sto fun f l s => match f with
  | .next => SM x c α₀ (exec st c.env) l s (fun f l s => match f with
   | .next => SM x c α₀ (execs post c.env) l s K
   | f => K f l s)
  | f => K f l s) : SM x c α₀ (execs B c.env) loc sto K := by
 subst hB
 intro β s Q E O S P
 rw [E4]
 refine v1e (h β s _ E O S fun f l1 s1 α1 t1 fl hf S1 r1 => ?_)
 cases f with
 | next =>
  obtain rfl : fl = .next := r1
  refine v1m (hf α1 t1 _ E O S1 fun f l2 s2 α2 t2 fl2 h2 S2 r2 => ?_)
  cases f with
  | next =>
   obtain rfl : fl2 = .next := r2
   exact h2 α2 t2 Q E O S2 P
  | brk => obtain rfl : fl2 = .brk := r2; exact P .brk l2 s2 α2 t2 _ h2 S2 rfl
  | cont => obtain rfl : fl2 = .cont := r2; exact P .cont l2 s2 α2 t2 _ h2 S2 rfl
  | ret v => obtain ⟨u, rfl, hu⟩ := r2; exact P (.ret v) l2 s2 α2 t2 _ h2 S2 ⟨u, rfl, hu⟩
 | brk => obtain rfl : fl = .brk := r1; exact v1h (P .brk l1 s1 α1 t1 _ hf S1 rfl)
 | cont => obtain rfl : fl = .cont := r1; exact v1h (P .cont l1 s1 α1 t1 _ hf S1 rfl)
 | ret v => obtain ⟨u, rfl, hu⟩ := r1; exact v1h (P (.ret v) l1 s1 α1 t1 _ hf S1 ⟨u, rfl, hu⟩)
noncomputable def q2I (b : Nat) (Inv : Loc → Sto → Prop) (k : Nat) (o : Obj) : KF := fun f loc' sto' => match f with
 | .next => ∃ js loc₂ s₂, sto'[k]? = some (.raw o) ∧ (js.Nodup ∧ k ∉ js ∧ ∀ j ∈ js, j < sto'.length) ∧ (∃ r, js = List.range b ++ r) ∧ s₂.length = js.length ∧ (∀ i j : Nat, js[i]? = some j → s₂[i]? = sto'[j]?) ∧ C2 0 s₂ ∧ (∀ y v, loc₂.lookup y = some v → v.Lt js.length ∧ loc'.lookup y = some (ren js v)) ∧ Inv loc₂ s₂
 | _ => False
theorem j8 (α₀ β : List Addr) (r : List Nat) : ((List.range α₀.length ++ r).map fun j => (α₀ ++ β).getD j 0) = α₀ ++ r.map fun j => (α₀ ++ β).getD j 0 := by
 rw [v0M]
 congr 1
 apply List.ext_getElem
 ·simp
 ·intro i h1 h2
  simp at h1
  rw [List.getElem_map, List.getElem_range, v0J, q9V h2, q9Z h2]; rfl
def MJ (x : SX) (c : Cx) (α₀ : List Addr) (St : Nat → Heap → Prop) (Inv : Nat → Loc → Sto → Prop) (n : Nat) (I : Addr) (k : Nat) (s : Shared) : Prop := ∃ i loc sto β, k = n + 1 - i ∧ i ≤ n ∧ Sat x c (α₀ ++ β) loc sto s ∧ St i s.heap ∧ Inv i loc sto ∧ I ∉ α₀ ++ β
theorem SM.forR {y : Str} {p pos : Pos} {iter : Expr} {body : List Stmt} (hcm : x.cm = []) (hy : lk x.scope.names y = some .local) (hf : ∀ env v, foldedSetIterable iter env v = pure v)
  (h : EV x iter loc sto fun a s₁ => ∃ n el, SrcIs s₁ a n el none ∧ (∀ i, (el i).Lt 0) ∧ ∃ Inv : Nat → Loc → Sto → Prop, Inv 0 loc s₁ ∧
   (∀ i loc s o', i < n → Inv i loc s → XSs x body (up loc y (el i)) (s ++ [.raw o']) (q2I α₀.length (Inv (i + 1)) s.length o')) ∧
   (∀ loc s, Inv n loc s → K .next loc s)) : SM x c α₀ (exec (.For (.Name y p) iter body [] pos) c.env) loc sto K := by
 intro β s Q E O S P
 refine wpAny_For (h c (α₀ ++ β) s _ E O S fun a s1 α1 t1 va ha g1 S1 r1 => ?_) (hf _)
 obtain ⟨n, el, hsrc, hfl, Inv, h0, step, done⟩ := ha
 obtain ⟨γ, rfl⟩ := g1
 rw [v0P] at S1 r1
 refine Z8 O S1 r1 hsrc fun I fp PP St o s₂ W hst hIo hIα hIL hI₀ _ hP hfp S₂ hz0 un => ?_
 have hfp : ∀ b ∈ fp, b = I := fun b hb => by
  rcases hfp b hb with h | ⟨p, hp, _⟩
  ·exact h
  ·cases hp
 refine codeAny_forLoop (MJ x c α₀ St Inv n I) ?_ (n + 1) ⟨0, loc, s1, β ++ γ, rfl, Nat.zero_le _, S₂, hst, h0, hIα⟩
 clear S₂ hz0 un h0 S1 r1 hsrc S
 intro k s' hJ
 refine small fun G hG => ?_
 obtain ⟨i, loc, sto, β, rfl, hi, S, hst, hInv, hIα⟩ := hJ
 refine hG ?_
 clear hG
 by_cases hlt : i < n
 ·refine W.item i s' _ _ hlt hst fun v h₁ tk hPv hst₁ hk => ?_
  have S₁ : Sat x c (α₀ ++ β) loc sto { s' with heap := h₁, toks := tk } := S.but hIα hIL hI₀ hk
  obtain ⟨m, F₁, l⟩ := S₁.fr
  have rv : VR (α₀ ++ β) (el i) v := (hP i v hlt hPv).flat (hfl i)
  refine v1o (v1l (B8 O hy) F₁.ns (fun h₂ hn hs => ?_) (by rw [O.kind]; rfl))
  have S₂ : Sat x c (α₀ ++ β) (up loc y (el i)) sto { s' with heap := h₂, toks := tk + 1 } := S₁.setLoc rv F₁ l hn hs
  obtain ⟨oI, hoI⟩ := hIo _ _ hst₁
  have hoI₂ : h₂.get? I = some oI := (hs.2 I hIL).trans hoI
  have S₃ := S₂.addRaw hIα hIL hI₀ hoI₂
  refine step i loc sto oI hlt hInv c _ _ _ _ O S₃ fun f loc' sto' α' s₃ fl hf hx S₄ r => ?_
  obtain ⟨δ, rfl⟩ := hx
  cases f with
  | next =>
   obtain rfl : fl = .next := r
   obtain ⟨js, loc₂, s₂, e1, ⟨e2, e3, e4⟩, ⟨rr, rfl⟩, e5, e6, e7, e8, e9⟩ := hf
   have la := S.hs.len
   have S₅ := S₄.pick hcm _ e2 e4 e5 e6 e7 e8
   rw [show (α₀ ++ β ++ [I] ++ δ) = α₀ ++ (β ++ [I] ++ δ) by simp, j8] at S₅
   refine ⟨n + 1 - (i + 1), by lia, i + 1, loc₂, s₂, _, rfl, hlt, S₅, ?_, e9, fun hm => ?_⟩
   ·refine W.frame _ _ _ hst₁ fun b hb o e => ?_
    rw [hfp b hb] at e ⊢
    refine Eq.trans ?_ (hoI.symm.trans e)
    exact S₄.rawAt (i := sto.length) (by rw [← la, q9V (by simp), v0d (v0h _), v0q]; rfl) e1
   ·rw [← j8, show α₀ ++ (β ++ [I] ++ δ) = (α₀ ++ β ++ [I] ++ δ) by simp] at hm
    obtain ⟨j, hj, ej⟩ := v0z.mp hm
    have l4 := S₄.hs.len
    have h1 : (α₀ ++ β ++ [I] ++ δ)[j]? = some I := (C0 (d := 0) (by rw [l4]; exact e4 j hj)).trans (congrArg some ej)
    have h2 : (α₀ ++ β ++ [I] ++ δ)[sto.length]? = some I := by rw [← la, q9V (by simp), v0d (v0h _), v0q]; rfl
    obtain ⟨p1, q1⟩ := q9W.mp h1
    obtain ⟨p2, q2⟩ := q9W.mp h2
    have := (v0m S₄.hs.nd).mp (q1.trans q2.symm)
    exact e3 (this ▸ hj)
  | brk => exact hf.elim
  | cont => exact hf.elim
  | ret v => exact hf.elim
 ·obtain rfl : i = n := by lia
  refine W.done s' _ _ hst fun h₁ tk hk => v1n ?_
  exact P .next loc sto β _ _ (done loc sto hInv) (S.but hIα hIL hI₀ hk) rfl
end
section
variable {x : SX} {c : Cx} {loc : Loc} {sto : Sto} {α₀ : List Addr} {K : KF}
theorem SM.pick {t : Sem Flow} (hcm : x.cm = []) (r : List Nat) (hjs : (List.range α₀.length ++ r).Nodup) (hlt : ∀ j ∈ List.range α₀.length ++ r, j < sto.length) {s₂ : Sto} (h2 : s₂.length = (List.range α₀.length ++ r).length) (hat : ∀ (i j : Nat), (List.range α₀.length ++ r)[i]? = some j → s₂[i]? = sto[j]?) (flat : C2 0 s₂) {loc₂ : Loc}
  (hl : ∀ y v, loc₂.lookup y = some v → v.Lt (List.range α₀.length ++ r).length ∧ loc.lookup y = some (ren (List.range α₀.length ++ r) v)) (h : SM x c α₀ t loc₂ s₂ K) : SM x c α₀ t loc sto K := fun β s Q E O S P => by
 have S₂ := S.pick hcm _ hjs hlt h2 hat flat hl
 rw [j8] at S₂
 exact h _ s Q E O S₂ P
theorem SM.conv {t : Sem Flow} {i : Nat} {ao : AO} (ao' : AO) (hi : sto[i]? = some ao) (f : ∀ α ob, OR α ao ob → OR α ao' ob) (h : SM x c α₀ t loc (sto.set i ao') K) : SM x c α₀ t loc sto K :=
 fun β s Q E O S P => h β s Q E O (S.conv hi (f _)) P
theorem SM.ofs {sts : List Stmt} (h : XSs x sts loc sto K) : SM x c α₀ (execs sts c.env) loc sto K := fun β s Q E O S P => h c (α₀ ++ β) s Q E O S fun f loc' sto' α' s' fl hf ex S' r => by
 obtain ⟨γ, rfl⟩ := ex
 rw [v0P] at S' r
 exact P f loc' sto' (β ++ γ) s' fl hf S' r
end
section
variable {x : SX} {loc : Loc} {sto : Sto} {K : AV → Sto → Prop}
theorem q9H {as : List AV} {kws : List (Str × AV)} {f : Addr} {o : Params → Obj} {st : Stmt} {loc₀ : Loc} (FN : FnOk f o st)
  (hb : ∀ α vs ks, VRs α as vs → VRs α (kws.map (·.2)) ks → ∃ binds, (∀ S, peek (KK x.w.params) S (bindArgs (C9 (o x.w.params)) ⟨vs, (kws.map (·.1)).zip ks⟩) = some binds) ∧ BR α loc₀ binds)
  (hloc : q2q st loc₀ = true) (hnd : (loc₀.map (·.1)).Nodup) (hd : 1 ≤ x.d) (h : ∀ c α₀, α₀.length = sto.length → SM (inY x st) c α₀ (execs (fdB st) c.env) loc₀ sto (BodyK sto.length K)) : CodeS x (.ref f) as kws loc sto K := by
 intro c α s vs ks R O S rv rk P
 refine U2 (FN.lk _) (FN.da _) (FN.bd _) (FN.sc _) (FN.gl _) (FN.bi _) (FN.cd _) FN.ce hb hloc hnd hd rfl FN.co FN.ge FN.ki O S rv rk fun s₁ _ O' S' => ?_
 refine h _ α S.hs.len [] _ _ _ O' (by rw [v0H]; exact S') fun f' l' s' β' t' fl hf S₂ r => S.bodyEnd P hf ⟨β', rfl⟩ S₂ r
end
theorem fn855 : FnOk 855 k855 (A0 52) := by constructor <;> rfl'
noncomputable def mx (a b : Int) : Int := if b > a then b else a
noncomputable def q5Y (ws : List Int) : List Int := 0 :: List.replicate ws.length ws.sum
noncomputable def tGo (ws : List Int) : Nat → List Int
 | 0 => q5Y ws
 | i + 1 => (tGo ws i).set (2 + i) (cutL ws none (some ((2 + i : Nat) : Int))).sum
noncomputable def W5 (ws : List Int) : List Int := (tGo ws (ws.length - 1)).set 1 0
noncomputable def wGo (ws tb : List Int) (k last : Nat) : Nat → List Int
 | 0 => [tb.getD (last - 1) 0]
 | j + 1 => wGo ws tb k last j ++ [mx (tb.getD (k - 1 + j) 0) (cutL ws (some ((k - 1 + j : Nat) : Int)) (some (last : Int))).sum]
noncomputable def rGo (ws tb : List Int) (k : Nat) : Nat → List Int
 | 0 => List.replicate (ws.length + 1) 0
 | i + 1 => (rGo ws tb k i).set (k + i) (q0D (wGo ws tb k (k + i) i))
noncomputable def Q5 (ws tb : List Int) (k : Nat) : List Int := rGo ws tb k (ws.length + 1 - k)
noncomputable def nGo (ws : List Int) : Nat → List Int × List Int
 | 0 => (W5 ws, [(W5 ws).getD ws.length 0])
 | i + 1 => (Q5 ws (nGo ws i).1 (2 + i), (nGo ws i).2 ++ [(Q5 ws (nGo ws i).1 (2 + i)).getD ws.length 0])
noncomputable def D7 (ws : List Int) : List Int := (nGo ws (ws.length - 1)).2
theorem f8 (ws : List Int) : ∀ i, (tGo ws i).length = ws.length + 1
 | 0 => by simp [tGo, q5Y]
 | i + 1 => by rw [tGo, List.length_set, f8 ws i]
theorem f9 (ws tb : List Int) (k : Nat) : ∀ i, (rGo ws tb k i).length = ws.length + 1
 | 0 => by simp [rGo]
 | i + 1 => by rw [rGo, List.length_set, f9 ws tb k i]
theorem u9 (ws tb : List Int) (k last : Nat) : ∀ j, (wGo ws tb k last j).length = j + 1
 | 0 => rfl
 | j + 1 => by rw [wGo, v0G, u9 ws tb k last j]; rfl
theorem q2d (ws : List Int) : ∀ i, (nGo ws i).1.length = ws.length + 1 ∧ (nGo ws i).2.length = i + 1
 | 0 => ⟨by show (List.set _ _ _).length = _; rw [List.length_set, f8], rfl⟩
 | i + 1 => ⟨f9 .., by show (List.append _ _).length = _; rw [List.append_eq, v0G, (q2d ws i).2]; rfl⟩
noncomputable abbrev BN : List Stmt := fdB (A0 52)
noncomputable abbrev BK : List Stmt := G2 (nth BN 5)
noncomputable abbrev BL : List Stmt := G2 (nth BK 1)
noncomputable abbrev xN (x : SX) : SX := inY x (A0 52)
noncomputable def lNA (n : Int) : Loc := [(S "widths", .ref 0), (S "size", .int n), (S "table", .ref 4)]
noncomputable def lNB (n : Int) : Loc := [(S "widths", .ref 0), (S "size", .int n), (S "table", .ref 1), (S "narrow", .ref 2)]
noncomputable def lNC (n k : Int) : Loc := lNB n ++ [(S "k", .int k), (S "row", .ref 6)]
noncomputable def lND (n k last : Int) : Loc := lNC n k ++ [(S "last", .int last), (S "ways", .ref 9)]
noncomputable def sNA (ws tb : List Int) (n s : Int) : Sto := [.lsI ws, .lst [.int 0], .lst [.int s], .lsI (List.replicate n.toNat s), .lsI tb]
noncomputable def sNB (ws tb nr : List Int) (n : Int) : Sto := [.lsI ws, .lsI tb, .lsI nr, .rng 2 (n + 1) 1]
noncomputable def sNC (ws tb nr row : List Int) (n k : Int) (o : Obj) : Sto := sNB ws tb nr n ++ [.raw o, .lst [.int 0], .lsI row, .rng k (n + 1) 1]
noncomputable def sND (ws tb nr row wy : List Int) (n k last : Int) (o o' : Obj) : Sto := sNC ws tb nr row n k o ++ [.raw o', .lsI wy, .rng (k - 1) (last - 1) 1]
section
variable {x : SX} {ws tb nr row wy : List Int} {n s k last first : Int} {o o' o'' : Obj} {K : KF}
theorem nw1 (KK : KF) : xw (xN x) (I3 D0) 40 (BN.take 2) [(S "widths", .ref 0)] [.lsI ws] KK = (ws.length ≤ sizeLine ∧ 1 ≤ sizeLine ∧ 1 ≤ sizeLine ∧ -(2 ^ 63 : Int) ≤ (ws.length : Int) ∧ (ws.length : Int).toNat ≤ sizeLine ∧ 1 + (List.replicate (ws.length : Int).toNat ws.sum).length ≤ sizeLine ∧
  KK .next (lNA ws.length) [.lsI ws, .lst [.int 0], .lst [.int ws.sum], .lsI (List.replicate (ws.length : Int).toNat ws.sum), .lst ([.int 0] ++ (List.replicate (ws.length : Int).toNat ws.sum).map .int)]) := by rfl'
theorem nw2 (sto : Sto) (KK : KA1) : ew (xN x) (I3 D0) 40 false (Q0 (nth BN 2)) (lNA n) sto KK = KK (.ref sto.length) (sto ++ [.rng 2 (n + 1) 1]) := by rfl'
theorem nw3 (KK : KF) : xw (xN x) (I3 D0) 40 (G2 (nth BN 2)) (up (lNA n) (E7 (nth BN 2)) (.int last)) (sNA ws tb n s ++ [.rng 2 (n + 1) 1, .raw o]) KK =
  (ws.length ≤ sizeLine ∧ okIx last tb.length ∧ KK .next (up (lNA n) (E7 (nth BN 2)) (.int last)) (sNA ws (tb.set (ix last tb.length) (cutL ws none (some last)).sum) n s ++ [.rng 2 (n + 1) 1, .raw o, .lsI (cutL ws none (some last))])) := by rfl'
theorem nw4 (KK : KF) : xw (xN x) (I3 D0) 40 [nth BN 3, nth BN 4] (lNA n) (sNA ws tb n s ++ [.rng 2 (n + 1) 1]) KK =
  (okIx 1 tb.length ∧ okIx n (tb.set (ix 1 tb.length) 0).length ∧ 1 ≤ sizeLine ∧ KK .next (lNA n ++ [(S "narrow", .ref 6)]) (sNA ws (tb.set (ix 1 tb.length) 0) n s ++ [.rng 2 (n + 1) 1, .lst [.int ((tb.set (ix 1 tb.length) 0).getD (ix n (tb.set (ix 1 tb.length) 0).length) 0)]])) := by rfl'
theorem nw5 (KK : KA1) : ew (xN x) (I3 D0) 40 false (Q0 (nth BN 5)) (lNB n) [.lsI ws, .lsI tb, .lsI nr] KK = KK (.ref 3) (sNB ws tb nr n) := by rfl'
theorem nw6 (KK : KF) : xw (xN x) (I3 D0) 40 (BK.take 1) (up (lNB n) (E7 (nth BN 5)) (.int k)) (sNB ws tb nr n ++ [.raw o]) KK =
  (1 ≤ sizeLine ∧ -(2 ^ 63 : Int) ≤ n + 1 ∧ (n + 1).toNat ≤ sizeLine ∧ KK .next (lNC n k) (sNB ws tb nr n ++ [.raw o, .lst [.int 0], .lsI (List.replicate (n + 1).toNat 0)])) := by rfl'
theorem nw7 (KK : KA1) : ew (xN x) (I3 D0) 40 false (Q0 (nth BK 1)) (lNC n k) (sNB ws tb nr n ++ [.raw o, .lst [.int 0], .lsI row]) KK = KK (.ref 7) (sNC ws tb nr row n k o) := by rfl'
theorem nw8 (KK : KF) : xw (xN x) (I3 D0) 40 (BL.take 1) (up (lNC n k) (E7 (nth BK 1)) (.int last)) (sNC ws tb nr row n k o ++ [.raw o']) KK =
  (okIx (last - 1) tb.length ∧ 1 ≤ sizeLine ∧ KK .next (lND n k last) (sNC ws tb nr row n k o ++ [.raw o', .lst [.int (tb.getD (ix (last - 1) tb.length) 0)]])) := by rfl'
theorem nw9 (KK : KA1) : ew (xN x) (I3 D0) 40 false (Q0 (nth BL 1)) (lND n k last) (sNC ws tb nr row n k o ++ [.raw o', .lsI wy]) KK = KK (.ref 10) (sND ws tb nr row wy n k last o o') := by rfl'
theorem nw10 (KK : KF) : xw (xN x) (I3 D0) 40 (G2 (nth BL 1)) (up (lND n k last) (E7 (nth BL 1)) (.int first)) (sND ws tb nr row wy n k last o o' ++ [.raw o'']) KK =
  (okIx first tb.length ∧ ws.length ≤ sizeLine ∧ wy.length ≤ sizeLine ∧ KK .next (up (lND n k last) (E7 (nth BL 1)) (.int first)) (sND ws tb nr row (wy ++ [mx (tb.getD (ix first tb.length) 0) (cutL ws (some first) (some last)).sum]) n k last o o' ++ [.raw o'', .lsI (cutL ws (some first) (some last))])) := by rfl'
theorem nw11 (KK : KF) : xw (xN x) (I3 D0) 40 (BL.drop 2) (lND n k last) (sND ws tb nr row wy n k last o o') KK =
  (0 < wy.length ∧ okIx last row.length ∧ KK .next (lND n k last) (sND ws tb nr (row.set (ix last row.length) (q0D wy)) wy n k last o o')) := by rfl'
theorem nw12 (KK : KF) : xw (xN x) (I3 D0) 40 (BK.drop 2) (lNC n k) (sNC ws tb nr row n k o) KK =
  (okIx n row.length ∧ nr.length ≤ sizeLine ∧ KK .next (up (lNC n k) (S "table") (.ref 6)) (sNC ws tb (nr ++ [row.getD (ix n row.length) 0]) row n k o)) := by rfl'
theorem nw13 (KK : KF) : xw (xN x) (I3 D0) 40 (BN.drop 6) (lNB n) (sNB ws tb nr n) KK = KK (.ret (.ref 2)) (lNB n) (sNB ws tb nr n) := by rfl'
end
section
variable {x : SX} {ws tb nr row : List Int} {n k last i : Nat} {o o' : Obj} {K : KF}
theorem ixI {z : Int} {j m : Nat} (e : z = (j : Int)) (h : j < m) (hm : m ≤ 100000) : okIx z m ∧ ix z m = j := by rw [e]; exact o0 h hm
theorem q7K (hk : 2 ≤ k) (hl : k ≤ last) (hn : last ≤ n) (hw : ws.length = n) (ht : tb.length = n + 1) (hz : n ≤ 100) (h : K .next (lND n k last) (sND ws tb nr row (wGo ws tb k last (last - k)) n k last o o')) :
  XS (xN x) (H6 (nth BL 1)) (lND n k last) (sNC ws tb nr row n k o ++ [.raw o', .lsI (wGo ws tb k last 0)]) K := by
 refine XS.for_ (by rfl') (F5 (by rfl')) (A4 (D3 (A9 _)) 40 false _ _ _ _ ?_)
 rw [nw9]
 refine ⟨last - k, _, _, .range rfl (small_one (by lia) (by lia) (by lia) (by lia)) (by rw [P6 (by lia)]; lia), fun o₁ => ⟨fun i l s => l = lND n k last ∧ s = sND ws tb nr row (wGo ws tb k last i) n k last o o', fun i l s _ p hp => (by cases hp), ⟨rfl, rfl⟩, ?_, ?_⟩⟩
 ·rintro i l s o'' hi hl' ⟨rfl, rfl⟩
  refine A1 (D3 (A9 _)) 40 _ _ _ _ ?_
  rw [nw10]
  have e : (k : Int) - 1 + (i : Int) = ((k - 1 + i : Nat) : Int) := by lia
  obtain ⟨h1, h2⟩ := ixI e (show k - 1 + i < tb.length by lia) (by lia)
  refine ⟨h1, sz (by lia), sz (by rw [u9]; lia), ?_⟩
  rw [h2, e]
  exact ⟨lND n k last, sND ws tb nr row (wGo ws tb k last (i + 1)) n k last o o', [_], O0 (by rfl'), rfl, rfl, B9 (by rfl'), A7 (by rfl'), rfl, rfl⟩
 ·rintro l s hl' ⟨rfl, rfl⟩
  exact h
theorem q9I (hk : 2 ≤ k) (hkn : k ≤ n) (hw : ws.length = n) (ht : tb.length = n + 1) (hz : n ≤ 100) (h : K .next (lNC n k) (sNC ws tb nr (Q5 ws tb k) n k o)) :
  XS (xN x) (H6 (nth BK 1)) (lNC n k) (sNB ws tb nr n ++ [.raw o, .lst [.int 0], .lsI (rGo ws tb k 0)]) K := by
 refine XS.for_ (by rfl') (F5 (by rfl')) (A4 (D3 (A9 _)) 40 false _ _ _ _ ?_)
 rw [nw7]
 refine ⟨n + 1 - k, _, _, .range rfl (small_one (by lia) (by lia) (by lia) (by lia)) (by rw [P6 (by lia)]; lia), fun o₁ => ⟨fun i l s => l = lNC n k ∧ s = sNC ws tb nr (rGo ws tb k i) n k o, fun i l s _ p hp => (by cases hp), ⟨rfl, rfl⟩, ?_, ?_⟩⟩
 ·rintro i l s o' hi hl' ⟨rfl, rfl⟩
  rw [show (k : Int) + (i : Int) = ((k + i : Nat) : Int) by lia]
  have hl : k + i ≤ n := by lia
  have hki : k ≤ k + i := by lia
  have hwi : wGo ws tb k (k + i) (k + i - k) = wGo ws tb k (k + i) i := by rw [Nat.add_sub_cancel_left]
  have hr := f9 ws tb k i
  have hs : rGo ws tb k (i + 1) = (rGo ws tb k i).set (k + i) (q0D (wGo ws tb k (k + i) i)) := rfl
  generalize rGo ws tb k i = row at hr hs ⊢
  generalize k + i = last at *
  refine XSs.mid (pre := BL.take 1) (st := H6 (nth BL 1)) (post := BL.drop 2) (by rfl') (A1 (D3 (A9 _)) 40 _ _ _ _ ?_)
  rw [nw8]
  obtain ⟨h1, h2⟩ := ixI (show (last : Int) - 1 = ((last - 1 : Nat) : Int) by lia) (show last - 1 < tb.length by lia) (by lia)
  refine ⟨h1, sz (by lia), ?_⟩
  rw [h2]
  refine SS.conv (i := 9) (.lsI (wGo ws tb k last 0)) rfl (fun α ob h => h) (q7K hk hki hl hw ht hz ?_)
  refine A1 (D3 (A9 _)) 40 _ _ _ _ ?_
  rw [nw11, hwi, u9]
  obtain ⟨h3, h4⟩ := ixI (rfl : (last : Int) = (last : Int)) (show last < row.length by lia) (by lia)
  refine ⟨Nat.succ_pos _, h3, ?_⟩
  rw [h4, ← hs]
  exact ⟨lNC n k, sNC ws tb nr (rGo ws tb k (i + 1)) n k o, [.lsI _, .rng _ _ 1], r9 (l := lNC n k), rfl, rfl, B9 (by rfl'), A7 (by rfl'), rfl, rfl⟩
 ·rintro l s hl' ⟨rfl, rfl⟩
  rw [← hw] at h ⊢
  exact h
theorem nwTab (hw : ws.length = n) (h1 : 1 ≤ n) (hz : n ≤ 100) {s : Int} (h : K .next (lNA n) (sNA ws (tGo ws (n - 1)) n s ++ [.rng 2 ((n : Int) + 1) 1])) : XS (xN x) (H6 (nth BN 2)) (lNA n) (sNA ws (tGo ws 0) n s) K := by
 refine XS.for_ (by rfl') (F5 (by rfl')) (A4 (D3 (A9 _)) 40 false _ _ _ _ ?_)
 rw [nw2]
 refine ⟨n - 1, _, _, .range rfl (small_one (by lia) (by lia) (by lia) (by lia)) (by rw [P6 (by lia)]; lia), fun o₁ => ⟨fun i l s' => l = lNA n ∧ s' = sNA ws (tGo ws i) n s ++ [.rng 2 ((n : Int) + 1) 1], fun i l s _ p hp => (by cases hp), ⟨rfl, rfl⟩, ?_, ?_⟩⟩
 ·rintro i l s' o' hi hl' ⟨rfl, rfl⟩
  have e : (2 : Int) + (i : Int) = ((2 + i : Nat) : Int) := by lia
  have hr := f8 ws i
  have hs : tGo ws (i + 1) = (tGo ws i).set (2 + i) (cutL ws none (some ((2 + i : Nat) : Int))).sum := rfl
  generalize tGo ws i = tb at hr hs ⊢
  refine A1 (D3 (A9 _)) 40 _ _ _ _ ?_
  show xw (xN x) (I3 D0) 40 (G2 (nth BN 2)) (up (lNA n) (E7 (nth BN 2)) (.int (2 + (i : Int)))) (sNA ws tb n s ++ [.rng 2 ((n : Int) + 1) 1, .raw o']) _
  rw [nw3]
  obtain ⟨h3, h4⟩ := ixI e (show 2 + i < tb.length by lia) (by lia)
  refine ⟨sz (by lia), h3, ?_⟩
  rw [h4, e, ← hs]
  exact ⟨lNA n, sNA ws (tGo ws (i + 1)) n s ++ [.rng 2 ((n : Int) + 1) 1], [_], O0 (by rfl'), rfl, rfl, B9 (by rfl'), A7 (by rfl'), rfl, rfl⟩
 ·rintro l s' hl' ⟨rfl, rfl⟩
  exact h
end
section
variable {x : SX} {loc : Loc} {sto : Sto} {K : AV → Sto → Prop}
theorem q9J {ws tb nr : List Int} {n i : Nat} {o : Obj} (hw : ws.length = n) (ht : tb.length = n + 1) (hr : nr.length ≤ 200) (hi : 2 + i ≤ n) (hz : n ≤ 100) :
  XSs (xN x) BK (up (lNB n) (E7 (nth BN 5)) (.int ((2 + i : Nat) : Int))) (sNB ws tb nr n ++ [.raw o]) (q2I 1 (fun l s => l = lNB n ∧ s = sNB ws (Q5 ws tb (2 + i)) (nr ++ [(Q5 ws tb (2 + i)).getD n 0]) n) 4 o) := by
 generalize hk : 2 + i = k at *
 refine XSs.mid (pre := BK.take 1) (st := H6 (nth BK 1)) (post := BK.drop 2) (by rfl') (A1 (D3 (A9 _)) 40 _ _ _ _ ?_)
 rw [nw6, show ((n : Int) + 1).toNat = ws.length + 1 by lia]
 refine ⟨sz (by lia), by lia, sz (by lia), ?_⟩
 refine q9I (by lia) hi hw ht hz ?_
 have hl : (Q5 ws tb k).length = n + 1 := by rw [← hw]; exact f9 ..
 refine A1 (D3 (A9 _)) 40 _ _ _ _ ?_
 rw [nw12]
 obtain ⟨h3, h4⟩ := ixI (rfl : (n : Int) = (n : Int)) (show n < (Q5 ws tb k).length by lia) (by lia)
 refine ⟨h3, sz (by lia), ?_⟩
 rw [h4]
 generalize Q5 ws tb k = row
 generalize nr ++ [row.getD n 0] = nr'
 refine ⟨[0, 6, 2, 3], lNB n, sNB ws row nr' n, rfl, ⟨by decide, by decide, ?_⟩, ⟨[6, 2, 3], rfl⟩, rfl, ?_, A7 (by rfl'), ?_, rfl, rfl⟩
 ·show ∀ j ∈ [0, 6, 2, 3], j < 8
  decide
 ·intro i j e
  match i, e with
  | 0, e => cases e; rfl
  | 1, e => cases e; rfl
  | 2, e => cases e; rfl
  | 3, e => cases e; rfl
  | i + 4, e => simp at e
 ·intro y v e
  have e' : ([(S "widths", AV.ref 0), (S "size", .int n), (S "table", .ref 1), (S "narrow", .ref 2)] : Loc).lookup y = some v := e
  simp only [v0n] at e'
  split at e'
  ·rename_i q; cases e'; rw [beq_iff_eq.mp q]; exact ⟨by show 0 < 4; decide, by rfl'⟩
  ·split at e'
   ·rename_i q; cases e'; rw [beq_iff_eq.mp q]; exact ⟨trivial, by rfl'⟩
   ·split at e'
    ·rename_i q; cases e'; rw [beq_iff_eq.mp q]; exact ⟨by show 1 < 4; decide, by rfl'⟩
    ·split at e'
     ·rename_i q; cases e'; rw [beq_iff_eq.mp q]; exact ⟨by show 2 < 4; decide, by rfl'⟩
     ·cases e'
theorem q4Z (hd : 1 ≤ x.d) {ws : List Int} (h1 : 1 ≤ ws.length) (hz : ws.length ≤ 100) (h : K (.ref 1) [.lsI ws, .lsI (D7 ws)]) : CodeS x (.ref 855) [.ref 0] [] loc [.lsI ws] K := by
 generalize hn : ws.length = n at *
 refine q9H fn855 (loc₀ := [(S "widths", .ref 0)]) (fun α vs ks r rk => ?_) (by rfl') (show List.Nodup [S "widths"] from by decide +kernel) hd fun c α₀ hα => ?_
 ·obtain ⟨v, rfl, r1⟩ := r.one
  obtain rfl := rk.nil
  exact ⟨[(S "widths", v)], fun Se => by rfl', rfl, r1, trivial⟩
 ·have hα : α₀.length = 1 := hα
  have TO := D3 (x := xN x) (A9 _)
  refine SM.mid (pre := BN.take 5) (st := H6 (nth BN 5)) (post := BN.drop 6) (by rfl') (SM.ofs (XSs.mid (pre := BN.take 2) (st := H6 (nth BN 2)) (post := [nth BN 3, nth BN 4]) (by rfl') (A1 TO 40 _ _ _ _ ?_)))
  rw [nw1, hn]
  refine ⟨sz (by lia), sz (by lia), sz (by lia), by lia, sz (by lia), sz (by simp; lia), ?_⟩
  refine SS.conv (i := 4) (.lsI (tGo ws 0)) rfl (fun α ob h => ?_) ?_
  ·rw [show (n : Int).toNat = ws.length by lia] at h
   exact h
  show XS (xN x) (H6 (nth BN 2)) (lNA n) (sNA ws (tGo ws 0) n ws.sum) _
  refine nwTab hn h1 hz (A1 TO 40 _ _ _ _ ?_)
  rw [nw4]
  have hl := f8 ws (n - 1)
  have hF : W5 ws = (tGo ws (n - 1)).set 1 0 := by rw [← hn]; rfl
  obtain ⟨h3, h4⟩ := ixI (rfl : (1 : Int) = ((1 : Nat) : Int)) (show 1 < (tGo ws (n - 1)).length by lia) (by lia)
  have hlF : (W5 ws).length = n + 1 := by rw [hF, List.length_set]; lia
  rw [h4, ← hF]
  obtain ⟨h5, h6⟩ := ixI (rfl : (n : Int) = (n : Int)) (show n < (W5 ws).length by lia) (by lia)
  refine ⟨h3, h5, sz (by lia), ?_⟩
  rw [h6]
  have hN : nGo ws 0 = (W5 ws, [(W5 ws).getD n 0]) := by rw [← hn]; rfl
  refine SM.conv (i := 6) (.lsI [(W5 ws).getD n 0]) rfl (fun α ob h => h) ?_
  refine SM.pick (loc₂ := lNB n) (s₂ := [.lsI ws, .lsI (W5 ws), .lsI [(W5 ws).getD n 0]]) rfl [4, 6] (by rw [hα]; decide) (by rw [hα]; show ∀ j ∈ [0, 4, 6], j < 7; decide) (by rw [hα]; rfl) (fun i j e => ?_) (A7 (by rfl')) (fun y v e => ?_) ?_
  ·rw [hα] at e
   match i, e with
   | 0, e => cases e; rfl
   | 1, e => cases e; rfl
   | 2, e => cases e; rfl
   | i + 3, e => simp at e
  ·rw [hα]
   have e' : ([(S "widths", AV.ref 0), (S "size", .int n), (S "table", .ref 1), (S "narrow", .ref 2)] : Loc).lookup y = some v := e
   simp only [v0n] at e'
   split at e'
   ·rename_i q; cases e'; rw [beq_iff_eq.mp q]; exact ⟨by show 0 < 3; decide, by rfl'⟩
   ·split at e'
    ·rename_i q; cases e'; rw [beq_iff_eq.mp q]; exact ⟨trivial, by rfl'⟩
    ·split at e'
     ·rename_i q; cases e'; rw [beq_iff_eq.mp q]; exact ⟨by show 1 < 3; decide, by rfl'⟩
     ·split at e'
      ·rename_i q; cases e'; rw [beq_iff_eq.mp q]; exact ⟨by show 2 < 3; decide, by rfl'⟩
      ·cases e'
  ·refine SM.forR rfl (by rfl') (F5 (by rfl')) (A4 TO 40 false _ _ _ _ ?_)
   rw [nw5]
   refine ⟨n - 1, _, .range rfl (small_one (by lia) (by lia) (by lia) (by lia)) (by rw [P6 (by lia)]; lia), fun i => trivial, fun i l s => l = lNB n ∧ s = sNB ws (nGo ws i).1 (nGo ws i).2 n, ⟨rfl, by rw [hN]⟩, ?_, ?_⟩
   ·rintro i l s o hi ⟨rfl, rfl⟩
    obtain ⟨l1, l2⟩ := q2d ws i
    have hs : nGo ws (i + 1) = (Q5 ws (nGo ws i).1 (2 + i), (nGo ws i).2 ++ [(Q5 ws (nGo ws i).1 (2 + i)).getD n 0]) := by rw [← hn]; rfl
    show XSs (xN x) BK (up (lNB n) (E7 (nth BN 5)) (.int (2 + (i : Int)))) _ (q2I α₀.length (fun l s => l = lNB n ∧ s = sNB ws (nGo ws (i + 1)).1 (nGo ws (i + 1)).2 n) 4 o)
    rw [hs, hα, show (2 : Int) + (i : Int) = ((2 + i : Nat) : Int) by lia]
    exact q9J hn (by lia) (by lia) (by lia) hz
   ·rintro l s ⟨rfl, rfl⟩
    have hs : (nGo ws (n - 1)).2 = D7 ws := by rw [← hn]; rfl
    rw [hs]
    generalize D7 ws = z at h ⊢
    refine SM.ofs (A1 TO 40 _ _ _ _ ?_)
    rw [nw13]
    exact .inr (.inl ⟨[.lsI ws], [.lsI (nGo ws (n - 1)).1, .lsI z, .rng 2 ((n : Int) + 1) 1], 2, .lsI z, rfl, rfl, rfl, (by show 1 ≤ 2; decide), rfl, trivial, A7 (by rfl'), h⟩)
end
theorem o5 : Slot "bytes" "join" "bytes.join" :=
 .of (owner := "bytes") (n := "join") (by rw [typeLookup_type, builtinLookup_eq_fast]; rfl') (by decide +kernel) (by decide +kernel) (by decide +kernel) (by first | exact .inl (by decide +kernel) | exact .inr (by decide +kernel)) (by rw [isSubtype_type]; rfl')
theorem q2J : typeOf (.builtin "bytes.join") = pure (.type "method_descriptor") := by show builtinType _ = _; rw [builtinType_eq_fast]; rfl'
theorem q1z : entryFor table "bytes.join" = some Builtin.«bytes.join» := entryFor_of_tree (by rfl')
theorem q2K (a b : Value) : argsOk "bytes.join" ⟨[a, b], []⟩ := by unfold argsOk; rfl'
theorem q2L {id : String} {b : Array UInt8} {t : Tok} : Builtin.Bytes.takeBufferQuiet? id (.bytes b t) 0 = pure (some (b, none)) := by
 unfold Builtin.Bytes.takeBufferQuiet? Builtin.Bytes.takeBuffer?
 rw [show ((0 : Int) == Builtin.Bytes.fullReadOnly) = false from by decide, KBy.buffer_eq, KBy.special_eq KBy.look_buffer, KBy.own_buffer]
 rfl'
theorem q1A (ps : List (Array UInt8)) : Builtin.Bytes.joined #[] ps = (ps.map Array.toList).flatten.toArray := by
 unfold Builtin.Bytes.joined
 have : ∀ (ps : List (Array UInt8)) (k : Nat) (out : Array UInt8), (ps.zipIdx k).foldl (fun out (p : Array UInt8 × Nat) => (if p.2 > 0 then out ++ #[] else out) ++ p.1) out = out ++ (ps.map Array.toList).flatten.toArray := by
  intro ps
  induction ps with
  | nil => intro k out; simp
  | cons p ps ih =>
   intro k out
   rw [List.zipIdx_cons, v0B, ih]
   apply Array.ext'
   simp
 rw [this]; simp
section
variable {M : Model} {A : Around} {E : Value → Shared → Prop} {s : Shared}
theorem b8 {keep : List Value} {Q : Unit → Shared → Prop} : ∀ {tk : List (Value × Option Value)}, (∀ p ∈ tk, p.2 = none) → Q () s → wpAny M A (Builtin.Bytes.joinLetGo tk keep) Q E s
 | [], _, h => v1h h
 | (x, w) :: r, hw, h => by
  obtain rfl : w = none := hw _ v0x
  exact v1e (wpAny_letGo (b8 (fun p hp => hw p (v0y _ hp)) h))
def BjI (ls : List (List UInt8)) (s : Shared) (i : Nat) (b : Array (Array UInt8) × List (Value × Option Value)) (s' : Shared) : Prop :=
 s' = s ∧ b.1.toList = (ls.take i).map List.toArray ∧ ∀ p ∈ b.2, p.2 = none ∧ p.1.onHeap = false
theorem q7L {l : List (Value × Option Value)} (h : ∀ p ∈ l, p.2 = none ∧ p.1.onHeap = false) : (l.any fun p => p.1.onHeap) = false := List.any_eq_false.mpr fun p hp => by rw [(h p hp).2]; decide
theorem q2M {a : Addr} {o : Obj} {Q : Value → Shared → Prop} (ho : s.heap.get? a = some o) (hc : o.cls = .type "list") (h : Q (.ref a) s) : wpAny M A (Builtin.Bytes.joinItems (.ref a)) Q E s := by
 unfold Builtin.Bytes.joinItems
 refine v1e (wpAny_typeOf_ref ho ?_)
 rw [hc, if_pos (by rfl')]
 exact v1h h
theorem q4g {ls : List (List UInt8)} {a : Addr} {o : Obj} {x y : Value} {r : List Value} {n : Nat} {t0 : Tok} (ho : s.heap.get? a = some o) (hc : o.cls = .type "list") (hd : o.data = .seq (x :: y :: r).toArray n) (hv : (x :: y :: r).length = ls.length) (hb : ∀ i, i < ls.length → ∃ t, (x :: y :: r).toArray.getD i .none = .bytes (ls.getD i []).toArray t)
  (hz : ls.flatten.length ≤ sizeLine) {Q : Fin → Shared → Prop} (h : ∀ t' k, Q (.done (.ret (.bytes ls.flatten.toArray t'))) { s with toks := k }) : wpAny M A (Builtin.«bytes.join» ⟨[.bytes #[] t0, .ref a], []⟩) Q E s := by
 have items : ∀ {Q : Option (Array Value) → Shared → Prop}, Q (some (x :: y :: r).toArray) s → wpAny M A (seqItems? (.ref a)) Q E s := fun h => wpAny_seqItems ho hd h
 unfold Builtin.«bytes.join» Builtin.Bytes.joinM
 refine v1e (m := selfAndOne _ _) (v1h ?_)
 refine v1e (m := Builtin.Bytes.joinItems (.ref a)) (q2M ho hc ?_)
 refine v1e (items ?_)
 refine v1e (m := forIn [0 : (x :: y :: r).toArray.size] _ _) (w9 (n := (x :: y :: r).toArray.size) (BjI ls s) ⟨rfl, rfl, fun p hp => by cases hp⟩ (fun i b s' hi hI => ?_) fun b s' hI => ?_)
 ·obtain ⟨rfl, h1, h2⟩ := hI
  have hi : i < ls.length := by rw [← hv]; simpa using hi
  obtain ⟨t, ht⟩ := hb i hi
  refine v1e (items ?_)
  rw [q7L h2]
  refine v1e (m := holding _ _) (v1g (v1k (a := some ((ls.getD i []).toArray, none)) (by rw [ht]; exact q2L) ?_))
  refine v1e (m := seqItems? (.ref a)) (items ?_)
  dsimp only
  first | refine v1s (decide_eq_false (by simp)) ?_ | rw [if_neg (by simp)]
  refine v1h ⟨_, rfl, rfl, ?_, fun p hp => ?_⟩
  ·rw [Array.toList_push, h1, v0O, q9Z hi, v0M, v0J, q9Z hi]; rfl
  ·rcases v0f.mp hp with q | q
   ·exact h2 p q
   ·rw [v0c.mp q]; exact ⟨rfl, by rw [ht]; rfl⟩
 ·obtain ⟨ps, tk⟩ := b
  obtain ⟨rfl, h1, h2⟩ := hI
  have h1 : ps.toList = ls.map List.toArray := by rw [show (x :: y :: r).toArray.size = ls.length by rw [← hv]; rfl, v0R] at h1; exact h1
  obtain rfl : ps = (ls.map List.toArray).toArray := Array.ext' h1
  have hj : Builtin.Bytes.joined #[] (ls.map List.toArray).toArray.toList = ls.flatten.toArray := by rw [q1A]; simp [Function.comp_def]
  refine v1e (m := Builtin.Bytes.payload _) (v1h (a := #[]) ?_)
  have hf : (ls.map List.toArray).toArray.foldl (fun x1 x2 => x1 + x2.size) ((#[] : Array UInt8).size * ((ls.map List.toArray).toArray.size - 1)) = ls.flatten.length := by
   rw [show (#[] : Array UInt8).size = 0 from rfl, Nat.zero_mul, List.foldl_toArray, List.foldl_map]
   have : ∀ (l : List (List UInt8)) (k : Nat), l.foldl (fun x y => x + y.toArray.size) k = k + l.flatten.length := by
    intro l
    induction l with
    | nil => intro k; simp
    | cons q l ih => intro k; rw [v0B, ih, List.flatten_cons, v0G, v0p]; lia
   rw [this, Nat.zero_add]
  rw [hf, show Builtin.Bytes.tooLong ls.flatten.length = false from decide_eq_false (by lia)]
  refine v1e (m := mkBytes _) (wpAny_mkBytes ?_ ?_)
  ·refine v1e (m := holding _ _) (v1g (wpAny_point ?_))
   refine v1e (m := Builtin.Bytes.joinLetGo _ _) (b8 (fun p hp => (h2 p hp).1) (v1h ?_))
   rw [hj]; exact h _ _
  ·rw [hj, v0p]; exact hz
end
theorem q2N {M : Model} {A : Around} {E : Value → Shared → Prop} {s : Shared} {b : Array UInt8} {t : Tok} {pl : Sem Bool} {Q : Value × List Value → Shared → Prop} (h : Q (.builtin "bytes.join", [.bytes b t]) s) : wpAny M A (getMethod (.bytes b t) (S "join") pl) Q E s := by
 with_reducible exact KBd.method_of (.bytes b t) (typeIs_bytes _ _ _) o5 q2J KBd.noRef h
noncomputable def midB (a : AV) (sto : Sto) (n : Str) : Option Value := AV.casesOn a none (fun _ => none) (fun _ => none) (fun _ => sel (Fast.sEq n (S "encode")) (some (.builtin "str.encode")) none) (fun _ => sel (Fast.sEq n (S "join")) (some (.builtin "bytes.join")) none) (fun _ => none) fun _ => none
noncomputable def q5Z (f : Value) (as : List AV) (kws : List (Str × AV)) (sto : Sto) (K : KA1) : Option Prop := onV none f (fun _ => none) (fun _ => none) fun id => sel (decide (id = "bytes.join")) (some (∃ i ls, as = [.bytes [], .ref i] ∧ kws = [] ∧ sto[i]? = some (.lsB ls) ∧ 2 ≤ ls.length ∧ ls.flatten.length ≤ sizeLine ∧ K (.bytes ls.flatten) sto)) (sel (decide (id = "str.encode")) (some (∃ l, as = [.str l, .str (S "latin-1").cps.toList] ∧ kws = [] ∧ (∀ c ∈ l, c < 256) ∧ l.length ≤ sizeLine ∧ K (.bytes (l.map (·.toUInt8))) sto)) none)
section
variable {x : SX} {loc : Loc} {sto : Sto} {K : AV → Sto → Prop}
theorem q7M {a : AV} {n : Str} {f : Value} (h : midB a sto n = some f) : B7 x f ∧ ∀ c α loc s av pl (Q : Value × List Value → Shared → Prop) E, Ok x c → Sat x c α loc sto s → VR α a av → Q (f, [av]) s → wpAny (model pw x.w) c.A (getMethod av n pl) Q E s := by
 refine AV.pickO h (fun _ => noO) B4 B4 (fun l e g => ?_) (fun l e g => ?_) B4 B4 <;> clear h <;> subst e
 ·rcases E9 g with ⟨q, e⟩ | g
  ·cases e
   refine ⟨B0 x _, fun c α loc s av pl Q E O Sx r hQ => ?_⟩
   obtain ⟨t, rfl⟩ := r
   rw [Fast.sEq_iff.mp q]
   exact q1W hQ
  ·exact noO g
 ·rcases E9 g with ⟨q, e⟩ | g
  ·cases e
   refine ⟨B0 x _, fun c α loc s av pl Q E O Sx r hQ => ?_⟩
   obtain ⟨t, rfl⟩ := r
   rw [Fast.sEq_iff.mp q]
   exact q2N hQ
  ·exact noO g
theorem q2O {i : Nat} {ls : List (List UInt8)} (h1 : sto[i]? = some (.lsB ls)) (h2 : 2 ≤ ls.length) (h3 : ls.flatten.length ≤ sizeLine) (hK : K (.bytes ls.flatten) sto) : CallS x (.builtin "bytes.join") [.bytes [], .ref i] [] loc sto K := by
 intro c α s vs ks Q E O Sx rv rk Po
 obtain rfl := rk.nil
 obtain ⟨v, w, rfl, ⟨t, rfl⟩, a, ha, rfl⟩ := rv.two
 obtain ⟨o, vs, n, g1, g2, _, g3, g4, _, g5⟩ := Sx.list h1 rfl ha
 have hv : vs.toList.length = ls.length := by rw [← g4.length, v0I]
 have hb : ∀ i, i < ls.length → ∃ t, vs.toList.toArray.getD i .none = .bytes (ls.getD i []).toArray t := fun i hi => by
  obtain ⟨u, e1, t, e2⟩ := g4.at (show (ls.map AV.bytes)[i]? = some (.bytes (ls.getD i [])) by rw [v0L, C0 (d := []) hi]; rfl)
  refine ⟨t, ?_⟩
  rw [v0Z, v1a, e1, e2]; rfl
 have g3 : o.data = .seq vs.toList.toArray n := g3
 generalize vs.toList = l at hv hb g3
 match l, hv with
 | [], hv => rw [← hv] at h2; exact absurd h2 (show ¬ 2 ≤ 0 by decide)
 | [_], hv => rw [← hv] at h2; exact absurd h2 (show ¬ 2 ≤ 1 by decide)
 | x' :: y :: r, hv =>
  exact call_meets (S := fun M R s' => s' = s ∧ ∀ t' k, R (.ok (.ret (.bytes ls.flatten.toArray t'))) { s with toks := k }) o5 (typeIs_bytes _ _ _) q1z (q2K _ _) (.of_wp fun prog w A R s' h => by
   obtain ⟨rfl, h⟩ := h
   exact q4g g1 g2 g3 hv hb h3 fun t' k => ⟨_, rfl, h t' k⟩) ⟨rfl, fun t' k => Po _ _ _ _ _ hK .refl (Sx.toks _) ⟨t', rfl⟩⟩
theorem q5a {f : Value} {as : List AV} {kws : List (Str × AV)} {P : Prop} (h : q5Z f as kws sto K = some P) (hP : P) : B7 x f ∧ CallS x f as kws loc sto K := by
 obtain ⟨id, rfl, g1⟩ := jB h
 refine ⟨B0 x _, ?_⟩
 rcases G4 g1 with ⟨rfl, g⟩ | g
 ·obtain ⟨i, ls, rfl, rfl, h1, h2, h3, hK⟩ := C6 g hP
  exact q2O h1 h2 h3 hK
 ·rcases G4 g with ⟨rfl, g⟩ | g
  ·obtain ⟨l, rfl, rfl, h1, h2, hK⟩ := C6 g hP
   intro c α s vs ks Q E O Sx rv rk Po
   obtain rfl := rk.nil
   obtain ⟨v, w, rfl, ⟨t, rfl⟩, t', rfl⟩ := rv.two
   exact i7 h1 h2 fun t' k => Po _ _ _ _ _ hK .refl (Sx.toks _) ⟨t', rfl⟩
  ·exact noO g
noncomputable def XB : XT := { X0 with cmp := cmpL, mid := midB, call := q5Z }
theorem q2P (x : SX) : P1 x XB := { Y9 x with mid := fun a sto n f h => q7M h, call := fun f as kws loc sto K P h hP => q5a h hP }
def q0j (t : List Nat) (ws : List (List Nat)) : Prop := t.length ≤ 100000 ∧ ws.length ≤ 100000 ∧ Line t 0 ws ∧ ws ≠ []
def sSpl (as : List AV) (sto : Sto) (K : KA1) : Prop := ∃ t ws, as = [.str t] ∧ q0j t ws ∧ K (.ref sto.length) (sto ++ [.lsS ws])
def q2Q (e os : List Nat) : Prop := e.map U9 = tOf os ∧ os ≠ [] ∧ (∀ c ∈ os, c < 256) ∧ (tOf os).length ≤ 100000 ∧ os.length ≤ 100000
def sDec (as : List AV) (sto : Sto) (K : KA1) : Prop := ∃ e os, as = [.str e] ∧ q2Q e os ∧ C2 sto.length sto ∧ K (.str os) sto
def sEnc (as : List AV) (sto : Sto) (K : KA1) : Prop := ∃ bs, as = [.bytes bs, .str [120]] ∧ (bs ≠ [] ∧ bs.length ≤ 10000) ∧ K (.str (F8 (trl (A8 bs)))) sto
noncomputable def DB : DT := dP 807 sSpl (dP 107 sDec (dP 88 sEnc D0))
theorem DB_ok (hr : x.fr = true) (hd : 10 ≤ x.d) : DOk x DB :=
 D9 (fun as loc sto K h => by obtain ⟨t, ws, rfl, ⟨h1, h2, h3, h4⟩, hK⟩ := h; exact q8Y hr hd h1 h2 h3 h4 hK) (fn807.keep x)
  (D9 (fun as loc sto K h => by obtain ⟨e, os, rfl, ⟨h1, h2, h3, h4, h5⟩, h6, hK⟩ := h; exact (cDec (by lia) h1 h2 h3 h4 h5 h6 hK).call) (fn107.keep x)
   (D9 (fun as loc sto K h => by obtain ⟨bs, rfl, ⟨h1, h2⟩, hK⟩ := h; exact (cEnc (by lia) h1 h2 hK).call) (fn88.keep x) (A9 x)))
end
theorem fn872 : FnOk 872 k872 (A0 55) := by constructor <;> rfl'
noncomputable def R5 (e : Expr) : List Expr := eK e
noncomputable def q1g (e : Expr) : Pos := e.pos
noncomputable abbrev BW : List Stmt := fdB (A0 55)
noncomputable abbrev cW : Expr := agL (nth BW 1)
noncomputable abbrev yW : Str := E5 (lcG cW).target
noncomputable abbrev xW (x : SX) : SX := inY x (A0 55)
noncomputable abbrev eW : Expr := retE (nth BW 2)
noncomputable abbrev eW1 : Expr := A6 (R5 eW) 0
noncomputable abbrev dW : Expr := A6 (R5 eW1) 1
noncomputable abbrev vW : Str := E5 (lcG dW).target
theorem bw0 : BW.drop 2 = [.Return (some (.BoolOp .And [.Compare (A6 (R5 eW1) 0) [.Eq] [a5 dW] (q1g eW1), A6 (R5 eW) 1] (q1g eW))) (stP (nth BW 2))] := by rfl'
noncomputable def lW (line : List Nat) (oct : List UInt8) : Loc := [(S "line", .str line), (S "octets", .bytes oct), (S "words", .ref 0)]
noncomputable def lW' (line : List Nat) (oct : List UInt8) : Loc := lW line oct ++ [(S "texts", .ref 1)]
section
variable {x : SX} {line w : List Nat} {oct b : List UInt8} {ws ms : List (List Nat)} {ts : List (List UInt8)} {s : Sto}
theorem bw1 (KK : KF) : xw (xW x) (A5 DB XB) 40 (BW.take 1) [(S "line", .str line), (S "octets", .bytes oct)] [] KK = ∃ t ws, [AV.str line] = [AV.str t] ∧ q0j t ws ∧ KK .next (lW line oct) [.lsS ws] := by rfl'
theorem bw2 (KK : KA1) : ew (xW x) (A5 DB XB) 40 false (lcG cW).iter (lW line oct) s KK = KK (.ref 0) s := by rfl'
theorem bw3 (KK : KA1) : ew (cx (xW x) (lcS cW)) (A5 DB XB) 40 false (lcE cW) [(yW, .str w)] s KK = (w.length ≤ sizeLine ∧ ∃ e os, [AV.str (cutL w (some 6) (some (-2)))] = [AV.str e] ∧ q2Q e os ∧ C2 s.length s ∧
  ∃ l, [AV.str os, .str (S "latin-1").cps.toList] = [AV.str l, .str (S "latin-1").cps.toList] ∧ ([] : List (Str × AV)) = [] ∧ (∀ c ∈ l, c < 256) ∧ l.length ≤ sizeLine ∧ KK (.bytes (l.map (·.toUInt8))) s) := by rfl'
theorem bw4 (KK : KA1) : ew (xW x) (A5 DB XB) 40 false (A6 (R5 eW1) 0) (lW' line oct) s KK = KK (.ref 0) s := by rfl'
theorem bw5 (KK : KA1) : ew (xW x) (A5 DB XB) 40 false (lcG dW).iter (lW' line oct) s KK = KK (.ref 1) s := by rfl'
theorem bw6 (KK : KA1) : ew (cx (xW x) (lcS dW)) (A5 DB XB) 40 false (lcE dW) [(vW, .bytes b)] s KK = ∃ bs, [AV.bytes b, .str [120]] = [AV.bytes bs, .str [120]] ∧ (bs ≠ [] ∧ bs.length ≤ 10000) ∧ KK (.str (F8 (trl (A8 bs)))) s := by rfl'
theorem bw7 (KK : KA1) : (A5 DB XB).cmp .Eq (.ref 0) (.ref 2) [.lsS ws, .lsB ts, .lsS ms] KK = ((O4 ws ∧ O4 ms) ∧ KK (.bool (decide (ws = ms))) [.lsS ws, .lsB ts, .lsS ms]) := by rfl'
theorem bw8 (KK : KA1) : ew (xW x) (A5 DB XB) 40 false (A6 (R5 eW) 1) (lW' line oct) s KK = ∃ i ls, [AV.bytes [], .ref 1] = [AV.bytes [], .ref i] ∧ ([] : List (Str × AV)) = [] ∧ s[i]? = some (AO.lsB ls) ∧ 2 ≤ ls.length ∧ ls.flatten.length ≤ sizeLine ∧ KK (.bool (ls.flatten == oct)) s := by rfl'
end
noncomputable def sgn (rows : List (List UInt8)) : List (List Nat) := rows.map fun r => trl (A8 r)
structure o6 (rows : List (List UInt8)) : Prop where
 ne : ∀ r ∈ rows, r ≠ []
 ln : ∀ r ∈ rows, r.length ≤ 100
 two : 2 ≤ rows.length
 le : rows.length ≤ 100
 fl : rows.flatten.length ≤ 1000
 sp : q0j (C5 (sgn rows)) ((sgn rows).map C3)
theorem q1h (r : List Nat) : cutL (C3 r) (some 6) (some (-2)) = r := by
 have hl : (C3 r).length = r.length + 8 := by simp [C3]
 unfold cutL bnd
 rw [hl]
 simp only [if_neg (show ¬ ((6 : Int) < 0) by decide), if_pos (show (-2 : Int) < 0 by decide)]
 rw [show (max 0 (min (6 : Int) ((r.length + 8 : Nat) : Int))).toNat = 6 by lia, show (max 0 (min (-2 + ((r.length + 8 : Nat) : Int)) ((r.length + 8 : Nat) : Int))).toNat = r.length + 6 by lia, Nat.add_sub_cancel]
 unfold C3
 rw [v0P, List.drop_append_of_le_length (by decide)]
 exact List.take_left
theorem q4h (r : List UInt8) : (A8 r).map (·.toUInt8) = r := by
 unfold A8
 rw [v0W]
 exact (List.map_congr_left fun b _ => by simp).trans (List.map_id r)
theorem q9K {l : List Nat} (h : ∀ c ∈ l, c < 256) : (trl l).map U9 = tOf l := by
 unfold trl tOf
 rw [List.map_flatten, v0W]
 congr 1
 exact List.map_congr_left fun c hc => q9i (h c hc)
theorem q7N {r : List UInt8} (h1 : r ≠ []) (h2 : r.length ≤ 100) : q2Q (trl (A8 r)) (A8 r) := by
 have l1 : (A8 r).length = r.length := by simp [A8]
 have l2 := U7 (A8 r)
 have e := q9K (P4 (bs := r))
 refine ⟨e, fun q => h1 (by simpa [A8] using q), P4, ?_, by lia⟩
 rw [← e, v0I]; lia
theorem q9L : ((List.range 256).all fun c => (U6 c).all fun d => Nat.blt d 256) = true := by rfl'
theorem q4i (r : List UInt8) : ∀ c ∈ trl (A8 r), c < 256 := fun c hc => by
 unfold trl at hc
 obtain ⟨l, hl, hc⟩ := List.mem_flatten.mp hc
 obtain ⟨d, hd, rfl⟩ := v0z.mp hl
 rw [n7 (P4 d hd)] at hc
 exact v0v (v0w.mp (v0w.mp q9L d (v0Q.mpr (P4 d hd))) c hc)
theorem q4j (rows : List (List UInt8)) : O4 ((sgn rows).map C3) := fun w hw c hc => by
 obtain ⟨p, hp, rfl⟩ := v0z.mp hw
 obtain ⟨r, hr, rfl⟩ := v0z.mp hp
 rcases v0f.mp hc with hc | hc
 ·rcases v0f.mp hc with hc | hc
  ·exact (show ∀ c ∈ ([61, 63, 120, 63, 113, 63] : List Nat), c < 1114112 by decide) c hc
  ·exact Nat.lt_trans (q4i r c hc) (by decide)
 ·exact (show ∀ c ∈ ([63, 61] : List Nat), c < 1114112 by decide) c hc
section
variable {x : SX} {loc : Loc} {sto : Sto} {K : AV → Sto → Prop}
theorem OpS.conv {op : List Value → Sem Value} {as : List AV} {i : Nat} {ao : AO} (ao' : AO) (hi : sto[i]? = some ao) (g : ∀ α ob, OR α ao ob → OR α ao' ob) (h : OpS x op as loc (sto.set i ao') K) : OpS x op as loc sto K :=
 fun c α s vs Q E O S rv P => h c α s vs Q E O (S.conv hi (g α)) rv P
theorem q1i {ls : List (List UInt8)} : ∀ α ob, OR α (.lst (ls.map .bytes)) ob → OR α (.lsB ls) ob := fun α ob h => h
theorem N0 {β : Type} {l : List β} {i : Nat} {d : β} (h : i < l.length) : l.take (i + 1) = l.take i ++ [l.getD i d] := by rw [v0O, C0 (d := d) h]; rfl
theorem P7 {β : Type} {l : List β} {i : Nat} {d : β} (h : i < l.length) : l.getD i d ∈ l := v0i (C0 h)
theorem q4k {β γ : Type} {f : β → γ} {l : List β} {i : Nat} {d : β} {e : γ} (h : i < l.length) : (l.map f).getD i e = f (l.getD i d) := by
 rw [v0J, v0L, C0 (d := d) h]; rfl
theorem q9M (hr : x.fr = true) (hd : 11 ≤ x.d) {rows : List (List UInt8)} (R : o6 rows) (h : K (.bool true) []) : CodeS x (.ref 872) [.str (C5 (sgn rows)), .bytes rows.flatten] [] loc [] K := by
 have le := R.le
 have hwl : ∀ i, i < rows.length → ((sgn rows).map C3).getD i [] = C3 (trl (A8 (rows.getD i []))) := fun i hi => by
  unfold sgn
  rw [v0W]
  exact q4k hi
 have hln : ((sgn rows).map C3).length = rows.length := by simp [sgn]
 have hst := q4j rows
 have hsp := R.sp
 have hms : rows.map (fun r => F8 (trl (A8 r))) = (sgn rows).map C3 := by unfold sgn; rw [v0W]; rfl
 generalize C5 (sgn rows) = line at hsp ⊢
 generalize (sgn rows).map C3 = ws at hwl hln hst hsp hms
 generalize hoc : rows.flatten = oct
 refine D5 fn872 (loc₀ := [(S "line", .str line), (S "octets", .bytes oct)]) (fun α vs ks r rk => ?_) (by rfl') (show List.Nodup [S "line", S "octets"] from by decide +kernel) (by lia) ?_
 ·obtain ⟨v, w, rfl, r1, r2⟩ := r.two
  obtain rfl := rk.nil
  exact ⟨[(S "line", v), (S "octets", w)], fun Se => by rfl', rfl, r1, rfl, r2, trivial⟩
 have TO : ∀ y : SX, y.fr = true → 10 ≤ y.d → D8 y (A5 DB XB) := fun y h1 h2 => B2 (DB_ok h1 h2) (q2P y)
 have TW := TO (xW x) hr (by show 10 ≤ x.d - 1; lia)
 refine XSs.mid (pre := BW.take 1) (st := asC (nth BW 1)) (post := BW.drop 2) (by rfl') (A1 TW 40 _ _ _ _ ?_)
 rw [bw1]
 refine ⟨_, ws, rfl, hsp, ?_⟩
 show XS (xW x) (asC (nth BW 1)) (lW line oct) [.lsS ws] _
 refine XS.asC (by rfl') (by rfl') (by rfl') (by rfl') (by rfl') (A4 TW 40 false _ _ _ _ ?_)
 rw [bw2, show (lcG cW).ifs = [] from by rfl']
 refine CompS.intro (n := ws.length) (fun i => (rows.take i).map .bytes) (fun o => [.raw o]) (by rfl') (.lsS rfl) (sz (by lia)) (A7 (by rfl')) (fun o p hp => ?_) (fun o => ⟨rfl, rfl⟩) (fun o i o' hi hl => ?_) fun o hl => ?_
 ·skip
  cases v0c.mp hp
  rfl
 ·skip
  rw [hln] at hi
  have hm := P7 (d := ([] : List UInt8)) hi
  have h1 := R.ne _ hm
  have h2 := R.ln _ hm
  refine A4 (TO (cx (xW x) (lcS cW)) hr (by show 10 ≤ x.d - 1; lia)) 40 false _ _ _ _ ?_
  rw [hwl i hi]
  have htk := N0 (d := []) hi
  have hq := q7N h1 h2
  have hb := q4h (rows.getD i [])
  have l1 : (A8 (rows.getD i [])).length = (rows.getD i []).length := by simp [A8]
  have l2 := U7 (A8 (rows.getD i []))
  have l3 : (C3 (trl (A8 (rows.getD i [])))).length = (trl (A8 (rows.getD i []))).length + 8 := by simp [C3]
  rw [bw3, q1h]
  refine ⟨sz (by lia), _, _, rfl, hq, ?_, _, rfl, rfl, P4, sz (by lia), ?_⟩
  ·intro a ha
   rcases v0f.mp ha with q | q
   ·cases v0c.mp q; trivial
   ·rcases v0F.mp q with rfl | q
    ·intro v hv; obtain ⟨_, _, rfl⟩ := v0z.mp hv; trivial
    ·cases v0c.mp q; trivial
  rw [hb]
  exact ⟨[.raw o], [], rfl, rfl, trivial, A7 (by rfl'), by rw [htk, v0M]; rfl, rfl⟩
 ·skip
  rw [hln, v0R]
  show XSs (xW x) (BW.drop 2) (lW' line oct) [.lsS ws, .lst (rows.map .bytes)] (BodyK 0 K)
  refine SS.conv (i := 1) (.lsB rows) rfl q1i ?_
  show XSs (xW x) (BW.drop 2) (lW' line oct) [.lsS ws, .lsB rows] (BodyK 0 K)
  rw [bw0]
  refine XSs.cons (XS.ret ?_)
  suffices main : X9 (fun e s K => EV (xW x) e (lW' line oct) s K) (A5 DB XB).tru .And [.Compare (A6 (R5 eW1) 0) [.Eq] [a5 dW] (q1g eW1), A6 (R5 eW) 1] [.lsS ws, .lsB rows] (fun a s₁ => BodyK 0 K (.ret a) (lW' line oct) s₁) from
   fun c α s Q E O S P => EV.bools (fun v s K h => TW.tru v _ s K h) (fun e s K h => h) main c α s Q E O S P
  refine EV.compare (by rfl') (A4 TW 40 false _ _ _ _ ?_)
  rw [bw4]
  refine EV.comp (F5 (by rfl')) (S7 (by rfl') (by rfl')) (by rfl') (A4 TW 40 false _ _ _ _ ?_)
  rw [bw5]
  refine CompS.intro (n := rows.length) (fun i => (rows.take i).map (fun r => .str (F8 (trl (A8 r))))) (fun o => [.lsS ws, .raw o]) (by rfl') (.lsB rfl) (sz (by lia)) (A7 (by rfl')) (fun o p hp => ?_) (fun o => ⟨rfl, rfl⟩) (fun o i o' hi hl => ?_) fun o hl => ?_
  ·skip
   cases v0c.mp hp
   rfl
  ·skip
   have hm := P7 (d := ([] : List UInt8)) hi
   have h1 := R.ne _ hm
   have h2 := R.ln _ hm
   refine A4 (TO (cx (xW x) (lcS dW)) hr (by show 10 ≤ x.d - 1; lia)) 40 false _ _ _ _ ?_
   rw [bw6]
   exact ⟨_, rfl, ⟨h1, by lia⟩, [.lsS ws, .raw o], [], rfl, rfl, trivial, A7 (by rfl'), by rw [N0 (d := []) hi, v0M]; rfl, rfl⟩
  ·skip
   rw [v0R]
   show OpS (xW x) _ [.ref 0, .ref 2] (lW' line oct) [.lsS ws, .lsB rows, .lst (rows.map fun r => .str (F8 (trl (A8 r))))] _
   refine OpS.conv (i := 2) (.lsS ws) rfl (fun α ob h => ?_) (TW.cmp _ _ _ _ _ _ ?_)
   ·rw [← hms]
    show LRep α ((rows.map _).map AV.str) ob
    rw [v0W]; exact h
   show (A5 DB XB).cmp .Eq (.ref 0) (.ref 2) [.lsS ws, .lsB rows, .lsS ws] _
   rw [bw7, decide_eq_true (rfl : ws = ws)]
   refine ⟨⟨hst, hst⟩, ?_⟩
   show EV (xW x) _ (lW' line oct) [.lsS ws, .lsB rows, .lsS ws] _
   refine A4 TW 40 false _ _ _ _ ?_
   rw [bw8]
   have hfl := R.fl
   refine ⟨_, rows, rfl, rfl, rfl, R.two, sz (by lia), ?_⟩
   rw [hoc, show (oct == oct) = true from by simp]
   exact .inl ⟨[], _, rfl, rfl, trivial, A7 (by rfl'), h⟩
def sNar (as : List AV) (sto : Sto) (K : KA1) : Prop := ∃ i ws, as = [.ref i] ∧ sto[i]? = some (.lsI ws) ∧ (1 ≤ ws.length ∧ ws.length ≤ 100) ∧ K (.ref sto.length) (sto ++ [.lsI (D7 ws)])
def sFew (as : List AV) (sto : Sto) (K : KA1) : Prop := ∃ i j cs ns, as = [.ref i, .ref j] ∧ i ≠ j ∧ sto[i]? = some (.lsI cs) ∧ sto[j]? = some (.lsI ns) ∧ q0i cs ns ∧ K (.bool true) sto
def sBk (as : List AV) (sto : Sto) (K : KA1) : Prop := ∃ rows, as = [.str (C5 (sgn rows)), .bytes rows.flatten] ∧ o6 rows ∧ K (.bool true) sto
theorem q7O (hd : 1 ≤ x.d) {as : List AV} (h : sNar as sto K) : CallS x (.ref 855) as [] loc sto K := by
 obtain ⟨i, ws, rfl, hi, ⟨h1, h2⟩, hK⟩ := h
 refine CallS.lift (as₀ := [.ref 0]) (sto₀ := [.lsI ws]) (K₀ := fun v s₁ => v = .ref 1 ∧ s₁ = [.lsI ws, .lsI (D7 ws)]) [i] (fun loc₀ => (q4Z (x := I2 x) hd h1 h2 ⟨rfl, rfl⟩).call) rfl (by simp) (fun k j hk => ?_) (A7 (by rfl')) (fun a ha => ?_) rfl fun v s₁ hv => ?_
 ·match k, hk with
  | 0, hk => cases hk; exact hi
  | k + 1, hk => simp at hk
 ·cases v0c.mp ha; exact Nat.zero_lt_one
 ·obtain ⟨rfl, rfl⟩ := hv
  refine ⟨[.lsI ws], [.lsI (D7 ws)], rfl, rfl, A7 (by rfl'), .inr ⟨1, _, rfl, v0h _, rfl, trivial, ?_⟩⟩
  show K _ ((sto.set i (.lsI ws)) ++ _)
  rw [E8 hi]; exact hK
theorem q9N (hr : x.fr = true) (hd : 2 ≤ x.d) {as : List AV} (h : sFew as sto K) : CallS x (.ref 891) as [] loc sto K := by
 obtain ⟨i, j, cs, ns, rfl, hij, hi, hj, hF, hK⟩ := h
 refine CallS.lift (as₀ := [.ref 0, .ref 1]) (sto₀ := [.lsI cs, .lsI ns]) (K₀ := fun v s₁ => v = .bool true ∧ s₁ = [.lsI cs, .lsI ns]) [i, j] (fun loc₀ => q7J (x := I2 x) hr hd hF ⟨rfl, rfl⟩) rfl (by simp; exact hij) (fun k l hk => ?_) (A7 (by rfl')) (fun a ha => ?_) rfl fun v s₁ hv => ?_
 ·match k, hk with
  | 0, hk => cases hk; exact hi
  | 1, hk => cases hk; exact hj
  | k + 2, hk => simp at hk
 ·rcases v0F.mp ha with rfl | ha
  ·exact Nat.zero_lt_two
  ·cases v0c.mp ha; exact Nat.one_lt_two
 ·obtain ⟨rfl, rfl⟩ := hv
  refine ⟨[.lsI cs, .lsI ns], [], rfl, rfl, A7 (by rfl'), .inl ⟨trivial, ?_⟩⟩
  show K _ ((sto.set i (.lsI cs)).set j (.lsI ns))
  rw [E8 hi, E8 hj]; exact hK
theorem cBack (hr : x.fr = true) (hd : 11 ≤ x.d) {as : List AV} (h : sBk as sto K) : CallS x (.ref 872) as [] loc sto K := by
 obtain ⟨rows, rfl, R, hK⟩ := h
 refine CallS.lift (as₀ := [.str (C5 (sgn rows)), .bytes rows.flatten]) (sto₀ := []) (K₀ := fun v s₁ => v = .bool true ∧ s₁ = []) [] (fun loc₀ => (q9M (x := I2 x) hr hd R ⟨rfl, rfl⟩).call) rfl List.nodup_nil (fun k j hk => by cases hk) (fun o ho => by cases ho) (fun a ha => ?_) rfl fun v s₁ hv => ?_
 ·rcases v0F.mp ha with rfl | ha
  ·trivial
  ·cases v0c.mp ha; trivial
 ·obtain ⟨rfl, rfl⟩ := hv
  exact ⟨[], [], rfl, rfl, (fun o ho => by cases ho), .inl ⟨trivial, hK⟩⟩
noncomputable def DL : DT := dP 841 q3K (dP 848 q3L (dP 88 sEnc (dP 855 sNar (dP 862 s8 (dP 867 q2E (dP 886 q2c (dP 872 sBk (dP 891 sFew D0))))))))
theorem q6a (hr : x.fr = true) (hd : 11 ≤ x.d) : DOk x DL :=
 D9 (fun as loc sto K h => q8F (by lia) h) (H5 x (by rfl')) (D9 (fun as loc sto K h => q8G (by lia) h) (H5 x (by rfl'))
  (D9 (fun as loc sto K h => by obtain ⟨bs, rfl, ⟨h1, h2⟩, hK⟩ := h; exact (cEnc (by lia) h1 h2 hK).call) (fn88.keep x)
   (D9 (fun as loc sto K h => q7O (by lia) h) (H5 x (by rfl')) (D9 (fun as loc sto K h => q1T (by lia) h) (H5 x (by rfl')) (D9 (fun as loc sto K h => cLine hr (by lia) h) (H5 x (by rfl'))
    (D9 (fun as loc sto K h => q7z hr (by lia) h) (H5 x (by rfl')) (D9 (fun as loc sto K h => cBack hr (by lia) h) (H5 x (by rfl')) (D9 (fun as loc sto K h => q9N hr (by lia) h) (H5 x (by rfl')) (A9 x)))))))))
end
theorem fn896 : FnOk 896 q0r (A0 59) := by constructor <;> rfl'
noncomputable def ifS (s : Stmt) : Expr × List Stmt × List Stmt × Pos := (A6 (sK s) 0, (sB s).1, (sB s).2, s.pos)
noncomputable abbrev BZ : List Stmt := fdB (A0 59)
noncomputable abbrev xZ (x : SX) : SX := inY x (A0 59)
noncomputable abbrev gZ : Expr := agL (nth BZ 0)
noncomputable abbrev gZ0 : Expr := A6 (R5 gZ) 0
noncomputable abbrev gZ1 : Expr := A6 (R5 gZ) 1
noncomputable abbrev pZ : Expr := agL (nth BZ 1)
noncomputable abbrev tZ : Expr := (ifS (nth BZ 2)).1
noncomputable abbrev tZ0 : Expr := A6 (R5 tZ) 0
noncomputable abbrev tZ1 : Expr := A6 (R5 tZ) 1
noncomputable abbrev wZ : Expr := agL (nth BZ 3)
theorem bz0 : BZ = .Assign [.Name (S "groups") (F3 (agN (nth BZ 0)))] (.BinOp (a5 gZ0) .Add gZ1 (q1g gZ)) (stP (nth BZ 0)) :: (asC (nth BZ 1) :: (.If (.Compare tZ0 [.NotEq] [a5 tZ1] (q1g tZ)) (ifS (nth BZ 2)).2.1 [] (ifS (nth BZ 2)).2.2.2 :: (asC (nth BZ 3) :: (BZ.drop 4)))) := by rfl'
theorem bz0' : BZ.drop 4 = (BZ.drop 4).take 3 ++ (H6 (nth BZ 7) :: BZ.drop 8) := by rfl'
noncomputable def l0 : Loc := [(S "script", .ref 1)]
noncomputable def l1 : Loc := l0 ++ [(S "groups", .ref 5)]
noncomputable def l2 : Loc := l1 ++ [(S "pieces", .ref 6)]
noncomputable def l3 : Loc := l2 ++ [(S "widths", .ref 8)]
noncomputable def l4 : Loc := l3 ++ [(S "narrow", .ref 9), (S "counts", .ref 10)]
noncomputable def zA (ob : Obj) (sc : List Int) : Sto := [.jtab, .raw ob, .lsI sc]
noncomputable def zB (ob : Obj) (sc : List Int) (ga gb gs : List (List UInt8)) : Sto := [.jtab, .raw ob, .lsI sc, .lsB ga, .lsB gb, .lsB gs]
noncomputable def zC (ob : Obj) (sc : List Int) (ga gb gs : List (List UInt8)) (ps : List (List Nat)) (ws : List Int) : Sto := zB ob sc ga gb gs ++ [.lsS ps, .lsS ps, .lsI ws]
noncomputable def zD (ob : Obj) (sc : List Int) (ga gb gs : List (List UInt8)) (ps : List (List Nat)) (ws nr cs : List Int) : Sto := zC ob sc ga gb gs ps ws ++ [.lsI nr, .lsI cs]
noncomputable def tailG : List (List UInt8) := [[97], [61], [32, 98], [39]]
section
variable {x : SX} {ob o o' : Obj} {sc ws nr cs rm : List Int} {ga gb gs : List (List UInt8)} {ps rows : List (List Nat)} {k : Int} {b : List UInt8} {p : List Nat} {s : Sto}
theorem bz1 (KK : KA1) : ew (xZ x) (A5 DL XB) 40 false (lcG gZ0).iter l0 [.jtab, .raw ob] KK = ∃ xs, W9 ob xs ∧ xs.length ≤ sizeLine ∧ KK (.ref 2) (zA ob (cutL xs none (some 3))) := by rfl'
theorem bz2 (KK : KA1) : ew (cx (xZ x) (lcS gZ0)) (A5 DL XB) 40 false (lcE gZ0) [(E5 (lcG gZ0).target, .int k)] s KK = KK (.bytes (group k)) s := by rfl'
theorem bz3 (KK : KA1) : ew (xZ x) (A5 DL XB) 40 false gZ1 l0 s KK = (4 ≤ sizeLine ∧ KK (.ref s.length) (s ++ [.lst (tailG.map .bytes)])) := by rfl'
theorem bz4 (KK : KA1) : (A5 DL XB).bin .Add (.ref 3) (.ref 4) [.jtab, .raw ob, .lsI sc, .lsB ga, .lsB gb] KK = (ga.length + gb.length ≤ sizeLine ∧ KK (.ref 5) (zB ob sc ga gb (ga ++ gb))) := by rfl'
theorem bz5 (KK : KA1) : ew (xZ x) (A5 DL XB) 40 false (lcG pZ).iter l1 s KK = KK (.ref 5) s := by rfl'
theorem bz6 (KK : KA1) : ew (cx (xZ x) (lcS pZ)) (A5 DL XB) 40 false (lcE pZ) [(E5 (lcG pZ).target, .bytes b)] s KK = ∃ bs, [AV.bytes b, .str [120]] = [AV.bytes bs, .str [120]] ∧ (bs ≠ [] ∧ bs.length ≤ 10000) ∧ (F8 (trl (A8 bs))).length ≤ sizeLine ∧ KK (.str (cutL (F8 (trl (A8 bs))) (some 6) (some (-2)))) s := by rfl'
theorem bz7 (KK : KA1) : ew (xZ x) (A5 DL XB) 40 false tZ0 l2 s KK = KK (.ref 6) s := by rfl'
theorem bz8 (KK : KA1) : ew (xZ x) (A5 DL XB) 40 false (lcG tZ1).iter l2 s KK = KK (.ref 5) s := by rfl'
theorem bz9 (KK : KA1) : ew (cx (xZ x) (lcS tZ1)) (A5 DL XB) 40 false (lcE tZ1) [(E5 (lcG tZ1).target, .bytes b)] s KK = (b.length ≤ 100 ∧ KK (.str (E6 b)) s) := by rfl'
theorem bz10 (KK : KA1) : (A5 DL XB).cmp .NotEq (.ref 6) (.ref 7) (zB ob sc ga gb gs ++ [.lsS ps, .lsS rows]) KK = ((O4 ps ∧ O4 rows) ∧ KK (.bool (!decide (ps = rows))) (zB ob sc ga gb gs ++ [.lsS ps, .lsS rows])) := by rfl'
theorem bz11 (KK : KA1) : ew (xZ x) (A5 DL XB) 40 false (lcG wZ).iter l2 s KK = KK (.ref 6) s := by rfl'
theorem bz12 (KK : KA1) : ew (cx (xZ x) (lcS wZ)) (A5 DL XB) 40 false (lcE wZ) [(E5 (lcG wZ).target, .str p)] s KK = (p.length ≤ sizeLine ∧ KK (.int (p.length : Int)) s) := by rfl'
theorem bz13 (KK : KF) : xw (xZ x) (A5 DL XB) 40 ((BZ.drop 4).take 1) l3 (zC ob sc ga gb gs ps ws) KK = ∃ i ws', [AV.ref 8] = [AV.ref i] ∧ (zC ob sc ga gb gs ps ws)[i]? = some (AO.lsI ws') ∧ (1 ≤ ws'.length ∧ ws'.length ≤ 100) ∧ KK .next (l3 ++ [(S "narrow", .ref 9)]) (zC ob sc ga gb gs ps ws ++ [.lsI (D7 ws')]) := by rfl'
theorem bz14 (KK : KF) : xw (xZ x) (A5 DL XB) 40 ((BZ.drop 5).take 2) (l3 ++ [(S "narrow", .ref 9)]) (zC ob sc ga gb gs ps ws ++ [.lsI nr]) KK =
 ((ws.sum = (ws.sum.toNat : Int) ∧ j6 ps nr ws.sum.toNat) ∧ KK .next l4 (zD ob sc ga gb gs ps ws nr (G0 ps (ws.sum.toNat + 1)))) := by rfl'
theorem bz15 (KK : KA1) : ew (xZ x) (A5 DL XB) 40 false (Q0 (nth BZ 7)) l4 (zD ob sc ga gb gs ps ws nr cs) KK = (nr.length ≤ sizeLine ∧ KK (.ref 11) (zD ob sc ga gb gs ps ws nr cs ++ [.lsI (cutL nr (some 1) (some 3))])) := by rfl'
theorem bz16 (KK : KF) : xw (xZ x) (A5 DL XB) 40 (G2 (nth BZ 7)) (up l4 (E7 (nth BZ 7)) (.int k)) (zD ob sc ga gb gs ps ws nr cs ++ [.raw o, .raw o']) KK =
 ((ps.length ≤ 100 ∧ B1 ps ≤ 500) ∧ V0 (B5 ps k) ∧ ∃ i ls, [AV.bytes [], .ref 5] = [AV.bytes [], .ref i] ∧ ([] : List (Str × AV)) = [] ∧ (zD ob sc ga gb gs ps ws nr cs ++ [.raw o, .raw o', .lsS (B5 ps k)])[i]? = some (AO.lsB ls) ∧ 2 ≤ ls.length ∧ ls.flatten.length ≤ sizeLine ∧
  ∃ rows, [AV.str (C5 (B5 ps k)), .bytes ls.flatten] = [AV.str (C5 (sgn rows)), .bytes rows.flatten] ∧ o6 rows ∧ KK .next (up l4 (E7 (nth BZ 7)) (.int k)) (zD ob sc ga gb gs ps ws nr cs ++ [.raw o, .raw o', .lsS (B5 ps k)])) := by rfl'
theorem bz17 (KK : KF) : xw (xZ x) (A5 DL XB) 40 (BZ.drop 8) l4 (zD ob sc ga gb gs ps ws nr cs ++ [.lsI rm]) KK = ∃ i j cs' ns', [AV.ref 10, .ref 9] = [AV.ref i, .ref j] ∧ i ≠ j ∧ (zD ob sc ga gb gs ps ws nr cs ++ [.lsI rm])[i]? = some (AO.lsI cs') ∧ (zD ob sc ga gb gs ps ws nr cs ++ [.lsI rm])[j]? = some (AO.lsI ns') ∧ q0i cs' ns' ∧
 KK (.ret (.bool true)) l4 (zD ob sc ga gb gs ps ws nr cs ++ [.lsI rm]) := by rfl'
end
noncomputable def F6 (gs : List (List UInt8)) : List Int := (sgn gs).map fun p => (p.length : Int)
def BkOk (gs : List (List UInt8)) (room : Int) : Prop := V0 (B5 (sgn gs) room) ∧ ∃ rows, B5 (sgn gs) room = sgn rows ∧ rows.flatten = gs.flatten ∧ o6 rows
structure o7 (gs : List (List UInt8)) : Prop where
 ne : ∀ g ∈ gs, g ≠ []
 ln : ∀ g ∈ gs, g.length ≤ 100
 n2 : 2 ≤ gs.length
 n100 : gs.length ≤ 100
 fl : gs.flatten.length ≤ 1000
 nr : (D7 (F6 gs)).length ≤ 1000
 tot : (F6 gs).sum = ((F6 gs).sum.toNat : Int)
 cnt : j6 (sgn gs) (D7 (F6 gs)) (F6 gs).sum.toNat
 few : q0i (G0 (sgn gs) ((F6 gs).sum.toNat + 1)) (D7 (F6 gs))
 bk : ∀ i, i < (cutL (D7 (F6 gs)) (some 1) (some 3)).length → BkOk gs ((cutL (D7 (F6 gs)) (some 1) (some 3)).getD i 0)
theorem q4l (bs : List UInt8) : E6 bs = trl (A8 bs) := by
 have : ∀ (bs : List UInt8) (p : List Nat), bs.foldl (fun p b => p ++ enc (b.toNat : Int)) p = p ++ trl (A8 bs) := by
  intro bs
  induction bs with
  | nil => intro p; simp [trl, A8]
  | cons b bs ih => intro p; rw [v0B, ih]; simp [trl, A8]
 exact (this bs []).trans (List.nil_append _)
theorem q5b (gs : List (List UInt8)) : O4 (sgn gs) := fun w hw c hc => by
 obtain ⟨r, hr, rfl⟩ := v0z.mp hw
 exact Nat.lt_trans (q4i r c hc) (by decide)
section
variable {x : SX} {K : AV → Sto → Prop}
theorem cLaw3 (hr : x.fr = true) (hd : 12 ≤ x.d) {ob : Obj} {sc : List Int} {ga gb gs : List (List UInt8)} (L : o7 gs) (h : K (.bool true) [.jtab, .raw ob]) : XSs (xZ x) (BZ.drop 4) l3 (zC ob sc ga gb gs (sgn gs) (F6 gs)) (BodyK 2 K) := by
 have TZ : D8 (xZ x) (A5 DL XB) := B2 (q6a hr (by show 11 ≤ x.d - 1; lia)) (q2P _)
 obtain ⟨_, _, n2, n100, fl, hnr, tot, cnt, few, bk⟩ := L
 have hps : (sgn gs).length ≤ 100 ∧ B1 (sgn gs) ≤ 500 := ⟨cnt.2.1, cnt.2.2.1⟩
 have hws : (F6 gs).length = gs.length := by simp [F6, sgn]
 have nn : 1 ≤ (F6 gs).length ∧ (F6 gs).length ≤ 100 := ⟨by lia, by lia⟩
 rw [bz0', show (BZ.drop 4).take 3 = (BZ.drop 4).take 1 ++ (BZ.drop 5).take 2 from by rfl', v0P]
 refine XSs.append (A1 TZ 40 _ _ _ _ ?_)
 rw [bz13]
 refine ⟨_, F6 gs, rfl, rfl, nn, ?_⟩
 generalize F6 gs = ws at *
 generalize D7 ws = nr at *
 refine XSs.mid (pre := (BZ.drop 5).take 2) (st := H6 (nth BZ 7)) (post := BZ.drop 8) rfl (A1 TZ 40 _ _ _ _ ?_)
 rw [bz14]
 refine ⟨⟨tot, cnt⟩, ?_⟩
 generalize G0 (sgn gs) (ws.sum.toNat + 1) = cs at *
 generalize hps' : sgn gs = ps at *
 show XS (xZ x) (H6 (nth BZ 7)) l4 (zD ob sc ga gb gs ps ws nr cs) _
 refine XS.for_ (by rfl') (F5 (by rfl')) (A4 TZ 40 false _ _ _ _ ?_)
 rw [bz15]
 refine ⟨sz (by lia), (cutL nr (some 1) (some 3)).length, _, _, .lsI rfl, fun o => ⟨fun i l s => l = l4 ∧ s = zD ob sc ga gb gs ps ws nr cs ++ [.raw o], ?_, ⟨rfl, rfl⟩, ?_, ?_⟩⟩
 ·rintro i l s ⟨rfl, rfl⟩ p hp
  cases v0c.mp hp
  rfl
 ·rintro i l s o' hi hl ⟨rfl, rfl⟩
  have hb := bk i hi
  rw [v0P]
  refine A1 TZ 40 _ _ _ _ ?_
  dsimp only
  generalize (cutL nr (some 1) (some 3)).getD i 0 = k at hb ⊢
  obtain ⟨b1, rows, b2, b3, b4⟩ := hb
  rw [hps'] at b1 b2
  refine (bz16 _).mpr ?_
  exact ⟨hps, b1, _, gs, rfl, rfl, rfl, n2, sz (by lia), rows, by rw [b2, b3], b4, l4, zD ob sc ga gb gs ps ws nr cs ++ [.raw o], [_], O0 (by rfl'), rfl, rfl, B9 (by rfl'), A7 (by rfl'), rfl, rfl⟩
 ·rintro l s hl ⟨rfl, rfl⟩
  refine A1 TZ 40 _ _ _ _ ?_
  show xw (xZ x) (A5 DL XB) 40 (BZ.drop 8) l4 (zD ob sc ga gb gs ps ws nr cs ++ [.lsI (cutL nr (some 1) (some 3))]) _
  rw [bz17]
  exact ⟨_, _, cs, nr, rfl, by decide, rfl, rfl, few, .inl ⟨[.jtab, .raw ob], _, rfl, rfl, trivial, A7 (by rfl'), h⟩⟩
theorem cLaw0 (hr : x.fr = true) (hd : 12 ≤ x.d) {ob : Obj} {sc : List Int} (ho : W9 ob sc) (hs : sc.length ≤ 1000) (L : o7 ((cutL sc none (some 3)).map group ++ tailG)) (h : K (.bool true) [.jtab, .raw ob]) : XSs (xZ x) BZ l0 [.jtab, .raw ob] (BodyK 2 K) := by
 have TO : ∀ y : SX, y.fr = true → 11 ≤ y.d → D8 y (A5 DL XB) := fun y h1 h2 => B2 (q6a h1 h2) (q2P y)
 have TZ := TO (xZ x) hr (by show 11 ≤ x.d - 1; lia)
 have hsc : (cutL sc none (some 3)).length ≤ 3 := by
  unfold cutL bnd
  rw [List.length_take]
  simp only [if_neg (show ¬ ((3 : Int) < 0) by decide)]
  lia
 rw [bz0]
 refine XSs.cons (XS.assign (by rfl') (EV.binop ?_))
 refine EV.comp (F5 (by rfl')) (S7 (by rfl') (by rfl')) (by rfl') (A4 TZ 40 false _ _ _ _ ?_)
 rw [bz1]
 refine ⟨sc, ho, sz (by lia), ?_⟩
 generalize cutL sc none (some 3) = sc at *
 refine CompS.intro (n := sc.length) (fun i => (sc.take i).map (fun n => .bytes (group n))) (fun o => [.jtab, .raw ob, .raw o]) (by rfl') (.lsI rfl) (sz (by lia)) (A7 (by rfl')) (fun o p hp => ?_) (fun o => ⟨rfl, rfl⟩) (fun o i o' hi hl => ?_) fun o hl => ?_
 ·skip
  cases v0c.mp hp
  rfl
 ·skip
  refine A4 (TO (cx (xZ x) (lcS gZ0)) hr (by show 11 ≤ x.d - 1; lia)) 40 false _ _ _ _ ?_
  rw [bz2]
  exact ⟨[.jtab, .raw ob, .raw o], [], rfl, rfl, trivial, A7 (by rfl'), by rw [N0 (d := 0) hi, v0M]; rfl, rfl⟩
 skip
 rw [v0R]
 refine A4 TZ 40 false _ _ _ _ ?_
 rw [bz3]
 refine ⟨sz (by lia), ?_⟩
 show OpS (xZ x) (op2 (binaryOp .Add)) [.ref 3, .ref 4] l0 [.jtab, .raw ob, .lsI sc, .lst (sc.map fun n => .bytes (group n)), .lst (tailG.map .bytes)] _
 refine OpS.conv (i := 3) (.lsB (sc.map group)) rfl (fun α ob h => ?_) (OpS.conv (i := 4) (.lsB tailG) rfl q1i (TZ.bin _ _ _ _ _ _ ?_))
 ·show LRep α ((sc.map group).map .bytes) ob
  rw [v0W]; exact h
 show (A5 DL XB).bin .Add (.ref 3) (.ref 4) [.jtab, .raw ob, .lsI sc, .lsB (sc.map group), .lsB tailG] _
 rw [bz4]
 have hgl : (sc.map group).length = sc.length := v0I ..
 refine ⟨sz (by rw [hgl]; show sc.length + 4 ≤ _; lia), M7 (x := xZ x) ?_⟩
 have LL := L
 generalize sc.map group = ga at *
 generalize tailG = gb at *
 generalize ga ++ gb = gs at *
 obtain ⟨ne, ln, n2, n100, _, _, _, _, _, _⟩ := L
 have eS : ∀ KK : Loc → Sto → Prop, stW (xZ x) (S "groups") (.ref 5) l0 (zB ob sc ga gb gs) KK = KK l1 (zB ob sc ga gb gs) := fun KK => by rfl'
 rw [eS]
 refine XSs.cons (XS.asC (by rfl') (by rfl') (by rfl') (by rfl') (by rfl') (A4 TZ 40 false _ _ _ _ ?_))
 rw [bz5, show (lcG (agL (nth BZ 1))).ifs = [] from by rfl']
 refine CompS.intro (n := gs.length) (fun i => (gs.take i).map (fun r => .str (trl (A8 r)))) (fun o => [.jtab, .raw ob, .lsI sc, .lsB ga, .lsB gb, .raw o]) (by rfl') (.lsB rfl) (sz (by lia)) (A7 (by rfl')) (fun o p hp => ?_) (fun o => ⟨rfl, rfl⟩) (fun o i o' hi hl => ?_) fun o hl => ?_
 ·skip
  cases v0c.mp hp
  rfl
 ·skip
  have hm := P7 (d := ([] : List UInt8)) hi
  have h1 := ne _ hm
  have h2 := ln _ hm
  have htk := N0 (d := ([] : List UInt8)) hi
  generalize gs.getD i [] = g at *
  refine A4 (TO (cx (xZ x) (lcS pZ)) hr (by show 11 ≤ x.d - 1; lia)) 40 false _ _ _ _ ?_
  rw [bz6]
  have q1 : (A8 g).length = g.length := by simp [A8]
  have q2 := U7 (A8 g)
  have q3 : (F8 (trl (A8 g))).length = (trl (A8 g)).length + 8 := by simp [F8]
  refine ⟨g, rfl, ⟨h1, by lia⟩, sz (by lia), ?_⟩
  rw [show cutL (F8 (trl (A8 g))) (some 6) (some (-2)) = trl (A8 g) from q1h _]
  exact ⟨[.jtab, .raw ob, .lsI sc, .lsB ga, .lsB gb, .raw o], [], rfl, rfl, trivial, A7 (by rfl'), by rw [htk, v0M]; rfl, rfl⟩
 skip
 rw [v0R]
 show XSs (xZ x) _ l2 (zB ob sc ga gb gs ++ [.lst (gs.map fun r => .str (trl (A8 r)))]) _
 refine SS.conv (i := 6) (.lsS (sgn gs)) rfl (fun α ob h => ?_) ?_
 ·show LRep α ((sgn gs).map .str) ob
  unfold sgn
  rw [v0W]; exact h
 have hpl : (sgn gs).length = gs.length := v0I ..
 refine XSs.cons (XS.if_ (TS.compare (by rfl') (A4 TZ 40 false _ _ _ _ ?_)))
 rw [bz7]
 refine EV.comp (F5 (by rfl')) (S7 (by rfl') (by rfl')) (by rfl') (A4 TZ 40 false _ _ _ _ ?_)
 rw [bz8]
 refine CompS.intro (n := gs.length) (fun i => (gs.take i).map (fun r => .str (trl (A8 r)))) (fun o => [.jtab, .raw ob, .lsI sc, .lsB ga, .lsB gb, .raw o, .lsS (sgn gs)]) (by rfl') (.lsB rfl) (sz (by lia)) (A7 (by rfl')) (fun o p hp => ?_) (fun o => ⟨rfl, rfl⟩) (fun o i o' hi hl => ?_) fun o hl => ?_
 ·skip
  cases v0c.mp hp
  rfl
 ·skip
  have hm := P7 (d := ([] : List UInt8)) hi
  have h2 := ln _ hm
  have htk := N0 (d := ([] : List UInt8)) hi
  generalize gs.getD i [] = g at *
  refine A4 (TO (cx (xZ x) (lcS tZ1)) hr (by show 11 ≤ x.d - 1; lia)) 40 false _ _ _ _ ?_
  rw [bz9, q4l]
  exact ⟨h2, [.jtab, .raw ob, .lsI sc, .lsB ga, .lsB gb, .raw o, .lsS (sgn gs)], [], rfl, rfl, trivial, A7 (by rfl'), by rw [htk, v0M]; rfl, rfl⟩
 skip
 rw [v0R]
 show OpS (xZ x) _ [.ref 6, .ref 7] l2 (zB ob sc ga gb gs ++ [.lsS (sgn gs), .lst (gs.map fun r => .str (trl (A8 r)))]) _
 refine OpS.conv (i := 7) (.lsS (sgn gs)) rfl (fun α ob h => ?_) (TZ.cmp _ _ _ _ _ _ ?_)
 ·show LRep α ((sgn gs).map .str) ob
  unfold sgn
  rw [v0W]; exact h
 have hst := q5b gs
 show (A5 DL XB).cmp .NotEq (.ref 6) (.ref 7) (zB ob sc ga gb gs ++ [.lsS (sgn gs), .lsS (sgn gs)]) _
 rw [bz10, decide_eq_true (rfl : sgn gs = sgn gs)]
 refine ⟨⟨hst, hst⟩, TZ.tru _ _ _ _ ?_⟩
 show XSs (xZ x) [] l2 (zB ob sc ga gb gs ++ [.lsS (sgn gs), .lsS (sgn gs)]) _
 refine XSs.nil ?_
 refine XSs.cons (XS.asC (by rfl') (by rfl') (by rfl') (by rfl') (by rfl') (A4 TZ 40 false _ _ _ _ ?_))
 rw [bz11, show (lcG (agL (nth BZ 3))).ifs = [] from by rfl']
 refine CompS.intro (n := (sgn gs).length) (fun i => ((sgn gs).take i).map (fun p => .int (p.length : Int))) (fun o => zB ob sc ga gb gs ++ [.raw o, .lsS (sgn gs)]) (by rfl') (.lsS rfl) (sz (by lia)) (A7 (by rfl')) (fun o p hp => ?_) (fun o => ⟨rfl, rfl⟩) (fun o i o' hi hl => ?_) fun o hl => ?_
 ·skip
  cases v0c.mp hp
  rfl
 ·skip
  have hm := P7 (d := ([] : List Nat)) hi
  have htk := N0 (d := ([] : List Nat)) hi
  have h3 : ((sgn gs).getD i []).length ≤ 1000 := by
   obtain ⟨g, hg, e⟩ := v0z.mp hm
   rw [← e]
   have q1 : (A8 g).length = g.length := by simp [A8]
   have q2 := U7 (A8 g)
   have q3 := ln g hg
   lia
  generalize (sgn gs).getD i [] = p at *
  refine A4 (TO (cx (xZ x) (lcS wZ)) hr (by show 11 ≤ x.d - 1; lia)) 40 false _ _ _ _ ?_
  rw [bz12]
  exact ⟨sz (by lia), zB ob sc ga gb gs ++ [.raw o, .lsS (sgn gs)], [], rfl, rfl, trivial, A7 (by rfl'), by rw [htk, v0M]; rfl, rfl⟩
 skip
 rw [v0R]
 show XSs (xZ x) _ l3 (zB ob sc ga gb gs ++ [.lsS (sgn gs), .lsS (sgn gs), .lst ((sgn gs).map fun p => .int (p.length : Int))]) _
 refine SS.conv (i := 8) (.lsI (F6 gs)) rfl (fun α ob h => ?_) (cLaw3 hr hd LL h)
 show LRep α ((F6 gs).map .int) ob
 unfold F6
 rw [v0W]; exact h
end
noncomputable def lstB (o : Obj) : Bool := match o.cls with
 | .type T => decide (T = "list")
 | _ => false
noncomputable def seqN (o : Obj) : Nat := dite _ (fun h => @Data.seq.elim (fun _ => Nat) o.data h fun vs _ => vs.size) fun _ => 0
theorem q5c (P : Params) : ((KK2 P).all fun p => !(lstB p.2) || Nat.ble 256 (seqN p.2)) = true := by rfl'
theorem q4m {w : World} {h : Heap} {a : Addr} {o : Obj} {sc : List Int} (X : (KK2 w.params).In h) (ha : h.get? a = some o) (hr : W9 o sc) (hl : sc.length ≤ 63) : ∀ b ob, (KK2 w.params).lookup b = some ob → b ≠ a := fun b ob e q => by
 subst q
 have e2 := X b ob e
 rw [ha] at e2; cases e2
 obtain ⟨hc, vs, n, hd, hv⟩ := hr
 have hm : (b, o) ∈ KK2 w.params := by
  have key : ∀ {l : List (Nat × Obj)}, l.lookup b = some o → (b, o) ∈ l := fun {l} => by
   induction l with
   | nil => intro e; cases e
   | cons p r ih =>
    intro e
    rw [show p = (p.1, p.2) from rfl, v0n] at e
    split at e
    ·rename_i q; cases e; rw [beq_iff_eq.mp q]; exact v0x
    ·exact v0y _ (ih e)
  exact key e
 have z := v0w.mp (q5c w.params) _ hm
 have z1 : lstB o = true := by unfold lstB; rw [hc]; exact decide_eq_true rfl
 have z2 : seqN o = sc.length := by unfold seqN; rw [hd]; show vs.size = _; rw [← v0D, ← hv.length, v0I]
 rw [z1, z2] at z
 have z := v0v (show Nat.ble 256 sc.length = true from z)
 lia
theorem q0k (P : Params) : ∀ b o, (KK P).lookup b = some o → (KK2 P).lookup b = some o := fun b o e => by
 unfold KK2
 rw [List.lookup_append, e]; rfl
theorem q9O (P : Params) : (KK P).lookup 809 = none := by rfl'
theorem v5 (P : Params) : (KK2 P).lookup 809 = some (k809 P) := by rfl'
theorem q7P {h : Heap} {L : Addr} {m : Str → Option Value} {S : List Addr} (hn : h.Ns L m) (hS : L ∉ S) : (hideAll h S).Ns L m := by
 obtain ⟨o, es, ep, e, r⟩ := hn
 exact ⟨o, es, ep, hideAll_get _ e hS, r⟩
structure Start (w : World) (s : Shared) (a : Addr) (o : Obj) (sc : List Int) : Prop where
 kk : (KK2 w.params).In s.heap
 top : ∃ mg mb, TopX mg mb s.heap
 ob : s.heap.get? a = some o
 ra : W9 o sc
 le : sc.length ≤ 63
 gn : s.gens = #[]
theorem Start.hid {w : World} {s : Shared} {a : Addr} {o : Obj} {sc : List Int} (T : Start w s a o sc) : (KK w.params).In (hideAll s.heap [809, a]) ∧ ∃ mg mb, TopX mg mb (hideAll s.heap [809, a]) := by
 obtain ⟨X, ⟨mg, mb, Tp⟩, ha, hr, hl, _⟩ := T
 have h8 := X _ _ (v5 w.params)
 have out : ∀ {b : Addr} {ob : Obj}, s.heap.get? b = some ob → (∀ vs, ob.data ≠ .fields vs) → (∀ vs n, ob.data ≠ .seq vs n) → b ∉ [809, a] := fun {b ob} e n1 n2 q => by
  rcases v0F.mp q with rfl | q
  ·rw [h8] at e; cases e; exact n1 _ rfl
  ·cases v0c.mp q
   rw [ha] at e; cases e
   obtain ⟨_, vs, n, hd, _⟩ := hr
   exact n2 _ _ hd
 have ns : ∀ {L : Addr} {m : Str → Option Value}, s.heap.Ns L m → (hideAll s.heap [809, a]).Ns L m := fun {L m} hn => q7P hn (by
  obtain ⟨ob, es, ep, e, d, _⟩ := hn
  exact out e (fun vs q => by rw [d] at q; cases q) fun vs n q => by rw [d] at q; cases q)
 refine ⟨fun b ob e => hideAll_get _ (X _ _ (q0k _ _ _ e)) fun q => ?_, mg, mb, ns Tp.g, ns Tp.b, let ⟨mc, h1, h2⟩ := Tp.nolimit; ⟨mc, ns h1, h2⟩, Tp.builtins, let ⟨bm, ob, h1, h2, h3, h4, h5, h6⟩ := Tp.bmain; ⟨bm, ob, h1, h2, hideAll_get _ h3 (out h3 (fun vs q => by rw [h6] at q; cases q) fun vs n q => by rw [h6] at q; cases q), h4, h5, h6⟩⟩
 rcases v0F.mp q with rfl | q
 ·rw [q9O] at e; cases e
 ·cases v0c.mp q
  exact q4m X ha hr hl _ _ (q0k _ _ _ e) rfl
def EndS (o : Obj) (v : AV) (s : Sto) : Prop := v = .bool true ∧ s = [.jtab, .raw o]
theorem q7Q {w : World} {s : Shared} {a : Addr} {o : Obj} {sc : List Int} {R : Result → Shared → Prop} (T : Start w s a o sc) (L : o7 ((cutL sc none (some 3)).map group ++ tailG))
  (hR : ∀ s', OldK s.heap s'.heap → s'.os = s.os → AllBare s'.gens → R (.ok (.ret (.bool true))) s') : codeAny (model pw w) callerA (.call (.ref 896) ⟨[.ref a], []⟩) R s := by
 obtain ⟨hK, hT⟩ := T.hid
 obtain ⟨X2, ⟨mg₀, mb₀, Tp₀⟩, ha, hr, hl, hgn⟩ := T
 have X : (KK w.params).In s.heap := fun b ob e => X2 _ _ (q0k _ _ _ e)
 have h8 := X2 _ _ (v5 w.params)
 have ne8 : (809 : Addr) ≠ a := q4m X2 ha hr hl _ _ (v5 w.params)
 have hs := fn896.sc w.params
 let x : SX := { w := w, fr := true, d := 40, scope := fdS (A0 59), cm := [] }
 refine codeAny_call_def (fd := C9 (q0r w.params)) (body := BZ) (binds := [(S "script", .ref a)]) (by decide) (X _ _ (fn896.lk _)) (fn896.da _) Tp₀.nolimit (codeRec_of X (fn896.cd _)) (fn896.bd _) (kp_binds X fun Se => by rfl') (by rw [hs]; exact fn896.ce) (fun y hy => ?_) (fun h₁ hns hk₁ => ?_) (by rw [hs]; exact fn896.co) (by rw [hs]; exact fn896.ge) (by rw [hs]; exact fn896.ki)
 ·cases v0c.mp hy
  rw [hs]
  rfl'
 let env := callEnv (C9 (q0r w.params)) s.heap.objs.size 896
 let h₀ := hideAll s.heap [809, a]
 let c : Cx := { A := callerA.deeper env, base := h₀, fs := [s.heap.objs.size], h₀ := h₀, outer := [env], env := env, os := s.os, gd := (s.gens, s.drawn) }
 have none_ : h₀.get? s.heap.objs.size = none := by
  cases e : h₀.get? s.heap.objs.size with
  | none => rfl
  | some ob => exact absurd (v0a (of_hideAll _ e)) (Nat.lt_irrefl _)
 have hki : env.scope.kind = .function := by show (C9 (q0r w.params)).scope.kind = _; rw [hs]; exact fn896.ki
 have O : Ok (xZ x) c := by
  refine ⟨fun _ => ⟨Around.frames_deeper rfl, fun b hb => hb, fun h m F => .cons (by rw [hki]; decide) rfl F.ns none_ trivial⟩, fun b ob e => e, fun b hb => ?_, fun b hb => .inl (v0c.mp hb), hK, hT, rfl, (show callerA.depth + 1 + 39 < recursionLimit by decide +kernel), (show callerA.units + 3 + 5 * 39 + 200 < PySem.cLine by decide +kernel), hki, hs, fn896.gl w.params, fn896.bi w.params⟩
  cases v0c.mp hb; exact none_
 have S1 : Sat (xZ x) c [809, a] l0 [.jtab, .raw o] { s with heap := h₁, toks := s.toks + 1 } := by
  refine ⟨⟨_, ⟨hns, .of fun b ob e => hk₁ b ob (of_hideAll _ e), none_⟩, fun y v e => ?_⟩, ⟨rfl, by simp; exact ne8, fun i ob e => ?_⟩, fun b hb => ⟨fun q => ?_, hideAll_none _ hb⟩, rfl, .of_eq hgn, fun y i e => by cases e⟩
  ·rw [show l0 = [(S "script", AV.ref 1)] from rfl, v0n] at e
   split at e
   ·rename_i q
    cases e
    rw [beq_iff_eq.mp q]
    exact ⟨_, rfl, a, rfl, rfl⟩
   ·cases e
  ·match i, e with
   | 0, e => cases e; exact ⟨809, _, rfl, hk₁ _ _ h8, rfl, #[], rfl, trivial⟩
   | 1, e => cases e; exact ⟨a, o, rfl, hk₁ _ _ ha, rfl⟩
   | i + 2, e => simp at e
  ·have : ∃ ob, s.heap.get? b = some ob := by
    rcases v0F.mp hb with rfl | hb
    ·exact ⟨_, h8⟩
    ·cases v0c.mp hb; exact ⟨_, ha⟩
   obtain ⟨ob, e⟩ := this
   exact absurd (v0a e) (by rw [show b = s.heap.objs.size from q]; exact Nat.lt_irrefl _)
 refine v1j (cLaw0 (x := x) (K := EndS o) rfl (show 12 ≤ 40 by decide) hr (by lia) L ⟨rfl, rfl⟩ c [809, a] _ (fun fl s' => R (.ok (.ret (retV fl))) s') _ O S1 fun f l2 s2 α2 t2 fl hf g2 S2 r2 => ?_) (fun fl s' q => by cases fl <;> exact q) fun _ _ e => e
 have fin : ∀ {β : List Addr} {r : Sto}, Sat (xZ x) c ([809, a] ++ β) l2 (.jtab :: .raw o :: r) t2 → R (.ok (.ret (.bool true))) t2 := fun {β r} S3 => by
  obtain ⟨_, _, h1, h2, h3, ps, rfl, h5⟩ := S3.hs.cell 0 _ rfl
  cases h1
  obtain ⟨_, _, p1, p2, rfl⟩ := S3.hs.cell 1 _ rfl
  cases p1
  obtain ⟨m, F, _⟩ := S3.fr
  obtain ⟨oc, vs, file, tf, flags, tg, inF, text, tt, e1, e2, e3, e4, e5, e6, e7, e9⟩ := q1Z w.params
  have e8 : oc.cls = .type "code" := by
   have : (KK w.params).lookup 813 = some (k813 w.params) := by rfl'
   rw [this] at e1; cases e1; rfl
  have hx : Heap.ExtBut 809 s.heap t2.heap := fun b ob hb e => by
   by_cases q : b = a
   ·subst q; rw [ha] at e; cases e; exact p2
   ·exact (F.keep b ob (hideAll_get _ e (by simp [hb, q]))).1 fun z => absurd (v0a e) (by rw [v0c.mp z]; exact Nat.lt_irrefl _)
  refine hR t2 ((OldK.refl s.heap).step_table (c₀ := 813) (c := 813) (P := 809) (ps₀ := #[]) (ps := #[]) (more := ps) ⟨⟨oc, vs, X _ _ e1, e8, e2, e9⟩, h8⟩ ⟨⟨oc, vs, X _ _ e1, e8, e2, e9⟩, h8⟩ ⟨⟨oc, vs, hx _ _ (by decide) (X _ _ e1), e8, e2, e9⟩, by simpa using h2⟩ hx (by decide)) S3.os S3.gens
 obtain ⟨β, rfl⟩ := g2
 cases f with
 | ret v =>
  obtain ⟨u, rfl, hu⟩ := r2
  rcases hf with ⟨s₁, junk, rfl, _, _, _, rfl, rfl⟩ | ⟨s₁, rest, j, ob, rfl, _, rfl, _, _, _, _, hv, _⟩ | ⟨rfl, rfl⟩
  ·cases hu; exact fin S2
  ·cases hv
  ·cases hu; exact fin (r := []) S2
 | next =>
  exfalso
  rcases hf with ⟨s₁, junk, rfl, _, _, _, hv, _⟩ | ⟨s₁, rest, j, o, rfl, _, hj, _⟩ | ⟨hv, _⟩
  ·cases hv
  ·cases hj
  ·cases hv
 | brk => exact hf.elim
 | cont => exact hf.elim
noncomputable def okS (c : Nat) : Bool := !(Nat.beq c 39) && !(Nat.beq c 10) && !(Unicode.isSpace c)
theorem q9P : ((List.range 256).all fun c => (U6 c).all okS && Nat.ble 1 (U6 c).length) = true := by rfl'
theorem q9Q {c : Nat} (h : c < 256) : (∀ d ∈ enc (c : Int), okS d = true) ∧ 1 ≤ (enc (c : Int)).length := by
 rw [n7 h]
 have := v0w.mp q9P c (v0Q.mpr h)
 obtain ⟨h1, h2⟩ := v0r.mp this
 exact ⟨fun d hd => v0w.mp h1 d hd, v0v h2⟩
theorem o8 (r : List UInt8) : ∀ d ∈ trl (A8 r), okS d = true := fun d hd => by
 unfold trl at hd
 obtain ⟨l, hl, hd⟩ := List.mem_flatten.mp hd
 obtain ⟨c, hc, rfl⟩ := v0z.mp hl
 exact (q9Q (P4 c hc)).1 d hd
theorem o9 {c : Nat} (h : okS c = true) : c ≠ 39 ∧ c ≠ 10 ∧ Unicode.isSpace c = false := by
 unfold okS at h
 simp only [v0s, Bool.not_eq_true'] at h
 exact ⟨Nat.ne_of_beq_eq_false h.1.1, Nat.ne_of_beq_eq_false h.1.2, h.2⟩
theorem no_39 (r : List UInt8) : 39 ∉ trl (A8 r) := fun h => (o9 (o8 r _ h)).1 rfl
theorem q1B {l : List Nat} (h : ∀ d ∈ l, okS d = true) : G6 l = l := by
 have : stripLo Unicode.isSpace true ⟨l.toArray⟩ = 0 := by
  unfold stripLo
  cases l with
  | nil => rfl
  | cons a r =>
   have h1 := (o9 (h a v0x)).2.2
   simp [h1]
 unfold G6 Txt.lstrip Txt.stripBy
 rw [if_pos (by unfold stripSame; rw [this]; simp [stripHi])]
theorem q2e (a b : List UInt8) : trl (A8 (a ++ b)) = trl (A8 a) ++ trl (A8 b) := by simp [trl, A8]
theorem X8 (w : List Nat) : (quo w).length = w.length + 2 := by simp [quo]
theorem j9 (r : List Nat) : (C3 r).length = r.length + 8 := by simp [C3]
theorem y6 : ∀ (rows : List (List Nat)), rows ≠ [] → (D2 (rows.map C3)).length + 1 = B1 rows + 11 * rows.length
 | [], h => absurd rfl h
 | [a], _ => by
  show (quo (C3 a)).length + 1 = _
  rw [X8, j9]; simp [B1]
 | a :: b :: r, _ => by
  have ih := y6 (b :: r) (by simp)
  show (quo (C3 a) ++ 32 :: D2 ((b :: r).map C3)).length + 1 = _
  simp only [B1, v0G, v0U, v0K, v0V, X8, j9] at ih ⊢
  lia
theorem q2f {w pre post : List Nat} (h : ∀ c ∈ w, c ≠ 39 ∧ c ≠ 10) : a6 (pre ++ (quo w ++ post)) pre.length w := by
 have at_ : ∀ k, (pre ++ (quo w ++ post))[pre.length + k]? = (quo w ++ post)[k]? := fun k => by
  rw [v0d (by lia), Nat.add_sub_cancel_left]
 refine ⟨(at_ 0).trans rfl, fun k c e => ⟨?_, h c (v0i e)⟩, ?_⟩
 ·rw [Nat.add_assoc, at_, Nat.add_comm 1 k]
  show (39 :: (w ++ [39]) ++ post)[k + 1]? = _
  rw [List.cons_append, List.getElem?_cons_succ, v0P, q9V (q9W.mp e).1]; exact e
 ·rw [Nat.add_assoc, at_, Nat.add_comm 1 w.length]
  show (39 :: (w ++ [39]) ++ post)[w.length + 1]? = _
  rw [List.cons_append, List.getElem?_cons_succ, v0P, v0d (v0h _), v0q]; rfl
theorem q2g : ∀ (ws : List (List Nat)) (pre : List Nat), ws ≠ [] → (∀ w ∈ ws, w ≠ [] ∧ ∀ c ∈ w, c ≠ 39 ∧ c ≠ 10) → Line (pre ++ D2 ws) pre.length ws
 | [], _, h, _ => absurd rfl h
 | [w], pre, _, h => by
  obtain ⟨h1, h2⟩ := h w v0x
  have := q2f (pre := pre) (post := []) h2
  rw [v0H] at this
  refine ⟨this, h1, ?_⟩
  show (pre ++ quo w).length = _
  rw [v0G, X8]; lia
 | w :: w' :: ws, pre, _, h => by
  obtain ⟨h1, h2⟩ := h w v0x
  have ih := q2g (w' :: ws) (pre ++ (quo w ++ [32])) (by simp) fun v hv => h v (v0y _ hv)
  have e : pre ++ (quo w ++ [32]) ++ D2 (w' :: ws) = pre ++ (quo w ++ 32 :: D2 (w' :: ws)) := by simp
  have el : (pre ++ (quo w ++ [32])).length = pre.length + 3 + w.length := by simp [X8]; lia
  rw [e, el] at ih
  refine ⟨q2f h2, h1, ?_, ih⟩
  show (pre ++ (quo w ++ 32 :: D2 (w' :: ws)))[pre.length + 2 + w.length]? = _
  rw [v0d (by lia), show pre.length + 2 + w.length - pre.length = (quo w).length by rw [X8]; lia, v0d (v0h _), v0q]; rfl
theorem q9R {rows : List (List UInt8)} (hn : rows ≠ []) (h1 : rows.length ≤ 100) (h2 : B1 (sgn rows) ≤ 1000) : q0j (C5 (sgn rows)) ((sgn rows).map C3) ∧ V0 (sgn rows) ∧ (C5 (sgn rows)).length + 1 = B1 (sgn rows) + 11 * rows.length := by
 have hl : (sgn rows).length = rows.length := v0I ..
 have hn' : sgn rows ≠ [] := fun q => hn (v0Y (by rw [← hl, q]; rfl))
 have hj : (C5 (sgn rows)).length + 1 = B1 (sgn rows) + 11 * (sgn rows).length := y6 _ hn'
 have hm : (sgn rows).map C3 ≠ [] := fun q => hn' (List.map_eq_nil_iff.mp q)
 refine ⟨⟨by lia, by rw [v0I]; lia, ?_, hm⟩, ⟨fun r hr => ⟨v0S (Y2 hr) h2, ?_⟩, by lia, by lia⟩, by rw [← hl]; exact hj⟩
 ·refine q2g _ [] hm fun w hw => ?_
  obtain ⟨p, hp, rfl⟩ := v0z.mp hw
  obtain ⟨r, _, rfl⟩ := v0z.mp hp
  refine ⟨fun q => by have := congrArg List.length q; rw [j9] at this; simp at this, fun c hc => ?_⟩
  rcases v0f.mp hc with hc | hc
  ·rcases v0f.mp hc with hc | hc
   ·exact (show ∀ c ∈ ([61, 63, 120, 63, 113, 63] : List Nat), c ≠ 39 ∧ c ≠ 10 by decide) c hc
   ·exact ⟨(o9 (o8 r c hc)).1, (o9 (o8 r c hc)).2.1⟩
  ·exact (show ∀ c ∈ ([63, 61] : List Nat), c ≠ 39 ∧ c ≠ 10 by decide) c hc
 ·obtain ⟨r', _, rfl⟩ := v0z.mp hr
  exact no_39 r'
noncomputable def wd (r : List UInt8) : Nat := (trl (A8 r)).length
noncomputable def Q6 (m : Int) (rows : List (List UInt8)) (g : List UInt8) : List (List UInt8) := match rows with
 | [] => [g]
 | r :: rs => if (wd r : Int) + (wd g : Int) ≤ m then (r ++ g) :: rs else g :: r :: rs
noncomputable def G9 (gs : List (List UInt8)) (m : Int) : List (List UInt8) := (gs.foldl (Q6 m) []).reverse
theorem q4n (a b : List UInt8) : wd (a ++ b) = wd a + wd b := by unfold wd; rw [q2e, v0G]
theorem g9 (a b : List (List UInt8)) : sgn (a ++ b) = sgn a ++ sgn b := v0M ..
theorem q5d (m : Int) (acc : List (List UInt8)) (g : List UInt8) : C4 (sgn acc.reverse) (trl (A8 g)) m = sgn (Q6 m acc g).reverse := by
 have hs := q1B (o8 g)
 cases acc with
 | nil => show C4 [] _ m = [_]; unfold C4; rw [if_pos (show ([] : List (List Nat)).length = 0 from rfl), hs]
 | cons r rs =>
  have e : sgn (r :: rs).reverse = sgn rs.reverse ++ [trl (A8 r)] := by rw [List.reverse_cons, g9]; rfl
  have l1 : (sgn rs.reverse ++ [trl (A8 r)]).length = (sgn rs.reverse).length + 1 := by simp
  have l2 : (sgn rs.reverse ++ [trl (A8 r)]).getD ((sgn rs.reverse).length + 1 - 1) [] = trl (A8 r) := by
   rw [Nat.add_sub_cancel, v0J, v0d (v0h _), v0q]; rfl
  rw [e]
  unfold C4 Q6
  rw [l1, if_neg (by lia), l2]
  show (if (wd r : Int) + (wd g : Int) ≤ m then _ else _) = sgn (if (wd r : Int) + (wd g : Int) ≤ m then (r ++ g) :: rs else g :: r :: rs).reverse
  by_cases h : (wd r : Int) + (wd g : Int) ≤ m
  ·rw [if_pos h, if_pos h, Nat.add_sub_cancel, List.set_append_right _ _ (v0h _), v0q, List.reverse_cons, g9]
   show _ ++ [trl (A8 r) ++ trl (A8 g)] = _ ++ [trl (A8 (r ++ g))]
   rw [q2e]
  ·rw [if_neg h, if_neg h, hs, List.reverse_cons, List.reverse_cons, g9, g9]; rfl
theorem J9 (gs : List (List UInt8)) (m : Int) : B5 (sgn gs) m = sgn (G9 gs m) := by
 have : ∀ (gs acc : List (List UInt8)), (sgn gs).foldl (fun rows p => C4 rows p m) (sgn acc.reverse) = sgn (gs.foldl (Q6 m) acc).reverse := by
  intro gs
  induction gs with
  | nil => intro acc; rfl
  | cons g gs ih => intro acc; show (sgn gs).foldl _ (C4 (sgn acc.reverse) (trl (A8 g)) m) = _; rw [q5d, ih]; rfl
 exact this gs []
theorem b9 (gs : List (List UInt8)) (m : Int) : (G9 gs m).flatten = gs.flatten := by
 have : ∀ (gs acc : List (List UInt8)), (gs.foldl (Q6 m) acc).reverse.flatten = acc.reverse.flatten ++ gs.flatten := by
  intro gs
  induction gs with
  | nil => intro acc; simp
  | cons g gs ih =>
   intro acc
   rw [v0B, ih, List.flatten_cons, ← v0P]
   congr 1
   unfold Q6
   split
   ·simp
   ·split <;> simp
 exact this gs []
theorem q7R {gs : List (List UInt8)} {m : Int} (h : ∀ g ∈ gs, g ≠ []) : ∀ r ∈ G9 gs m, r ≠ [] := by
 have : ∀ (gs acc : List (List UInt8)), (∀ g ∈ gs, g ≠ []) → (∀ r ∈ acc, r ≠ []) → ∀ r ∈ gs.foldl (Q6 m) acc, r ≠ [] := by
  intro gs
  induction gs with
  | nil => intro acc _ h; exact h
  | cons g gs ih =>
   intro acc hg ha
   refine ih _ (fun x hx => hg x (v0y _ hx)) ?_
   have g0 := hg g v0x
   unfold Q6
   split
   ·intro r hr; rw [v0c.mp hr]; exact g0
   ·rename_i a rs
    split
    ·intro r hr
     rcases v0F.mp hr with rfl | hr
     ·exact fun q => g0 (List.append_eq_nil_iff.mp q).2
     ·exact ha r (v0y _ hr)
    ·intro r hr
     rcases v0F.mp hr with rfl | hr
     ·exact g0
     ·exact ha r hr
 exact fun r hr => this gs [] h (fun r hr => by cases hr) r (List.mem_reverse.mp hr)
noncomputable def k6 (room : Nat) (rows : List Nat) (w : Nat) : List Nat := match rows with
 | [] => [w]
 | r :: rs => match Nat.ble (r + w) room with
  | true => (r + w) :: rs
  | false => w :: r :: rs
noncomputable def R6 (room : Nat) (ws : List Nat) : Nat := (ws.foldl (k6 room) []).length
theorem q7S (gs : List (List UInt8)) (room : Nat) : ∀ acc : List (List UInt8), (gs.foldl (Q6 (room : Int)) acc).map wd = (gs.map wd).foldl (k6 room) (acc.map wd) := by
 induction gs with
 | nil => intro acc; rfl
 | cons g gs ih =>
  intro acc
  rw [v0B, ih, v0K, v0B]
  congr 1
  unfold Q6 k6
  cases acc with
  | nil => rfl
  | cons r rs =>
   show (if (wd r : Int) + (wd g : Int) ≤ (room : Int) then (r ++ g) :: rs else g :: r :: rs).map wd = (match Nat.ble (wd r + wd g) room with
    | true => (wd r + wd g) :: rs.map wd
    | false => wd g :: wd r :: rs.map wd)
   by_cases h : wd r + wd g ≤ room
   ·rw [if_pos (by lia), Nat.ble_eq_true_of_le h, v0K, q4n]
   ·rw [if_neg (by lia), show Nat.ble (wd r + wd g) room = false from by rw [← Bool.not_eq_true, Nat.ble_eq]; exact h]; rfl
theorem q5e (gs : List (List UInt8)) (room : Nat) : (G9 gs (room : Int)).length = R6 room (gs.map wd) := by
 have := congrArg List.length (q7S gs room [])
 rw [v0I] at this
 unfold G9 R6
 rw [List.length_reverse]; exact this
theorem q2h (rows : List (List UInt8)) : B1 (sgn rows) = (rows.map wd).sum := by unfold B1 sgn; rw [v0W]; rfl
theorem q5f (gs : List (List UInt8)) (m : Int) : B1 (sgn (G9 gs m)) = (gs.map wd).sum := by
 have hw : ∀ rows : List (List UInt8), (rows.map wd).sum = wd rows.flatten := by
  intro rows
  induction rows with
  | nil => rfl
  | cons r rs ih => rw [v0K, v0V, ih, List.flatten_cons, q4n]
 rw [q2h, hw, b9, ← hw]
theorem q1j {rows : List (List UInt8)} {r : List UInt8} (h : r ∈ rows) : r.length ≤ rows.flatten.length := by
 induction rows with
 | nil => cases h
 | cons a rs ih =>
  rw [List.flatten_cons, v0G]
  rcases v0F.mp h with rfl | h
  ·lia
  ·have := ih h; lia
noncomputable def wsZ (W : List Nat) : List Int := toI W
noncomputable def k7 (W : List Nat) (room : Nat) : Bool := Nat.ble 1 room && Nat.ble (R6 room W + 1) (R6 (room - 1) W)
noncomputable def eqB (a b : Bool) : Bool := match a with
 | true => b
 | false => !b
noncomputable def v6 (k : Int) : List Int → Bool
 | [] => false
 | a :: r => match decide (k = a) with
  | true => true
  | false => v6 k r
noncomputable def chkR (W : List Nat) (nr : List Int) (room : Nat) : Bool :=
 ((List.range nr.length).all fun k => eqB (Nat.ble (k + 2) (R6 room W)) (decide ((room : Int) < nr.getD k 0))) && eqB (Nat.beq room 0 || !(v6 (room : Int) nr)) (!(k7 W room))
noncomputable def chkN (W : List Nat) (r : Int) : Bool := decide (((r.toNat : Nat) : Int) = r) && Nat.ble 2 (R6 r.toNat W)
noncomputable def chkT (W : List Nat) (nr : List Int) : Bool := Nat.ble nr.length 100 && (((cutL nr (some 1) (some 3)).all fun r => chkN W r) && (k7 W W.sum && (List.range (W.sum + 1)).all fun room => chkR W nr room))
noncomputable def chk (W : List Nat) : Bool := chkT W (D7 (wsZ W))
noncomputable def headW : List Nat := [1, 3, 2, 4, 6]
noncomputable def M6 : List Nat := [1, 3, 2, 3]
theorem chk0 : chk M6 = true := by rfl'
theorem chk1 : (headW.all fun a => chk (a :: M6)) = true := by rfl'
theorem chk2 : (headW.all fun a => headW.all fun b => chk (a :: b :: M6)) = true := by rfl'
theorem chk3 : (headW.all fun a => headW.all fun b => headW.all fun c => chk (a :: b :: c :: M6)) = true := by rfl'
theorem q2i {a b : Bool} (h : eqB a b = true) : a = b := by cases a <;> cases b <;> first | rfl | cases h
theorem q1k (k : Int) : ∀ l : List Int, v6 k l = decide (k ∈ l)
 | [] => by simp [v6]
 | a :: r => by
  unfold v6
  by_cases h : k = a
  ·rw [decide_eq_true h]; simp [h]
  ·rw [decide_eq_false h]
   show v6 k r = _
   rw [q1k k r]; simp [h]
theorem v7 : ∀ W : List Nat, (toI W).sum = ((W.sum : Nat) : Int)
 | [] => rfl
 | a :: r => by
  have := v7 r
  unfold toI at this ⊢
  rw [v0K, v0V, v0V, this]; lia
theorem q5g (gs : List (List UInt8)) : F6 gs = toI (gs.map wd) := by unfold F6 sgn toI; rw [v0W, v0W]; rfl
structure q6b (W : List Nat) (nr : List Int) : Prop where
 len : nr.length ≤ 100
 rooms : ∀ room, room ≤ W.sum → ∀ k, k < nr.length → (k + 1 < R6 room W ↔ (room : Int) < nr.getD k 0)
 due : ∀ room, room ≤ W.sum → ((room = 0 ∨ (room : Int) ∉ nr) ↔ k7 W room = false)
 last : k7 W W.sum = true
 two : ∀ r ∈ cutL nr (some 1) (some 3), ∃ n : Nat, r = (n : Int) ∧ 2 ≤ R6 n W
theorem chkOk {W : List Nat} {nr : List Int} (h : chkT W nr = true) : q6b W nr := by
 unfold chkT at h
 simp only [v0s, v0w, v0Q] at h
 obtain ⟨h1, h2, h3, h4⟩ := h
 refine ⟨v0v h1, fun room hr k hk => ?_, fun room hr => ?_, h3, fun r hr => ?_⟩
 ·have := h4 room (by lia)
  unfold chkR at this
  simp only [v0s, v0w, v0Q] at this
  have e := q2i (this.1 k hk)
  rw [show (k + 1 < R6 room W) ↔ Nat.ble (k + 2) (R6 room W) = true from by rw [Nat.ble_eq]; exact Iff.rfl, e, decide_eq_true_iff]
 ·have := h4 room (by lia)
  unfold chkR at this
  simp only [v0s] at this
  have e := q2i this.2
  rw [q1k] at e
  cases hf : k7 W room with
  | true =>
   rw [hf] at e
   simp only [Bool.not_true, Bool.or_eq_false_iff, Bool.not_eq_false', decide_eq_true_eq] at e
   have e1 := Nat.ne_of_beq_eq_false e.1
   simp [e1, e.2]
  | false =>
   rw [hf] at e
   simp only [Bool.not_false, Bool.or_eq_true, Bool.not_eq_true', decide_eq_false_iff_not, Nat.beq_eq] at e
   simp [e]
 ·have := h2 r hr
  unfold chkN at this
  obtain ⟨e1, e2⟩ := v0r.mp this
  exact ⟨r.toNat, (of_decide_eq_true e1).symm, v0v e2⟩
theorem q9S {gs : List (List UInt8)} {W : List Nat} (hW : gs.map wd = W) (hc : chk W = true) (ne : ∀ g ∈ gs, g ≠ []) (ln : ∀ g ∈ gs, g.length ≤ 10) (n2 : 2 ≤ gs.length) (n10 : gs.length ≤ 10) (fl : gs.flatten.length ≤ 100) (hS : W.sum ≤ 100) : o7 gs := by
 have hw : F6 gs = toI W := by rw [q5g, hW]
 have C : q6b W (D7 (toI W)) := chkOk hc
 have ht : (toI W).sum.toNat = W.sum := by rw [v7]; exact Int.toNat_natCast _
 have hl : (sgn gs).length = gs.length := v0I ..
 have hne : ∀ m : Int, G9 gs m ≠ [] := fun m q => by
  have := b9 gs m
  rw [q] at this
  match gs, n2, ne with
  | g :: _, _, ne => exact ne g v0x (List.append_eq_nil_iff.mp (this.symm.trans (by rfl))).1
 have hcl : ∀ m : Int, (G9 gs m).length ≤ 10 := fun m => by
  have h1 := (Y3 (sgn gs) m).2
  rw [J9] at h1
  have : (sgn (G9 gs m)).length = (G9 gs m).length := v0I ..
  lia
 have hsum : ∀ m : Int, B1 (sgn (G9 gs m)) = W.sum := fun m => by rw [q5f, hW]
 have hspl := fun m : Int => q9R (hne m) (by have := hcl m; lia) (by rw [hsum]; lia)
 have hcnt : ∀ room : Nat, (G9 gs (room : Int)).length = R6 room W := fun room => by rw [q5e, hW]
 have hpl : ∀ m : Int, (B5 (sgn gs) m).length = (G9 gs m).length := fun m => by rw [J9]; exact v0I ..
 have hgd : ∀ room, room ≤ W.sum → (G0 (sgn gs) (W.sum + 1)).getD room 0 = ((R6 room W : Nat) : Int) := fun room hr => by
  unfold G0
  rw [v0J, v0L, List.getElem?_range (by lia)]
  show ((B5 (sgn gs) (room : Int)).length : Int) = _
  rw [hpl, hcnt]
 have hfw : ∀ room, room ≤ W.sum → C1 (G0 (sgn gs) (W.sum + 1)) room = k7 W room := fun room hr => by
  unfold C1 k7
  rw [hgd room hr, hgd (room - 1) (by lia)]
  congr 1
  ·rw [Bool.eq_iff_iff, decide_eq_true_iff, Nat.ble_eq]
  ·rw [Bool.eq_iff_iff, decide_eq_true_iff, Nat.ble_eq]; lia
 have hcn : (G0 (sgn gs) (W.sum + 1)).length = W.sum + 1 := by unfold G0; rw [v0I, v0X]
 refine ⟨ne, fun g hg => v0S (ln g hg) (by decide), n2, by lia, by lia, by rw [hw]; have := C.len; lia, by rw [hw, ht, v7], ?_, ?_, fun i hi => ?_⟩
 ·rw [hw, ht]
  refine ⟨by lia, by lia, by rw [q2h, hW]; lia, fun room hr => ?_⟩
  obtain ⟨_, h2, h3⟩ := hspl (room : Int)
  have hh := hcnt room
  have hp := hpl (room : Int)
  have h4 := hsum (room : Int)
  rw [J9] at hp ⊢
  refine ⟨h2, ?_, C.len, fun k hk => ?_⟩
  ·rw [hp]; lia
  ·have := C.rooms room (by lia) k hk
   rw [hp, hh, ← this]; lia
 ·rw [hw, ht]
  refine ⟨by lia, by lia, ?_, fun room hr => ?_⟩
  ·rw [hcn, Nat.add_sub_cancel, hfw _ (v0h _)]; exact C.last
  ·rw [hcn] at hr
   rw [hfw room (by lia)]
   exact C.due room (by lia)
 ·rw [hw] at hi ⊢
  obtain ⟨n, e, h2⟩ := C.two _ (P7 (d := (0 : Int)) hi)
  rw [e]
  obtain ⟨g1, g2, g3⟩ := hspl (n : Int)
  have hf := b9 gs (n : Int)
  refine ⟨by rw [J9]; exact g2, G9 gs (n : Int), J9 gs _, hf, q7R ne, fun r hr => ?_, by rw [hcnt]; exact h2, by have := hcl (n : Int); lia, by rw [hf]; lia, g1⟩
  have := q1j hr
  rw [hf] at this; lia
theorem q7T : ((List.range 256).all fun c => Nat.beq (U6 c).length 1 || Nat.beq (U6 c).length 3) = true := by rfl'
theorem q2R (b : UInt8) : (enc (b.toNat : Int)).length = 1 ∨ (enc (b.toNat : Int)).length = 3 := by
 rw [n7 b.toNat_lt]
 have := v0w.mp q7T b.toNat (v0Q.mpr b.toNat_lt)
 rcases Bool.or_eq_true_iff.mp this with h | h
 ·exact .inl (v0t h)
 ·exact .inr (v0t h)
theorem v8 (b : UInt8) (r : List UInt8) : wd (b :: r) = (enc (b.toNat : Int)).length + wd r := by unfold wd trl A8; simp
theorem q4o : wd [] = 0 := rfl
theorem y7 (n : Int) : (group n).length = 1 ∨ (group n).length = 2 := by
 unfold group bytesOf
 rw [v0I, v0I, v0X]
 have h1 := Int.fmod_nonneg_of_pos n (show (0 : Int) < 2 by decide)
 have h2 := Int.fmod_lt_of_pos n (show (0 : Int) < 2 by decide)
 lia
theorem P8 (n : Int) : wd (group n) ∈ headW := by
 rcases y7 n with h | h
 ·match group n, h with
  | [a], _ => rw [v8, q4o]; rcases q2R a with e | e <;> rw [e] <;> decide
 ·match group n, h with
  | [a, b], _ => rw [v8, v8, q4o]; rcases q2R a with e | e <;> rcases q2R b with e' | e' <;> rw [e, e'] <;> decide
theorem q7U : tailG.map wd = M6 := by rfl'
theorem T0 {w : Nat} (h : w ∈ headW) : w ≤ 6 := (show ∀ w ∈ headW, w ≤ 6 by decide) w h
theorem q9T (sc : List Int) : o7 ((cutL sc none (some 3)).map group ++ tailG) := by
 have hsc : (cutL sc none (some 3)).length ≤ 3 := by
  unfold cutL bnd
  rw [List.length_take]
  simp only [if_neg (show ¬ ((3 : Int) < 0) by decide)]
  lia
 generalize cutL sc none (some 3) = l at *
 have key : ∃ W, (l.map group ++ tailG).map wd = W ∧ chk W = true ∧ W.sum ≤ 100 := by
  rw [v0M, q7U, v0W]
  match l, hsc with
  | [], _ => exact ⟨M6, rfl, chk0, by decide⟩
  | [a], _ =>
   have ha := P8 a
   exact ⟨wd (group a) :: M6, rfl, v0w.mp chk1 _ ha, by have := T0 ha; simp [M6]; lia⟩
  | [a, b], _ =>
   have ha := P8 a
   have hb := P8 b
   exact ⟨wd (group a) :: wd (group b) :: M6, rfl, v0w.mp (v0w.mp chk2 _ ha) _ hb, by have := T0 ha; have := T0 hb; simp [M6]; lia⟩
  | [a, b, c], _ =>
   have ha := P8 a
   have hb := P8 b
   have hc := P8 c
   exact ⟨wd (group a) :: wd (group b) :: wd (group c) :: M6, rfl, v0w.mp (v0w.mp (v0w.mp chk3 _ ha) _ hb) _ hc, by have := T0 ha; have := T0 hb; have := T0 hc; simp [M6]; lia⟩
  | a :: b :: c :: d :: r, h => simp at h
 obtain ⟨W, hW, hc, hS⟩ := key
 have hg : ∀ g ∈ l.map group ++ tailG, g ≠ [] ∧ g.length ≤ 2 := fun g hg => by
  rcases v0f.mp hg with h | h
  ·obtain ⟨n, _, rfl⟩ := v0z.mp h
   rcases y7 n with e | e
   ·exact ⟨(fun q => by rw [q] at e; cases e), by lia⟩
   ·exact ⟨(fun q => by rw [q] at e; cases e), by lia⟩
  ·exact (show ∀ g ∈ tailG, g ≠ [] ∧ g.length ≤ 2 by decide) g h
 have hlen : (l.map group ++ tailG).length = l.length + 4 := by rw [v0G, v0I]; rfl
 have hfl : ∀ gs : List (List UInt8), (∀ g ∈ gs, g.length ≤ 2) → gs.flatten.length ≤ 2 * gs.length := by
  intro gs
  induction gs with
  | nil => intro _; simp
  | cons g gs ih =>
   intro h
   have h1 := h g v0x
   have h2 := ih fun x hx => h x (v0y _ hx)
   rw [List.flatten_cons, v0G, v0U]; lia
 have hf := hfl _ fun g h => (hg g h).2
 exact q9S hW hc (fun g h => (hg g h).1) (fun g h => by have := (hg g h).2; lia) (by lia) (by lia) (by lia) hS
theorem q7V {w : World} {h : Heap} {mg : Str → Option Value} {fa : Addr} (X : (KK w.params).In h) (hn : h.Ns mainGlobals mg) (e : mg (S "law") = some (.ref fa)) : fa = 896 := by
 have e2 : nsIn (KK w.params) mainGlobals (S "law") = some (some (.ref 896)) := by rfl'
 have := mg_of X hn e2
 rw [e] at this
 cases this; rfl
theorem q5h {vals : List Value} {sc : List Int} (h : IntsAre vals sc) : VRs [] (sc.map .int) vals := by
 induction h with
 | nil => trivial
 | cons n t _ ih => exact ⟨⟨t, rfl⟩, ih⟩
theorem q4p {w : World} {s : Shared} {mean : ExcName → Option Value} {mg mb : Str → Option Value} {a : Addr} {vals : List Value} {sc : List Int} (Y : InK KK2 w s.heap) (T : Top qv (looseW qv loose) mean mg mb s.heap) (hL : s.heap.IsList a vals.toArray) (hI : IntsAre vals sc) (hc : sc.length ≤ 63) (hg : s.gens = #[]) : ∃ o, Start w s a o sc := by
 obtain ⟨o, h1, h2, n, h3⟩ := hL
 exact ⟨o, Y, ⟨mg, mb, T.g, T.b, T.nolimit, T.builtins, T.bmain⟩, h1, ⟨h2, vals.toArray, n, h3, q5h hI⟩, hc, hg⟩
set_option maxHeartbeats 4000000 in
theorem final : PySem.Challenge.rw_il0190_01.Holds := hd (by
 intro w s₀ s₁ mg mb G Y fa o pm cd doc dV kV ho hd hcd hD hmg hg args vals as hpre hlay hrd hwl hlo
 refine Ground.open G ?_
 intro T B D TE TW
 obtain rfl := q7V (Frag.In.keeps (K := KK w.params) (fun b ob e => Y _ _ (q0k _ _ _ e)) fun _ _ e => e) T.g hmg
 wrow_args hpre hlay hrd hwl hlo
 all_goals (
  rename List Int => sc
  rename IntsAre _ _ => hI
  rename Heap.IsList _ _ _ => hL
  refine enter_call ?_
  w_top on
  obtain ⟨ob, ST⟩ := q4p Y T hL hI (by lia) hg
  refine q7Q ST (q9T sc) fun s' h1 h2 h3 => ?_
  exact ⟨.inl ⟨.bool true, .bool true, [], rfl, fun _ => rfl, .bool true, by rfl', fun _ => ⟨List.nodup_nil, fun a ha => by cases ha⟩⟩, h1, h2, h3⟩))
end Mine
theorem PySem.Challenge.cw_il0190_01_holds : PySem.Challenge.rw_il0190_01.Holds :=
 Mine.final
