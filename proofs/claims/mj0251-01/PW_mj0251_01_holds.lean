import PyProof.Rows.All
import Wide.All
import OpenK.AllK
import Wide.FinOn
import Lean
import PySem.Challenge.RW_mj0251_01
set_option Elab.async false
set_option maxRecDepth 1000000
set_option maxHeartbeats 0
set_option linter.unusedVariables false
set_option linter.unusedSimpArgs false
open PySem PySem.W PyProof.Rows
namespace Mine
abbrev VP := PySem.Value → PySem.Shared → Prop
abbrev FP := PySem.Flow → PySem.Shared → Prop
abbrev RP := PySem.Result → PySem.Shared → Prop
abbrev OI := Option (Int × Int)
theorem lc {α : Type} {a b : α} {l : List α} (h : a ∈ b :: l) : a = b ∨ a ∈ l := List.mem_cons.mp h
theorem ls {α : Type} {a b : α} (h : a ∈ [b]) : a = b := List.mem_singleton.mp h
theorem wm {M : Model} {A : Around} {E : VP} {α : Type} {x : Sem α} {Q Q' : α → Shared → Prop} {s : Shared} (h : wpAny M A x Q E s) (k : ∀ v s, Q v s → Q' v s) : wpAny M A x Q' E s := wpAny_mono h k fun _ _ x => x
theorem oz02 {p1 p2 : Prop} {C : Prop} (h : p1 ∧ p2) (k : p1 → p2 → C) : C := let ⟨h1, h2⟩ := h; k h1 h2
theorem oz03 {p1 p2 p3 : Prop} {C : Prop} (h : p1 ∧ p2 ∧ p3) (k : p1 → p2 → p3 → C) : C := let ⟨h1, h2, h3⟩ := h; k h1 h2 h3
theorem oz11 {A1 : Type} {p1 : A1 → Prop} {C : Prop} (h : ∃ x1, p1 x1) (k : ∀ x1, p1 x1 → C) : C := let ⟨x1, h1⟩ := h; k x1 h1
theorem oz12 {A1 : Type} {p1 p2 : A1 → Prop} {C : Prop} (h : ∃ x1, p1 x1 ∧ p2 x1) (k : ∀ x1, p1 x1 → p2 x1 → C) : C := let ⟨x1, h1, h2⟩ := h; k x1 h1 h2
theorem oz13 {A1 : Type} {p1 p2 p3 : A1 → Prop} {C : Prop} (h : ∃ x1, p1 x1 ∧ p2 x1 ∧ p3 x1) (k : ∀ x1, p1 x1 → p2 x1 → p3 x1 → C) : C := let ⟨x1, h1, h2, h3⟩ := h; k x1 h1 h2 h3
theorem oz21 {A1 A2 : Type} {p1 : A1 → A2 → Prop} {C : Prop} (h : ∃ x1 x2, p1 x1 x2) (k : ∀ x1 x2, p1 x1 x2 → C) : C := let ⟨x1, x2, h1⟩ := h; k x1 x2 h1
theorem oz22 {A1 A2 : Type} {p1 p2 : A1 → A2 → Prop} {C : Prop} (h : ∃ x1 x2, p1 x1 x2 ∧ p2 x1 x2) (k : ∀ x1 x2, p1 x1 x2 → p2 x1 x2 → C) : C := let ⟨x1, x2, h1, h2⟩ := h; k x1 x2 h1 h2
theorem oz23 {A1 A2 : Type} {p1 p2 p3 : A1 → A2 → Prop} {C : Prop} (h : ∃ x1 x2, p1 x1 x2 ∧ p2 x1 x2 ∧ p3 x1 x2) (k : ∀ x1 x2, p1 x1 x2 → p2 x1 x2 → p3 x1 x2 → C) : C := let ⟨x1, x2, h1, h2, h3⟩ := h; k x1 x2 h1 h2 h3
theorem oz24 {A1 A2 : Type} {p1 p2 p3 p4 : A1 → A2 → Prop} {C : Prop} (h : ∃ x1 x2, p1 x1 x2 ∧ p2 x1 x2 ∧ p3 x1 x2 ∧ p4 x1 x2) (k : ∀ x1 x2, p1 x1 x2 → p2 x1 x2 → p3 x1 x2 → p4 x1 x2 → C) : C := let ⟨x1, x2, h1, h2, h3, h4⟩ := h; k x1 x2 h1 h2 h3 h4
theorem oz32 {A1 A2 A3 : Type} {p1 p2 : A1 → A2 → A3 → Prop} {C : Prop} (h : ∃ x1 x2 x3, p1 x1 x2 x3 ∧ p2 x1 x2 x3) (k : ∀ x1 x2 x3, p1 x1 x2 x3 → p2 x1 x2 x3 → C) : C := let ⟨x1, x2, x3, h1, h2⟩ := h; k x1 x2 x3 h1 h2
theorem oz33 {A1 A2 A3 : Type} {p1 p2 p3 : A1 → A2 → A3 → Prop} {C : Prop} (h : ∃ x1 x2 x3, p1 x1 x2 x3 ∧ p2 x1 x2 x3 ∧ p3 x1 x2 x3) (k : ∀ x1 x2 x3, p1 x1 x2 x3 → p2 x1 x2 x3 → p3 x1 x2 x3 → C) : C := let ⟨x1, x2, x3, h1, h2, h3⟩ := h; k x1 x2 x3 h1 h2 h3
theorem oz34 {A1 A2 A3 : Type} {p1 p2 p3 p4 : A1 → A2 → A3 → Prop} {C : Prop} (h : ∃ x1 x2 x3, p1 x1 x2 x3 ∧ p2 x1 x2 x3 ∧ p3 x1 x2 x3 ∧ p4 x1 x2 x3) (k : ∀ x1 x2 x3, p1 x1 x2 x3 → p2 x1 x2 x3 → p3 x1 x2 x3 → p4 x1 x2 x3 → C) : C := let ⟨x1, x2, x3, h1, h2, h3, h4⟩ := h; k x1 x2 x3 h1 h2 h3 h4
theorem oz43 {A1 A2 A3 A4 : Type} {p1 p2 p3 : A1 → A2 → A3 → A4 → Prop} {C : Prop} (h : ∃ x1 x2 x3 x4, p1 x1 x2 x3 x4 ∧ p2 x1 x2 x3 x4 ∧ p3 x1 x2 x3 x4) (k : ∀ x1 x2 x3 x4, p1 x1 x2 x3 x4 → p2 x1 x2 x3 x4 → p3 x1 x2 x3 x4 → C) : C := let ⟨x1, x2, x3, x4, h1, h2, h3⟩ := h; k x1 x2 x3 x4 h1 h2 h3
theorem oz53 {A1 A2 A3 A4 A5 : Type} {p1 p2 p3 : A1 → A2 → A3 → A4 → A5 → Prop} {C : Prop} (h : ∃ x1 x2 x3 x4 x5, p1 x1 x2 x3 x4 x5 ∧ p2 x1 x2 x3 x4 x5 ∧ p3 x1 x2 x3 x4 x5) (k : ∀ x1 x2 x3 x4 x5, p1 x1 x2 x3 x4 x5 → p2 x1 x2 x3 x4 x5 → p3 x1 x2 x3 x4 x5 → C) : C := let ⟨x1, x2, x3, x4, x5, h1, h2, h3⟩ := h; k x1 x2 x3 x4 x5 h1 h2 h3
theorem oz55 {A1 A2 A3 A4 A5 : Type} {p1 p2 p3 p4 p5 : A1 → A2 → A3 → A4 → A5 → Prop} {C : Prop} (h : ∃ x1 x2 x3 x4 x5, p1 x1 x2 x3 x4 x5 ∧ p2 x1 x2 x3 x4 x5 ∧ p3 x1 x2 x3 x4 x5 ∧ p4 x1 x2 x3 x4 x5 ∧ p5 x1 x2 x3 x4 x5) (k : ∀ x1 x2 x3 x4 x5, p1 x1 x2 x3 x4 x5 → p2 x1 x2 x3 x4 x5 → p3 x1 x2 x3 x4 x5 → p4 x1 x2 x3 x4 x5 → p5 x1 x2 x3 x4 x5 → C) : C := let ⟨x1, x2, x3, x4, x5, h1, h2, h3, h4, h5⟩ := h; k x1 x2 x3 x4 x5 h1 h2 h3 h4 h5
noncomputable abbrev pw : Program := PySem.Challenge.pw_mj0251_01
noncomputable def body0 : List Stmt := behindTheImports pw
noncomputable def F1 (i : Nat) : Stmt := body0.getD i (.Pass ⟨0, 0, 0, 0⟩)
noncomputable def qWS : Stmt → List Stmt
 | .ClassDef _ _ _ b _ _ _ _ _ _ _ => b
 | _ => []
noncomputable def F2 (i j : Nat) : Stmt := (qWS (F1 i)).getD j (.Pass ⟨0, 0, 0, 0⟩)
noncomputable def qLc : Stmt → Arguments
 | .FunctionDef _ a _ _ _ _ _ _ _ _ => a
 | _ => default
noncomputable def qBh : Stmt → List Stmt
 | .FunctionDef _ _ b _ _ _ _ _ _ _ => b
 | _ => []
noncomputable def qAM : Stmt → Scope
 | .FunctionDef _ _ _ _ _ _ s _ _ _ => s
 | _ => default
noncomputable def mkF (name qual : Str) (st : Stmt) (g : Addr) (dV pm cd : Value) (bi : Addr) : FuncData :=
 { name := name, qualname := qual, params := qLc st, body := .stmts (qBh st), scope := qAM st, globals := g, closure := [], defaults := dV, kwdefaults := .none, doc := .none, pyModule := pm, annotations := none, code := cd, closureTuple := .none, builtins := bi }
noncomputable def en (P : Params) (x : Str) (t : Tok) (v : Value) : DictEntry := ⟨PyData.keyHash P x, .str x t, v⟩
noncomputable abbrev ob (c : Value) (d : Data) : Obj := ⟨c, none, d, #[]⟩
noncomputable abbrev oZ : Obj := ob .none (.fields #[])
noncomputable abbrev oE : Obj := ob (.type "tuple") (.seq #[] 0)
noncomputable abbrev tu (xs : Array Value) : Obj := ob (.type "tuple") (.seq xs 0)
noncomputable abbrev cu (t : Tok) : Value := .str "/claim/cut.py" t
noncomputable abbrev co (n q : Str) (t t1 t2 : Tok) (a b c d e : Int) (r : Addr) (f : Bool) (k : Int) (r2 : Addr) (v1 v2 v3 v4 : Value) (x y : Int) (t3 : Tok) : Obj :=
 ob (.type "code") (.fields #[.str n t, .str q t1, cu t2, .int a 0, .int b 0, .int c 0, .int d 0, .int e 0, .ref r, .bool f, .int k 0, .ref r2, v1, v2, v3, v4, .int x 0, .int y 0, cu t3])
noncomputable abbrev fu (n q : Str) (st : Stmt) (dV : Value) (m : Str) (t : Tok) (cd : Addr) : Obj := ob (.type "function") (.func (mkF n q st 3 dV (.str m t) (.ref cd) 0))
noncomputable abbrev fn (n q : Str) (st : Stmt) : Obj := ob .none (.func (mkF n q st 0 .none .none .none 0))
noncomputable abbrev lv (v : Obj) : BT := .node v .nil .nil
noncomputable abbrev nd (v : Obj) (l r : BT) : BT := .node v l r
noncomputable def cutT : Nat → BT → BT
 | _, .nil => .nil
 | n, .node v l r => match Nat.beq n 0 with
  | true => .nil
  | false => .node v (cutT (n / 2) l) (cutT ((n - 1) / 2) r)
noncomputable section
def o0 (P : Params) : Obj := ob (.type "dict") (.dict #[en P "__name__" 1 (.str "builtins" 160), en P "__doc__" 2 (.builtin "builtins.__doc__:str#opaque"), en P "__package__" 3 (.builtin "builtins.__package__:str#opaque"), en P "__loader__" 4 (.builtin "builtins.__loader__:shared#opaque"), en P "__spec__" 5 (.builtin "builtins.__spec__#opaque"), en P "__build_class__" 6 (.builtin "__build_class__"), en P "__import__" 7 (.builtin "__import__"), en P "abs" 8 (.builtin "abs"), en P "all" 9 (.builtin "all"), en P "any" 10 (.builtin "any"), en P "ascii" 11 (.builtin "ascii"), en P "bin" 12 (.builtin "bin"), en P "breakpoint" 13 (.builtin "breakpoint"), en P "callable" 14 (.builtin "callable"), en P "chr" 15 (.builtin "chr"), en P "compile" 16 (.builtin "compile"), en P "delattr" 17 (.builtin "delattr"), en P "dir" 18 (.builtin "dir"), en P "divmod" 19 (.builtin "divmod"), en P "eval" 20 (.builtin "eval"), en P "exec" 21 (.builtin "exec"), en P "format" 22 (.builtin "format"), en P "getattr" 23 (.builtin "getattr"), en P "globals" 24 (.builtin "globals"), en P "hasattr" 25 (.builtin "hasattr"), en P "hash" 26 (.builtin "hash"), en P "hex" 27 (.builtin "hex"), en P "id" 28 (.builtin "id"), en P "input" 29 (.builtin "input"), en P "isinstance" 30 (.builtin "isinstance"), en P "issubclass" 31 (.builtin "issubclass"), en P "iter" 32 (.builtin "iter"), en P "aiter" 33 (.builtin "aiter"), en P "len" 34 (.builtin "len"), en P "locals" 35 (.builtin "locals"), en P "max" 36 (.builtin "max"), en P "min" 37 (.builtin "min"), en P "next" 38 (.builtin "next"), en P "anext" 39 (.builtin "anext"), en P "oct" 40 (.builtin "oct"), en P "ord" 41 (.builtin "ord"), en P "pow" 42 (.builtin "pow"), en P "print" 43 (.builtin "print"), en P "repr" 44 (.builtin "repr"), en P "round" 45 (.builtin "round"), en P "setattr" 46 (.builtin "setattr"), en P "sorted" 47 (.builtin "sorted"), en P "sum" 48 (.builtin "sum"), en P "vars" 49 (.builtin "vars"), en P "None" 50 .none, en P "Ellipsis" 51 .ellipsis, en P "NotImplemented" 52 .notImplemented, en P "False" 53 (.bool false), en P "True" 54 (.bool true), en P "bool" 55 (.type "bool"), en P "memoryview" 56 (.type "memoryview"), en P "bytearray" 57 (.type "bytearray"), en P "bytes" 58 (.type "bytes"), en P "classmethod" 59 (.type "classmethod"), en P "complex" 60 (.type "complex"), en P "dict" 61 (.type "dict"), en P "enumerate" 62 (.type "enumerate"), en P "filter" 63 (.type "filter"), en P "float" 64 (.type "float"), en P "frozenset" 65 (.type "frozenset"), en P "property" 66 (.type "property"), en P "int" 67 (.type "int"), en P "list" 68 (.type "list"), en P "map" 69 (.type "map"), en P "object" 70 (.type "object"), en P "range" 71 (.type "range"), en P "reversed" 72 (.type "reversed"), en P "set" 73 (.type "set"), en P "slice" 74 (.type "slice"), en P "staticmethod" 75 (.type "staticmethod"), en P "str" 76 (.type "str"), en P "super" 77 (.type "super"), en P "tuple" 78 (.type "tuple"), en P "type" 79 (.type "type"), en P "zip" 80 (.type "zip"), en P "__debug__" 81 (.bool true), en P "BaseException" 82 (.type "BaseException"), en P "BaseExceptionGroup" 83 (.type "BaseExceptionGroup"), en P "Exception" 84 (.type "Exception"), en P "GeneratorExit" 85 (.type "GeneratorExit"), en P "KeyboardInterrupt" 86 (.type "KeyboardInterrupt"), en P "SystemExit" 87 (.type "SystemExit"), en P "ArithmeticError" 88 (.type "ArithmeticError"), en P "AssertionError" 89 (.type "AssertionError"), en P "AttributeError" 90 (.type "AttributeError"), en P "BufferError" 91 (.type "BufferError"), en P "EOFError" 92 (.type "EOFError"), en P "ImportError" 93 (.type "ImportError"), en P "LookupError" 94 (.type "LookupError"), en P "MemoryError" 95 (.type "MemoryError"), en P "NameError" 96 (.type "NameError"), en P "OSError" 97 (.type "OSError"), en P "ReferenceError" 98 (.type "ReferenceError"), en P "RuntimeError" 99 (.type "RuntimeError"), en P "StopAsyncIteration" 100 (.type "StopAsyncIteration"), en P "StopIteration" 101 (.type "StopIteration"), en P "SyntaxError" 102 (.type "SyntaxError"), en P "SystemError" 103 (.type "SystemError"), en P "TypeError" 104 (.type "TypeError"), en P "ValueError" 105 (.type "ValueError"), en P "Warning" 106 (.type "Warning"), en P "FloatingPointError" 107 (.type "FloatingPointError"), en P "OverflowError" 108 (.type "OverflowError"), en P "ZeroDivisionError" 109 (.type "ZeroDivisionError"), en P "BytesWarning" 110 (.type "BytesWarning"), en P "DeprecationWarning" 111 (.type "DeprecationWarning"), en P "EncodingWarning" 112 (.type "EncodingWarning"), en P "FutureWarning" 113 (.type "FutureWarning"), en P "ImportWarning" 114 (.type "ImportWarning"), en P "PendingDeprecationWarning" 115 (.type "PendingDeprecationWarning"), en P "ResourceWarning" 116 (.type "ResourceWarning"), en P "RuntimeWarning" 117 (.type "RuntimeWarning"), en P "SyntaxWarning" 118 (.type "SyntaxWarning"), en P "UnicodeWarning" 119 (.type "UnicodeWarning"), en P "UserWarning" 120 (.type "UserWarning"), en P "BlockingIOError" 121 (.type "BlockingIOError"), en P "ChildProcessError" 122 (.type "ChildProcessError"), en P "ConnectionError" 123 (.type "ConnectionError"), en P "FileExistsError" 124 (.type "FileExistsError"), en P "FileNotFoundError" 125 (.type "FileNotFoundError"), en P "InterruptedError" 126 (.type "InterruptedError"), en P "IsADirectoryError" 127 (.type "IsADirectoryError"), en P "NotADirectoryError" 128 (.type "NotADirectoryError"), en P "PermissionError" 129 (.type "PermissionError"), en P "ProcessLookupError" 130 (.type "ProcessLookupError"), en P "TimeoutError" 131 (.type "TimeoutError"), en P "IndentationError" 132 (.type "IndentationError"), en P "_IncompleteInputError" 133 (.type "_IncompleteInputError"), en P "IndexError" 134 (.type "IndexError"), en P "KeyError" 135 (.type "KeyError"), en P "ModuleNotFoundError" 136 (.type "ModuleNotFoundError"), en P "NotImplementedError" 137 (.type "NotImplementedError"), en P "PythonFinalizationError" 138 (.type "PythonFinalizationError"), en P "RecursionError" 139 (.type "RecursionError"), en P "UnboundLocalError" 140 (.type "UnboundLocalError"), en P "UnicodeError" 141 (.type "UnicodeError"), en P "BrokenPipeError" 142 (.type "BrokenPipeError"), en P "ConnectionAbortedError" 143 (.type "ConnectionAbortedError"), en P "ConnectionRefusedError" 144 (.type "ConnectionRefusedError"), en P "ConnectionResetError" 145 (.type "ConnectionResetError"), en P "TabError" 146 (.type "TabError"), en P "UnicodeDecodeError" 147 (.type "UnicodeDecodeError"), en P "UnicodeEncodeError" 148 (.type "UnicodeEncodeError"), en P "UnicodeTranslateError" 149 (.type "UnicodeTranslateError"), en P "ExceptionGroup" 150 (.type "ExceptionGroup"), en P "EnvironmentError" 151 (.type "OSError"), en P "IOError" 152 (.type "OSError"), en P "open" 153 (.builtin "open"), en P "quit" 154 (.builtin "builtins.quit#opaque"), en P "exit" 155 (.builtin "builtins.exit#opaque"), en P "copyright" 156 (.builtin "builtins.copyright#opaque"), en P "credits" 157 (.builtin "builtins.credits#opaque"), en P "license" 158 (.builtin "builtins.license#opaque"), en P "help" 159 (.builtin "builtins.help#opaque")] 159)
def o1 (P : Params) : Obj := ob (.type "dict") (.dict #[en P "builtins" 162 (.ref 4), en P "__main__" 163 (.ref 5), en P "_sre" 244 (.ref 12), en P "_collections" 292 (.ref 30)] 4)
def o2 (P : Params) : Obj := ob .none (.dict #[en P "\x69mport.loaded._sre" 183 (.bool true), en P "class._frozen_importlib.BuiltinImporter" 185 (.ref 14), en P "watched.\x69mport" 206 (.ref 18), en P "class._frozen_importlib.ModuleSpec" 216 (.ref 22), en P "sys.modules.booked-epoch" 245 (.int 4 0), en P "\x69mport.later-laid._sre" 270 (.bool true), en P "watched.library" 272 (.ref 27), en P "watched.library-objects" 0 (.str "\x0c\x1e" 0), en P "watched.library-deep._sre" 273 (.str "\x04\x00\x00\x0b\x04\x00\x00\x0b\x04\x00\x00\x03\x04\x00\x00\x0b\x08\x04dict\x02" 0), en P "\x69mport.loaded._collections" 280 (.bool true), en P "sys.modules.landed._collections" 294 (.bool true), en P "\x69mport.later-laid._collections" 309 (.bool true), en P "watched.library-deep._collections" 311 (.str "\x04\x00\x00\x1d\x04\x00\x00\x1d\x04\x00\x00\x03\x04\x00\x00\x1d\x08\x04dict\x02" 0)] 13)
def o3 (P : Params) : Obj := ob (.type "dict") (.dict #[en P "__name__" 165 (.str "__main__" 164), en P "__doc__" 166 .none, en P "__package__" 167 .none, en P "__loader__" 168 (.builtin "__main__.__loader__#opaque"), en P "__spec__" 169 .none, en P "__annotations__" 170 (.ref 6), en P "__builtins__" 171 (.ref 4), en P "__file__" 173 (.str "/claim/cut.py" 172), en P "__cached__" 174 .none, en P "_sre" 275 (.ref 12), en P "deque" 317 (.type "collections.deque")] 11)
noncomputable def o4 (P : Params) : Obj := ⟨(.type "module"), (some 0), .plain, #[]⟩
noncomputable def o5 (P : Params) : Obj := ⟨(.type "module"), (some 3), .plain, #[]⟩
def o6 (P : Params) : Obj := ob (.type "dict") (.dict #[] 0)
def o7 (P : Params) : Obj := oE
def o8 (P : Params) : Obj := oZ
def o9 (P : Params) : Obj := co "<module>" "<module>" 176 177 178 1 0 0 0 0 7 false 175 8 .none .none .none .none 179 1 180
noncomputable def o10 (P : Params) : Obj := ⟨(.type "frame"), none, .plain, #[some (.ref 9), some (.ref 3), some (.ref 3), none, some (.str "__main__" 164), none, some (.ref 0)]⟩
def o11 (P : Params) : Obj := ob (.type "dict") (.dict #[en P "__name__" 247 (.str "_sre" 246), en P "__doc__" 248 .none, en P "__package__" 250 (.str "" 249), en P "__loader__" 251 (.builtin "off-the-table:_sre.__loader__:shared#opaque"), en P "__spec__" 252 (.builtin "off-the-table:_sre.__spec__:shared#opaque"), en P "compile" 253 (.builtin "_sre.compile"), en P "template" 254 (.builtin "off-the-table:_sre.template:shared#opaque"), en P "getcodesize" 255 (.builtin "off-the-table:_sre.getcodesize:shared#opaque"), en P "ascii_iscased" 256 (.builtin "off-the-table:_sre.ascii_iscased:shared#opaque"), en P "unicode_iscased" 257 (.builtin "off-the-table:_sre.unicode_iscased:shared#opaque"), en P "ascii_tolower" 258 (.builtin "off-the-table:_sre.ascii_tolower:shared#opaque"), en P "unicode_tolower" 259 (.builtin "off-the-table:_sre.unicode_tolower:shared#opaque"), en P "MAGIC" 261 (.int 20230612 260), en P "CODESIZE" 263 (.int 4 262), en P "MAXREPEAT" 265 (.int 4294967295 264), en P "MAXGROUPS" 267 (.int 1073741823 266), en P "copyright" 269 (.str " SRE 2.2.2 Copyright (c) 1997-2002 by Secret Labs AB " 268)] 17)
noncomputable def o12 : Obj := ⟨(.type "module"), (some 11), .plain, #[]⟩
def o13 (P : Params) : Obj := ob (.type "dict") (.dict #[en P "__module__" 189 (.str "_frozen_importlib" 186), en P "__firstlineno__" 190 (.int 971 187), en P "__doc__" 191 (.builtin "_frozen_importlib.BuiltinImporter.__doc__:str#opaque"), en P "_ORIGIN" 192 (.str "built-in" 188), en P "find_spec" 193 (.builtin "_frozen_importlib.BuiltinImporter.find_spec#opaque"), en P "create_module" 194 (.builtin "_frozen_importlib.BuiltinImporter.create_module#opaque"), en P "exec_module" 195 (.builtin "_frozen_importlib.BuiltinImporter.exec_module#opaque"), en P "get_code" 196 (.builtin "_frozen_importlib.BuiltinImporter.get_code#opaque"), en P "get_source" 197 (.builtin "_frozen_importlib.BuiltinImporter.get_source#opaque"), en P "is_package" 198 (.builtin "_frozen_importlib.BuiltinImporter.is_package#opaque"), en P "load_module" 199 (.builtin "_frozen_importlib.BuiltinImporter.load_module#opaque"), en P "__static_attributes__" 200 (.ref 15), en P "__dict__" 202 (.ref 16), en P "__weakref__" 204 (.ref 17)] 14)
def o14 (P : Params) : Obj := ob (.type "type") (.cls { name := "BuiltinImporter", bases := [.type "object"], mro := [.ref 14, .type "object"], ns := 13, qualname := "BuiltinImporter", hasDict := true, slotNames := [], subclasses := [], abstract := false, collection := none, hasDel := false })
def o15 : Obj := oE
def o16 (P : Params) : Obj := ob (.type "getset_descriptor") (.fields #[.str "__dict__" 201, .ref 14, .builtin "function.__dict__", .builtin "function.__dict__#set"])
def o17 (P : Params) : Obj := ob (.type "getset_descriptor") (.fields #[.str "__weakref__" 203, .ref 14, .builtin "ExceptionGroup.__weakref__", .none])
def o18 : Obj := ob .none (.seq #[(.int 13 0), (.str (Str.mk #[6, 189, 10, 95, 95, 109, 111, 100, 117, 108, 101, 95, 95, 6, 186, 17, 95, 102, 114, 111, 122, 101, 110, 95, 105, 109, 112, 111, 114, 116, 108, 105, 98, 6, 190, 15, 95, 95, 102, 105, 114, 115, 116, 108, 105, 110, 101, 110, 111, 95, 95, 4, 187, 0, 971, 6, 191, 7, 95, 95, 100, 111, 99, 95, 95, 9, 52, 95, 102, 114, 111, 122, 101, 110, 95, 105, 109, 112, 111, 114, 116, 108, 105, 98, 46, 66, 117, 105, 108, 116, 105, 110, 73, 109, 112, 111, 114, 116, 101, 114, 46, 95, 95, 100, 111, 99, 95, 95, 58, 115, 116, 114, 35, 111, 112, 97, 113, 117, 101, 6, 192, 7, 95, 79, 82, 73, 71, 73, 78, 6, 188, 8, 98, 117, 105, 108, 116, 45, 105, 110, 6, 193, 9, 102, 105, 110, 100, 95, 115, 112, 101, 99, 9, 50, 95, 102, 114, 111, 122, 101, 110, 95, 105, 109, 112, 111, 114, 116, 108, 105, 98, 46, 66, 117, 105, 108, 116, 105, 110, 73, 109, 112, 111, 114, 116, 101, 114, 46, 102, 105, 110, 100, 95, 115, 112, 101, 99, 35, 111, 112, 97, 113, 117, 101, 6, 194, 13, 99, 114, 101, 97, 116, 101, 95, 109, 111, 100, 117, 108, 101, 9, 54, 95, 102, 114, 111, 122, 101, 110, 95, 105, 109, 112, 111, 114, 116, 108, 105, 98, 46, 66, 117, 105, 108, 116, 105, 110, 73, 109, 112, 111, 114, 116, 101, 114, 46, 99, 114, 101, 97, 116, 101, 95, 109, 111, 100, 117, 108, 101, 35, 111, 112, 97, 113, 117, 101, 6, 195, 11, 101, 120, 101, 99, 95, 109, 111, 100, 117, 108, 101, 9, 52, 95, 102, 114, 111, 122, 101, 110, 95, 105, 109, 112, 111, 114, 116, 108, 105, 98, 46, 66, 117, 105, 108, 116, 105, 110, 73, 109, 112, 111, 114, 116, 101, 114, 46, 101, 120, 101, 99, 95, 109, 111, 100, 117, 108, 101, 35, 111, 112, 97, 113, 117, 101, 6, 196, 8, 103, 101, 116, 95, 99, 111, 100, 101, 9, 49, 95, 102, 114, 111, 122, 101, 110, 95, 105, 109, 112, 111, 114, 116, 108, 105, 98, 46, 66, 117, 105, 108, 116, 105, 110, 73, 109, 112, 111, 114, 116, 101, 114, 46, 103, 101, 116, 95, 99, 111, 100, 101, 35, 111, 112, 97, 113, 117, 101, 6, 197, 10, 103, 101, 116, 95, 115, 111, 117, 114, 99, 101, 9, 51, 95, 102, 114, 111, 122, 101, 110, 95, 105, 109, 112, 111, 114, 116, 108, 105, 98, 46, 66, 117, 105, 108, 116, 105, 110, 73, 109, 112, 111, 114, 116, 101, 114, 46, 103, 101, 116, 95, 115, 111, 117, 114, 99, 101, 35, 111, 112, 97, 113, 117, 101, 6, 198, 10, 105, 115, 95, 112, 97, 99, 107, 97, 103, 101, 9, 51, 95, 102, 114, 111, 122, 101, 110, 95, 105, 109, 112, 111, 114, 116, 108, 105, 98, 46, 66, 117, 105, 108, 116, 105, 110, 73, 109, 112, 111, 114, 116, 101, 114, 46, 105, 115, 95, 112, 97, 99, 107, 97, 103, 101, 35, 111, 112, 97, 113, 117, 101, 6, 199, 11, 108, 111, 97, 100, 95, 109, 111, 100, 117, 108, 101, 9, 52, 95, 102, 114, 111, 122, 101, 110, 95, 105, 109, 112, 111, 114, 116, 108, 105, 98, 46, 66, 117, 105, 108, 116, 105, 110, 73, 109, 112, 111, 114, 116, 101, 114, 46, 108, 111, 97, 100, 95, 109, 111, 100, 117, 108, 101, 35, 111, 112, 97, 113, 117, 101, 6, 200, 21, 95, 95, 115, 116, 97, 116, 105, 99, 95, 97, 116, 116, 114, 105, 98, 117, 116, 101, 115, 95, 95, 4, 0, 0, 15, 6, 202, 8, 95, 95, 100, 105, 99, 116, 95, 95, 4, 0, 0, 16, 6, 204, 11, 95, 95, 119, 101, 97, 107, 114, 101, 102, 95, 95, 4, 0, 0, 17]) 0), (.bool true), (.bool true), (.str "" 205), (.int 21 0), (.str (Str.mk #[6, 227, 10, 95, 95, 109, 111, 100, 117, 108, 101, 95, 95, 6, 217, 17, 95, 102, 114, 111, 122, 101, 110, 95, 105, 109, 112, 111, 114, 116, 108, 105, 98, 6, 228, 15, 95, 95, 102, 105, 114, 115, 116, 108, 105, 110, 101, 110, 111, 95, 95, 4, 218, 0, 562, 6, 229, 7, 95, 95, 100, 111, 99, 95, 95, 9, 47, 95, 102, 114, 111, 122, 101, 110, 95, 105, 109, 112, 111, 114, 116, 108, 105, 98, 46, 77, 111, 100, 117, 108, 101, 83, 112, 101, 99, 46, 95, 95, 100, 111, 99, 95, 95, 58, 115, 116, 114, 35, 111, 112, 97, 113, 117, 101, 6, 230, 8, 95, 95, 105, 110, 105, 116, 95, 95, 9, 44, 95, 102, 114, 111, 122, 101, 110, 95, 105, 109, 112, 111, 114, 116, 108, 105, 98, 46, 77, 111, 100, 117, 108, 101, 83, 112, 101, 99, 46, 95, 95, 105, 110, 105, 116, 95, 95, 35, 111, 112, 97, 113, 117, 101, 6, 231, 8, 95, 95, 114, 101, 112, 114, 95, 95, 9, 44, 95, 102, 114, 111, 122, 101, 110, 95, 105, 109, 112, 111, 114, 116, 108, 105, 98, 46, 77, 111, 100, 117, 108, 101, 83, 112, 101, 99, 46, 95, 95, 114, 101, 112, 114, 95, 95, 35, 111, 112, 97, 113, 117, 101, 6, 232, 6, 95, 95, 101, 113, 95, 95, 9, 42, 95, 102, 114, 111, 122, 101, 110, 95, 105, 109, 112, 111, 114, 116, 108, 105, 98, 46, 77, 111, 100, 117, 108, 101, 83, 112, 101, 99, 46, 95, 95, 101, 113, 95, 95, 35, 111, 112, 97, 113, 117, 101, 6, 233, 6, 99, 97, 99, 104, 101, 100, 9, 42, 95, 102, 114, 111, 122, 101, 110, 95, 105, 109, 112, 111, 114, 116, 108, 105, 98, 46, 77, 111, 100, 117, 108, 101, 83, 112, 101, 99, 46, 99, 97, 99, 104, 101, 100, 35, 111, 112, 97, 113, 117, 101, 6, 234, 6, 112, 97, 114, 101, 110, 116, 9, 42, 95, 102, 114, 111, 122, 101, 110, 95, 105, 109, 112, 111, 114, 116, 108, 105, 98, 46, 77, 111, 100, 117, 108, 101, 83, 112, 101, 99, 46, 112, 97, 114, 101, 110, 116, 35, 111, 112, 97, 113, 117, 101, 6, 235, 12, 104, 97, 115, 95, 108, 111, 99, 97, 116, 105, 111, 110, 9, 48, 95, 102, 114, 111, 122, 101, 110, 95, 105, 109, 112, 111, 114, 116, 108, 105, 98, 46, 77, 111, 100, 117, 108, 101, 83, 112, 101, 99, 46, 104, 97, 115, 95, 108, 111, 99, 97, 116, 105, 111, 110, 35, 111, 112, 97, 113, 117, 101, 6, 236, 21, 95, 95, 115, 116, 97, 116, 105, 99, 95, 97, 116, 116, 114, 105, 98, 117, 116, 101, 115, 95, 95, 4, 0, 0, 23, 6, 238, 8, 95, 95, 100, 105, 99, 116, 95, 95, 4, 0, 0, 24, 6, 240, 11, 95, 95, 119, 101, 97, 107, 114, 101, 102, 95, 95, 4, 0, 0, 25, 6, 241, 8, 95, 95, 104, 97, 115, 104, 95, 95, 0]) 0), (.bool true), (.bool true), (.str "" 242)] 1)
def o19 : Obj := ob (.type "list") (.seq #[] 0)
def o20 (P : Params) : Obj := ob (.type "dict") (.dict #[en P "name" 208 (.str "_sre" 207), en P "loader" 209 (.ref 14), en P "origin" 210 (.str "built-in" 184), en P "loader_state" 211 .none, en P "submodule_search_locations" 212 .none, en P "_uninitialized_submodules" 213 (.ref 19), en P "_set_fileattr" 214 (.bool false), en P "_cached" 215 .none, en P "_initializing" 243 (.bool false)] 9)
def o21 (P : Params) : Obj := ob (.type "dict") (.dict #[en P "__module__" 227 (.str "_frozen_importlib" 217), en P "__firstlineno__" 228 (.int 562 218), en P "__doc__" 229 (.builtin "_frozen_importlib.ModuleSpec.__doc__:str#opaque"), en P "__init__" 230 (.builtin "_frozen_importlib.ModuleSpec.__init__#opaque"), en P "__repr__" 231 (.builtin "_frozen_importlib.ModuleSpec.__repr__#opaque"), en P "__eq__" 232 (.builtin "_frozen_importlib.ModuleSpec.__eq__#opaque"), en P "cached" 233 (.builtin "_frozen_importlib.ModuleSpec.cached#opaque"), en P "parent" 234 (.builtin "_frozen_importlib.ModuleSpec.parent#opaque"), en P "has_location" 235 (.builtin "_frozen_importlib.ModuleSpec.has_location#opaque"), en P "__static_attributes__" 236 (.ref 23), en P "__dict__" 238 (.ref 24), en P "__weakref__" 240 (.ref 25), en P "__hash__" 241 .none] 13)
def o22 (P : Params) : Obj := ob (.type "type") (.cls { name := "ModuleSpec", bases := [.type "object"], mro := [.ref 22, .type "object"], ns := 21, qualname := "ModuleSpec", hasDict := true, slotNames := [], subclasses := [], abstract := false, collection := none, hasDel := false })
def o23 : Obj := tu #[.str "_cached" 219, .str "_set_fileattr" 220, .str "_uninitialized_submodules" 221, .str "loader" 222, .str "loader_state" 223, .str "name" 224, .str "origin" 225, .str "submodule_search_locations" 226]
def o24 (P : Params) : Obj := ob (.type "getset_descriptor") (.fields #[.str "__dict__" 237, .ref 22, .builtin "function.__dict__", .builtin "function.__dict__#set"])
def o25 (P : Params) : Obj := ob (.type "getset_descriptor") (.fields #[.str "__weakref__" 239, .ref 22, .builtin "ExceptionGroup.__weakref__", .none])
noncomputable def o26 : Obj := ⟨(.ref 22), (some 20), .plain, #[]⟩
def o27 : Obj := ob .none (.seq #[(.int 11 0), (.str (Str.mk #[6, 247, 8, 95, 95, 110, 97, 109, 101, 95, 95, 6, 246, 4, 95, 115, 114, 101, 6, 248, 7, 95, 95, 100, 111, 99, 95, 95, 0, 6, 250, 11, 95, 95, 112, 97, 99, 107, 97, 103, 101, 95, 95, 6, 249, 0, 6, 251, 10, 95, 95, 108, 111, 97, 100, 101, 114, 95, 95, 4, 0, 0, 14, 6, 252, 8, 95, 95, 115, 112, 101, 99, 95, 95, 4, 0, 0, 26, 6, 253, 7, 99, 111, 109, 112, 105, 108, 101, 9, 12, 95, 115, 114, 101, 46, 99, 111, 109, 112, 105, 108, 101, 6, 254, 8, 116, 101, 109, 112, 108, 97, 116, 101, 9, 13, 95, 115, 114, 101, 46, 116, 101, 109, 112, 108, 97, 116, 101, 6, 255, 11, 103, 101, 116, 99, 111, 100, 101, 115, 105, 122, 101, 9, 16, 95, 115, 114, 101, 46, 103, 101, 116, 99, 111, 100, 101, 115, 105, 122, 101, 6, 256, 13, 97, 115, 99, 105, 105, 95, 105, 115, 99, 97, 115, 101, 100, 9, 18, 95, 115, 114, 101, 46, 97, 115, 99, 105, 105, 95, 105, 115, 99, 97, 115, 101, 100, 6, 257, 15, 117, 110, 105, 99, 111, 100, 101, 95, 105, 115, 99, 97, 115, 101, 100, 9, 20, 95, 115, 114, 101, 46, 117, 110, 105, 99, 111, 100, 101, 95, 105, 115, 99, 97, 115, 101, 100, 6, 258, 13, 97, 115, 99, 105, 105, 95, 116, 111, 108, 111, 119, 101, 114, 9, 18, 95, 115, 114, 101, 46, 97, 115, 99, 105, 105, 95, 116, 111, 108, 111, 119, 101, 114, 6, 259, 15, 117, 110, 105, 99, 111, 100, 101, 95, 116, 111, 108, 111, 119, 101, 114, 9, 20, 95, 115, 114, 101, 46, 117, 110, 105, 99, 111, 100, 101, 95, 116, 111, 108, 111, 119, 101, 114, 6, 261, 5, 77, 65, 71, 73, 67, 4, 260, 0, 20230612, 6, 263, 8, 67, 79, 68, 69, 83, 73, 90, 69, 4, 262, 0, 4, 6, 265, 9, 77, 65, 88, 82, 69, 80, 69, 65, 84, 4, 264, 0, 4294967295, 6, 267, 9, 77, 65, 88, 71, 82, 79, 85, 80, 83, 4, 266, 0, 1073741823, 6, 269, 9, 99, 111, 112, 121, 114, 105, 103, 104, 116, 6, 268, 53, 32, 83, 82, 69, 32, 50, 46, 50, 46, 50, 32, 67, 111, 112, 121, 114, 105, 103, 104, 116, 32, 40, 99, 41, 32, 49, 57, 57, 55, 45, 50, 48, 48, 50, 32, 98, 121, 32, 83, 101, 99, 114, 101, 116, 32, 76, 97, 98, 115, 32, 65, 66, 32]) 0), (.bool true), (.bool false), (.str "_sre" 271), (.int 29 0), (.str (Str.mk #[6, 296, 8, 95, 95, 110, 97, 109, 101, 95, 95, 6, 295, 12, 95, 99, 111, 108, 108, 101, 99, 116, 105, 111, 110, 115, 6, 297, 7, 95, 95, 100, 111, 99, 95, 95, 9, 31, 95, 99, 111, 108, 108, 101, 99, 116, 105, 111, 110, 115, 46, 95, 95, 100, 111, 99, 95, 95, 58, 115, 116, 114, 35, 111, 112, 97, 113, 117, 101, 6, 299, 11, 95, 95, 112, 97, 99, 107, 97, 103, 101, 95, 95, 6, 298, 0, 6, 300, 10, 95, 95, 108, 111, 97, 100, 101, 114, 95, 95, 4, 0, 0, 14, 6, 301, 8, 95, 95, 115, 112, 101, 99, 95, 95, 4, 0, 0, 33, 6, 302, 15, 95, 99, 111, 117, 110, 116, 95, 101, 108, 101, 109, 101, 110, 116, 115, 9, 28, 95, 99, 111, 108, 108, 101, 99, 116, 105, 111, 110, 115, 46, 95, 99, 111, 117, 110, 116, 95, 101, 108, 101, 109, 101, 110, 116, 115, 6, 303, 5, 100, 101, 113, 117, 101, 8, 17, 99, 111, 108, 108, 101, 99, 116, 105, 111, 110, 115, 46, 100, 101, 113, 117, 101, 6, 304, 11, 100, 101, 102, 97, 117, 108, 116, 100, 105, 99, 116, 8, 23, 99, 111, 108, 108, 101, 99, 116, 105, 111, 110, 115, 46, 100, 101, 102, 97, 117, 108, 116, 100, 105, 99, 116, 6, 305, 15, 95, 100, 101, 113, 117, 101, 95, 105, 116, 101, 114, 97, 116, 111, 114, 8, 27, 99, 111, 108, 108, 101, 99, 116, 105, 111, 110, 115, 46, 95, 100, 101, 113, 117, 101, 95, 105, 116, 101, 114, 97, 116, 111, 114, 6, 306, 23, 95, 100, 101, 113, 117, 101, 95, 114, 101, 118, 101, 114, 115, 101, 95, 105, 116, 101, 114, 97, 116, 111, 114, 8, 35, 99, 111, 108, 108, 101, 99, 116, 105, 111, 110, 115, 46, 95, 100, 101, 113, 117, 101, 95, 114, 101, 118, 101, 114, 115, 101, 95, 105, 116, 101, 114, 97, 116, 111, 114, 6, 307, 12, 95, 116, 117, 112, 108, 101, 103, 101, 116, 116, 101, 114, 8, 24, 99, 111, 108, 108, 101, 99, 116, 105, 111, 110, 115, 46, 95, 116, 117, 112, 108, 101, 103, 101, 116, 116, 101, 114, 6, 308, 11, 79, 114, 100, 101, 114, 101, 100, 68, 105, 99, 116, 8, 23, 99, 111, 108, 108, 101, 99, 116, 105, 111, 110, 115, 46, 79, 114, 100, 101, 114, 101, 100, 68, 105, 99, 116]) 0), (.bool true), (.bool false), (.str "_collections" 310)] 1)
def o28 : Obj := tu #[.str "deque" 277]
def o29 (P : Params) : Obj := ob (.type "dict") (.dict #[en P "__name__" 296 (.str "_collections" 295), en P "__doc__" 297 (.builtin "off-the-table:_collections.__doc__:shared#opaque"), en P "__package__" 299 (.str "" 298), en P "__loader__" 300 (.builtin "off-the-table:_collections.__loader__:shared#opaque"), en P "__spec__" 301 (.builtin "off-the-table:_collections.__spec__:shared#opaque"), en P "_count_elements" 302 (.builtin "_collections._count_elements"), en P "deque" 303 (.type "collections.deque"), en P "defaultdict" 304 (.type "collections.defaultdict"), en P "_deque_iterator" 305 (.builtin "off-the-table:_collections._deque_iterator:shared#opaque"), en P "_deque_reverse_iterator" 306 (.builtin "off-the-table:_collections._deque_reverse_iterator:shared#opaque"), en P "_tuplegetter" 307 (.type "collections._tuplegetter"), en P "OrderedDict" 308 (.type "collections.OrderedDict")] 12)
noncomputable def o30 : Obj := ⟨(.type "module"), (some 29), .plain, #[]⟩
def o31 : Obj := ob (.type "list") (.seq #[] 0)
def o32 (P : Params) : Obj := ob (.type "dict") (.dict #[en P "name" 283 (.str "_collections" 282), en P "loader" 284 (.ref 14), en P "origin" 285 (.str "built-in" 281), en P "loader_state" 286 .none, en P "submodule_search_locations" 287 .none, en P "_uninitialized_submodules" 288 (.ref 31), en P "_set_fileattr" 289 (.bool false), en P "_cached" 290 .none, en P "_initializing" 291 (.bool false)] 9)
noncomputable def o33 : Obj := ⟨(.ref 22), (some 32), .plain, #[]⟩
def o34 : Obj := oE
def o35 : Obj := oZ
def o36 : Obj := co "<module>" "<module>" 319 320 321 1 0 0 0 0 34 false 318 35 .none .none .none .none 322 1 323
noncomputable def o37 : Obj := ⟨(.type "frame"), none, .plain, #[some (.ref 36), some (.ref 3), some (.ref 3), none, some (.str "__main__" 164), none, some (.ref 0)]⟩
def o2v1 (P : Params) : Obj := ob .none (.dict #[en P "\x69mport.loaded._sre" 183 (.bool true), en P "class._frozen_importlib.BuiltinImporter" 185 (.ref 14), en P "watched.\x69mport" 206 (.ref 18), en P "class._frozen_importlib.ModuleSpec" 216 (.ref 22), en P "sys.modules.booked-epoch" 245 (.int 4 0), en P "\x69mport.later-laid._sre" 270 (.bool true), en P "watched.library" 272 (.ref 27), en P "watched.library-objects" 0 (.str "\x0c\x1e" 0), en P "watched.library-deep._sre" 273 (.str "\x04\x00\x00\x0b\x04\x00\x00\x0b\x04\x00\x00\x03\x04\x00\x00\x0b\x08\x04dict\x02" 0), en P "\x69mport.loaded._collections" 280 (.bool true), en P "sys.modules.landed._collections" 294 (.bool true), en P "\x69mport.later-laid._collections" 309 (.bool true), en P "watched.library-deep._collections" 311 (.str "\x04\x00\x00\x1d\x04\x00\x00\x1d\x04\x00\x00\x03\x04\x00\x00\x1d\x08\x04dict\x02" 0), en P "type.__subclasses__.OSError.0" 418 (.int 80 0), en P "type.__subclasses__.OSError.n" 419 (.int 1 0)] 15)
def o3v1 (P : Params) : Obj := ob (.type "dict") (.dict #[en P "__name__" 165 (.str "io" 382), en P "__doc__" 166 .none, en P "__package__" 167 .none, en P "__loader__" 168 (.builtin "__main__.__loader__#opaque"), en P "__spec__" 169 .none, en P "__annotations__" 170 (.ref 6), en P "__builtins__" 171 (.ref 4), en P "__file__" 173 (.str "/claim/cut.py" 172), en P "__cached__" 174 .none, en P "_sre" 275 (.ref 12), en P "deque" 317 (.type "collections.deque"), en P "_wall" 330 (.ref 44), en P "get_line_col" 341 (.ref 51), en P "_twin_re_1" 381 (.ref 56), en P "_whence" 391 (.ref 63), en P "_index" 399 (.ref 70), en P "UnsupportedOperation" 421 (.ref 80), en P "IOBase" 453 (.ref 100)] 18)
def qWm : Obj := ob .none (.fields #[.int 3 0, .int 0 0, .ref 43, .int 7 0, .int 0 0, .ref 50, .int 12 0, .int 0 0, .ref 62, .int 17 0, .int 0 0, .ref 69, .int 24 0, .int 0 0, .ref 76, .int 26 0, .int 0 0, .ref 89])
def o38 : Obj := oE
def o39 : Obj := oZ
def o40 : Obj := tu #[.str "k" 327]
def o41 : Obj := oE
def o42 : Obj := fn "_wall" "_wall" (F1 0)
def o43 (P : Params) : Obj := co "_wall" "_wall" 324 325 326 3 1 0 0 3 38 true 318 39 .none (.ref 40) (.ref 41) (.ref 42) 328 3 329
def o44 (P : Params) : Obj := fu "_wall" "_wall" (F1 0) .none "__main__" 164 43
def o45 : Obj := oE
def o46 : Obj := oZ
def o47 : Obj := tu #[.str "index" 336, .str "line" 337, .str "col" 338]
def o48 : Obj := oE
def o49 : Obj := fn "get_line_col" "get_line_col" (F1 2)
def o50 (P : Params) : Obj := co "get_line_col" "get_line_col" 333 334 335 7 1 0 0 3 45 true 318 46 .none (.ref 47) (.ref 48) (.ref 49) 339 7 340
def o51 (P : Params) : Obj := fu "get_line_col" "get_line_col" (F1 2) .none "cpy313.idlelib.searchengine" 331 50
def o52 : Obj := ob (.type "list") (.seq #[.int 14 345, .int 17 346, .int 4 347, .int 1 348, .int 1 349, .int 21 350, .int 9 351, .int 0 352, .int 604043296 353, .int 1 354, .int 0 355, .int 0 356, .int 0 357, .int 0 358, .int 0 359, .int 8 360, .int 4 361, .int 0 362, .int 13 363, .int 14 364, .int 21 365, .int 9 366, .int 0 367, .int 604043296 368, .int 1 369, .int 0 370, .int 0 371, .int 0 372, .int 0 373, .int 0 374, .int 8 375, .int 4 376, .int 0 377, .int 1 378] 0)
def o53 : Obj := ob (.type "dict") (.dict #[] 0)
def o54 : Obj := tu #[.none]
def o55 (P : Params) : Obj := tu #[.int 14 0, .int 17 0, .int 4 0, .int 1 0, .int 1 0, .int 21 0, .int 9 0, .int 0 0, .int 604043296 0, .int 1 0, .int 0 0, .int 0 0, .int 0 0, .int 0 0, .int 0 0, .int 8 0, .int 4 0, .int 0 0, .int 13 0, .int 14 0, .int 21 0, .int 9 0, .int 0 0, .int 604043296 0, .int 1 0, .int 0 0, .int 0 0, .int 0 0, .int 0 0, .int 0 0, .int 8 0, .int 4 0, .int 0 0, .int 1 0]
def o56 (P : Params) : Obj := ob (.type "re.Pattern") (.fields #[.str "[^\\w@%+=:,./-]" 343, .int 256 380, .int 0 0, .none, .none, .ref 55, .int 0 0])
def o57 : Obj := oE
def o58 : Obj := oZ
def o59 : Obj := tu #[.str "n" 387, .str "what" 388]
def o60 : Obj := oE
def o61 : Obj := fn "_whence" "_whence" (F1 5)
def o62 (P : Params) : Obj := co "_whence" "_whence" 384 385 386 12 2 0 0 3 57 true 318 58 .none (.ref 59) (.ref 60) (.ref 61) 389 12 390
def o63 (P : Params) : Obj := fu "_whence" "_whence" (F1 5) .none "io" 382 62
def o64 : Obj := oE
def o65 : Obj := oZ
def o66 : Obj := tu #[.str "n" 395, .str "what" 396]
def o67 : Obj := oE
def o68 : Obj := fn "_index" "_index" (F1 6)
def o69 (P : Params) : Obj := co "_index" "_index" 392 393 394 17 2 0 0 3 64 true 318 65 .none (.ref 66) (.ref 67) (.ref 68) 397 17 398
def o70 (P : Params) : Obj := fu "_index" "_index" (F1 6) .none "io" 382 69
def o71 : Obj := tu #[.type "OSError", .type "ValueError"]
def o72 : Obj := ob (.type "builtin_function_or_method") (.fields #[.builtin "type.__prepare__", .type "type"])
def o73 (P : Params) : Obj := ob (.type "dict") (.dict #[en P "__module__" 407 (.str "io" 412), en P "__qualname__" 409 (.str "UnsupportedOperation" 408), en P "__firstlineno__" 411 (.int 24 410), en P "__static_attributes__" 414 (.ref 78)] 4)
def o74 : Obj := oE
def o75 : Obj := oZ
def o76 : Obj := co "UnsupportedOperation" "UnsupportedOperation" 402 403 404 24 0 0 0 0 74 false 318 75 .none .none .none .none 405 24 406
noncomputable def o77 : Obj := ⟨(.type "frame"), none, .plain, #[some (.ref 76), some (.ref 3), some (.ref 73), none, some (.str "io" 382), none, some (.ref 0)]⟩
def o78 : Obj := oE
def o79 (P : Params) : Obj := ob (.type "dict") (.dict #[en P "__module__" 407 (.str "io" 412), en P "__firstlineno__" 411 (.int 24 410), en P "__static_attributes__" 414 (.ref 78), en P "__weakref__" 416 (.ref 81), en P "__doc__" 417 .none] 3)
noncomputable def o80 : Obj := ⟨(.type "type"), none, (.cls { name := "UnsupportedOperation", bases := [.type "OSError", .type "ValueError"], mro := [.ref 80, .type "OSError", .type "ValueError", .type "Exception", .type "BaseException", .type "object"], ns := 79, qualname := "UnsupportedOperation", hasDict := true, slotNames := [], subclasses := [], abstract := false, collection := none, hasDel := false }), #[some (.ref 71), none, some (.str "UnsupportedOperation" 400), some (.str "UnsupportedOperation" 408), some (.builtin "OSError.__new__"), some (.bool true)]⟩
def o81 : Obj := ob (.type "getset_descriptor") (.fields #[.str "__weakref__" 415, .ref 80, .builtin "ExceptionGroup.__weakref__", .none])
def o82 : Obj := ob (.type "super") (.fields #[.ref 80, .ref 80, .ref 80])
def o83 : Obj := ob (.type "builtin_function_or_method") (.fields #[.builtin "object.__init_subclass__", .ref 80])
def o84 : Obj := oE
def o85 : Obj := ob (.type "builtin_function_or_method") (.fields #[.builtin "type.__prepare__", .type "type"])
def o86 (P : Params) : Obj := ob (.type "dict") (.dict #[en P "__module__" 429 (.str "io" 434), en P "__qualname__" 431 (.str "IOBase" 430), en P "__firstlineno__" 433 (.int 26 432), en P "__new__" 444 (.ref 97), en P "__static_attributes__" 445 (.ref 98)] 5)
def o87 : Obj := oE
def o88 : Obj := ob .none (.fields #[.int 29 0, .int 4 0, .ref 96])
def o89 : Obj := co "IOBase" "IOBase" 424 425 426 26 0 0 0 0 87 false 318 88 .none .none .none .none 427 26 428
noncomputable def o90 : Obj := ⟨(.type "frame"), none, .plain, #[some (.ref 89), some (.ref 3), some (.ref 86), none, some (.str "io" 382), none, some (.ref 0)]⟩
def o91 : Obj := oE
def o92 : Obj := oZ
def o93 : Obj := tu #[.str "cls" 439, .str "args" 440, .str "kwargs" 441]
def o94 : Obj := oE
def o95 : Obj := fn "__new__" "IOBase.__new__" (F2 8 1)
def o96 (P : Params) : Obj := co "__new__" "IOBase.__new__" 436 437 438 29 1 1 0 15 91 true 318 92 .none (.ref 93) (.ref 94) (.ref 95) 442 29 443
def o97 (P : Params) : Obj := fu "__new__" "IOBase.__new__" (F2 8 1) .none "io" 382 96
def o98 : Obj := oE
def o99 (P : Params) : Obj := ob (.type "dict") (.dict #[en P "__module__" 429 (.str "io" 434), en P "__firstlineno__" 433 (.int 26 432), en P "__new__" 444 (.ref 101), en P "__static_attributes__" 445 (.ref 98), en P "__dict__" 448 (.ref 102), en P "__weakref__" 450 (.ref 103), en P "__doc__" 451 .none] 4)
noncomputable def o100 : Obj := ⟨(.type "type"), none, (.cls { name := "IOBase", bases := [.type "object"], mro := [.ref 100, .type "object"], ns := 99, qualname := "IOBase", hasDict := true, slotNames := [], subclasses := [], abstract := false, collection := none, hasDel := false }), #[none, none, some (.str "IOBase" 422), some (.str "IOBase" 430), some .none, some (.bool true)]⟩
def o101 (P : Params) : Obj := ob (.type "staticmethod") (.fields #[.ref 97])
def o102 (P : Params) : Obj := ob (.type "getset_descriptor") (.fields #[.str "__dict__" 447, .ref 100, .builtin "function.__dict__", .builtin "function.__dict__#set"])
def o103 (P : Params) : Obj := ob (.type "getset_descriptor") (.fields #[.str "__weakref__" 449, .ref 100, .builtin "ExceptionGroup.__weakref__", .none])
def o104 : Obj := ob (.type "super") (.fields #[.ref 100, .ref 100, .ref 100])
def o105 : Obj := ob (.type "builtin_function_or_method") (.fields #[.builtin "object.__init_subclass__", .ref 100])
def o3v2 (P : Params) : Obj := ob (.type "dict") (.dict #[en P "__name__" 165 (.str "io" 382), en P "__doc__" 166 .none, en P "__package__" 167 .none, en P "__loader__" 168 (.builtin "__main__.__loader__#opaque"), en P "__spec__" 169 .none, en P "__annotations__" 170 (.ref 6), en P "__builtins__" 171 (.ref 4), en P "__file__" 173 (.str "/claim/cut.py" 172), en P "__cached__" 174 .none, en P "_sre" 275 (.ref 12), en P "deque" 317 (.type "collections.deque"), en P "_wall" 330 (.ref 44), en P "get_line_col" 341 (.ref 51), en P "_twin_re_1" 381 (.ref 56), en P "_whence" 391 (.ref 63), en P "_index" 399 (.ref 70), en P "UnsupportedOperation" 421 (.ref 80), en P "IOBase" 453 (.ref 100), en P "BufferedIOBase" 471 (.ref 115), en P "TextIOBase" 489 (.ref 127)] 20)
def qWl : Obj := ob .none (.fields #[.int 3 0, .int 0 0, .ref 43, .int 7 0, .int 0 0, .ref 50, .int 12 0, .int 0 0, .ref 62, .int 17 0, .int 0 0, .ref 69, .int 24 0, .int 0 0, .ref 76, .int 26 0, .int 0 0, .ref 89, .int 33 0, .int 0 0, .ref 111, .int 35 0, .int 0 0, .ref 123])
noncomputable def qQN (P : Params) : Obj := ⟨(.type "type"), none, (.cls { name := "IOBase", bases := [.type "object"], mro := [.ref 100, .type "object"], ns := 99, qualname := "IOBase", hasDict := true, slotNames := [], subclasses := [.ref 115, .ref 127], abstract := false, collection := none, hasDel := false }), #[none, none, some (.str "IOBase" 422), some (.str "IOBase" 430), some .none, some (.bool true)]⟩
def o106 : Obj := tu #[.ref 100]
def o107 : Obj := ob (.type "builtin_function_or_method") (.fields #[.builtin "type.__prepare__", .type "type"])
def o108 (P : Params) : Obj := ob (.type "dict") (.dict #[en P "__module__" 461 (.str "io" 466), en P "__qualname__" 463 (.str "BufferedIOBase" 462), en P "__firstlineno__" 465 (.int 33 464), en P "__static_attributes__" 468 (.ref 113)] 4)
def o109 : Obj := oE
def o110 : Obj := oZ
def o111 : Obj := co "BufferedIOBase" "BufferedIOBase" 456 457 458 33 0 0 0 0 109 false 318 110 .none .none .none .none 459 33 460
noncomputable def o112 : Obj := ⟨(.type "frame"), none, .plain, #[some (.ref 111), some (.ref 3), some (.ref 108), none, some (.str "io" 382), none, some (.ref 0)]⟩
def o113 : Obj := oE
def o114 (P : Params) : Obj := ob (.type "dict") (.dict #[en P "__module__" 461 (.str "io" 466), en P "__firstlineno__" 465 (.int 33 464), en P "__static_attributes__" 468 (.ref 113), en P "__doc__" 469 .none] 2)
noncomputable def o115 : Obj := ⟨(.type "type"), none, (.cls { name := "BufferedIOBase", bases := [.ref 100], mro := [.ref 115, .ref 100, .type "object"], ns := 114, qualname := "BufferedIOBase", hasDict := true, slotNames := [], subclasses := [], abstract := false, collection := none, hasDel := false }), #[some (.ref 106), none, some (.str "BufferedIOBase" 454), some (.str "BufferedIOBase" 462), some .none, some (.bool true)]⟩
def o116 : Obj := ob (.type "super") (.fields #[.ref 115, .ref 115, .ref 115])
def o117 : Obj := ob (.type "builtin_function_or_method") (.fields #[.builtin "object.__init_subclass__", .ref 115])
def o118 : Obj := tu #[.ref 100]
def o119 : Obj := ob (.type "builtin_function_or_method") (.fields #[.builtin "type.__prepare__", .type "type"])
def o120 (P : Params) : Obj := ob (.type "dict") (.dict #[en P "__module__" 479 (.str "io" 484), en P "__qualname__" 481 (.str "TextIOBase" 480), en P "__firstlineno__" 483 (.int 35 482), en P "__static_attributes__" 486 (.ref 125)] 4)
def o121 : Obj := oE
def o122 : Obj := oZ
def o123 : Obj := co "TextIOBase" "TextIOBase" 474 475 476 35 0 0 0 0 121 false 318 122 .none .none .none .none 477 35 478
noncomputable def o124 : Obj := ⟨(.type "frame"), none, .plain, #[some (.ref 123), some (.ref 3), some (.ref 120), none, some (.str "io" 382), none, some (.ref 0)]⟩
def o125 : Obj := oE
def o126 (P : Params) : Obj := ob (.type "dict") (.dict #[en P "__module__" 479 (.str "io" 484), en P "__firstlineno__" 483 (.int 35 482), en P "__static_attributes__" 486 (.ref 125), en P "__doc__" 487 .none] 2)
noncomputable def o127 : Obj := ⟨(.type "type"), none, (.cls { name := "TextIOBase", bases := [.ref 100], mro := [.ref 127, .ref 100, .type "object"], ns := 126, qualname := "TextIOBase", hasDict := true, slotNames := [], subclasses := [], abstract := false, collection := none, hasDel := false }), #[some (.ref 118), none, some (.str "TextIOBase" 472), some (.str "TextIOBase" 480), some .none, some (.bool true)]⟩
def o128 : Obj := ob (.type "super") (.fields #[.ref 127, .ref 127, .ref 127])
def o129 : Obj := ob (.type "builtin_function_or_method") (.fields #[.builtin "object.__init_subclass__", .ref 127])
def o3v3 (P : Params) : Obj := ob (.type "dict") (.dict #[en P "__name__" 165 (.str "io" 382), en P "__doc__" 166 .none, en P "__package__" 167 .none, en P "__loader__" 168 (.builtin "__main__.__loader__#opaque"), en P "__spec__" 169 .none, en P "__annotations__" 170 (.ref 6), en P "__builtins__" 171 (.ref 4), en P "__file__" 173 (.str "/claim/cut.py" 172), en P "__cached__" 174 .none, en P "_sre" 275 (.ref 12), en P "deque" 317 (.type "collections.deque"), en P "_wall" 330 (.ref 44), en P "get_line_col" 341 (.ref 51), en P "_twin_re_1" 381 (.ref 56), en P "_whence" 391 (.ref 63), en P "_index" 399 (.ref 70), en P "UnsupportedOperation" 421 (.ref 80), en P "IOBase" 453 (.ref 100), en P "BufferedIOBase" 471 (.ref 115), en P "TextIOBase" 489 (.ref 127), en P "BytesIO" 751 (.ref 357)] 21)
def qWk : Obj := ob .none (.fields #[.int 3 0, .int 0 0, .ref 43, .int 7 0, .int 0 0, .ref 50, .int 12 0, .int 0 0, .ref 62, .int 17 0, .int 0 0, .ref 69, .int 24 0, .int 0 0, .ref 76, .int 26 0, .int 0 0, .ref 89, .int 33 0, .int 0 0, .ref 111, .int 35 0, .int 0 0, .ref 123, .int 37 0, .int 0 0, .ref 135])
noncomputable def qUv : Obj := ⟨(.type "type"), none, (.cls { name := "BufferedIOBase", bases := [.ref 100], mro := [.ref 115, .ref 100, .type "object"], ns := 114, qualname := "BufferedIOBase", hasDict := true, slotNames := [], subclasses := [.ref 357], abstract := false, collection := none, hasDel := false }), #[some (.ref 106), none, some (.str "BufferedIOBase" 454), some (.str "BufferedIOBase" 462), some .none, some (.bool true)]⟩
def o130 : Obj := tu #[.ref 115]
def o131 : Obj := ob (.type "builtin_function_or_method") (.fields #[.builtin "type.__prepare__", .type "type"])
def o132 (P : Params) : Obj := ob (.type "dict") (.dict #[en P "__module__" 497 (.str "_io" 502), en P "__qualname__" 499 (.str "BytesIO" 498), en P "__firstlineno__" 501 (.int 37 500), en P "__init__" 511 (.ref 144), en P "_BytesIO__check" 518 (.ref 151), en P "_BytesIO__line" 529 (.ref 158), en P "closed" 537 (.ref 166), en P "close" 544 (.ref 173), en P "__enter__" 551 (.ref 180), en P "__exit__" 559 (.ref 187), en P "readable" 566 (.ref 194), en P "writable" 573 (.ref 201), en P "seekable" 580 (.ref 208), en P "isatty" 587 (.ref 215), en P "flush" 594 (.ref 222), en P "fileno" 601 (.ref 229), en P "detach" 608 (.ref 236), en P "getvalue" 615 (.ref 243), en P "getbuffer" 622 (.ref 250), en P "tell" 629 (.ref 257), en P "seek" 639 (.ref 265), en P "truncate" 647 (.ref 273), en P "read" 659 (.ref 281), en P "read1" 669 (.ref 289), en P "readinto" 679 (.ref 296), en P "readinto1" 687 (.ref 303), en P "readline" 697 (.ref 311), en P "readlines" 705 (.ref 319), en P "__iter__" 712 (.ref 326), en P "__next__" 720 (.ref 333), en P "write" 730 (.ref 340), en P "writelines" 738 (.ref 347), en P "__repr__" 745 (.ref 354), en P "__static_attributes__" 748 (.ref 355)] 34)
def o133 : Obj := oE
def o134 : Obj := ob .none (.fields #[.int 40 0, .int 4 0, .ref 143, .int 46 0, .int 4 0, .ref 150, .int 50 0, .int 4 0, .ref 157, .int 64 0, .int 4 0, .ref 164, .int 67 0, .int 4 0, .ref 172, .int 70 0, .int 4 0, .ref 179, .int 74 0, .int 4 0, .ref 186, .int 77 0, .int 4 0, .ref 193, .int 81 0, .int 4 0, .ref 200, .int 85 0, .int 4 0, .ref 207, .int 89 0, .int 4 0, .ref 214, .int 93 0, .int 4 0, .ref 221, .int 96 0, .int 4 0, .ref 228, .int 99 0, .int 4 0, .ref 235, .int 102 0, .int 4 0, .ref 242, .int 105 0, .int 4 0, .ref 249, .int 108 0, .int 4 0, .ref 256, .int 112 0, .int 4 0, .ref 264, .int 129 0, .int 4 0, .ref 272, .int 132 0, .int 4 0, .ref 280, .int 146 0, .int 4 0, .ref 288, .int 149 0, .int 4 0, .ref 295, .int 163 0, .int 4 0, .ref 302, .int 166 0, .int 4 0, .ref 310, .int 173 0, .int 4 0, .ref 318, .int 176 0, .int 4 0, .ref 325, .int 179 0, .int 4 0, .ref 332, .int 186 0, .int 4 0, .ref 339, .int 202 0, .int 4 0, .ref 346, .int 205 0, .int 4 0, .ref 353])
def o135 : Obj := co "BytesIO" "BytesIO" 492 493 494 37 0 0 0 0 133 false 318 134 .none .none .none .none 495 37 496
noncomputable def o136 : Obj := ⟨(.type "frame"), none, .plain, #[some (.ref 135), some (.ref 3), some (.ref 132), none, some (.str "io" 382), none, some (.ref 0)]⟩
def o137 : Obj := tu #[.none]
def o138 : Obj := oE
def o139 : Obj := oZ
def o140 : Obj := tu #[.str "self" 507, .str "initial_bytes" 508]
def o141 : Obj := oE
def o142 : Obj := fn "__init__" "BytesIO.__init__" (F2 11 1)
def o143 : Obj := co "__init__" "BytesIO.__init__" 504 505 506 40 2 0 0 3 138 true 318 139 .none (.ref 140) (.ref 141) (.ref 142) 509 40 510
def o144 : Obj := fu "__init__" "BytesIO.__init__" (F2 11 1) (.ref 137) "io" 382 143
def o145 : Obj := oE
def o146 : Obj := oZ
def o147 : Obj := tu #[.str "self" 515]
def o148 : Obj := oE
def o149 : Obj := fn "__check" "BytesIO.__check" (F2 11 2)
def o150 : Obj := co "__check" "BytesIO.__check" 512 513 514 46 1 0 0 3 145 true 318 146 .none (.ref 147) (.ref 148) (.ref 149) 516 46 517
def o151 : Obj := fu "__check" "BytesIO.__check" (F2 11 2) .none "io" 382 150
def o152 : Obj := oE
def o153 : Obj := oZ
def o154 : Obj := tu #[.str "self" 522, .str "limit" 523, .str "start" 524, .str "stop" 525, .str "i" 526]
def o155 : Obj := oE
def o156 : Obj := fn "__line" "BytesIO.__line" (F2 11 3)
def o157 : Obj := co "__line" "BytesIO.__line" 519 520 521 50 2 0 0 3 152 true 318 153 .none (.ref 154) (.ref 155) (.ref 156) 527 50 528
def o158 : Obj := fu "__line" "BytesIO.__line" (F2 11 3) .none "io" 382 157
def o159 : Obj := oE
def o160 : Obj := oZ
def o161 : Obj := tu #[.str "self" 533]
def o162 : Obj := oE
def o163 : Obj := fn "closed" "BytesIO.closed" (F2 11 4)
def o164 : Obj := co "closed" "BytesIO.closed" 530 531 532 63 1 0 0 3 159 true 318 160 .none (.ref 161) (.ref 162) (.ref 163) 534 63 535
def o165 : Obj := fu "closed" "BytesIO.closed" (F2 11 4) .none "io" 382 164
def o166 : Obj := ob (.type "property") (.fields #[.ref 165, .none, .none, .none, .str "closed" 537, .bool false])
def o167 : Obj := oE
def o168 : Obj := oZ
def o169 : Obj := tu #[.str "self" 541]
def o170 : Obj := oE
def o171 : Obj := fn "close" "BytesIO.close" (F2 11 5)
def o172 : Obj := co "close" "BytesIO.close" 538 539 540 67 1 0 0 3 167 true 318 168 .none (.ref 169) (.ref 170) (.ref 171) 542 67 543
def o173 : Obj := fu "close" "BytesIO.close" (F2 11 5) .none "io" 382 172
def o174 : Obj := oE
def o175 : Obj := oZ
def o176 : Obj := tu #[.str "self" 548]
def o177 : Obj := oE
def o178 : Obj := fn "__enter__" "BytesIO.__enter__" (F2 11 6)
def o179 : Obj := co "__enter__" "BytesIO.__enter__" 545 546 547 70 1 0 0 3 174 true 318 175 .none (.ref 176) (.ref 177) (.ref 178) 549 70 550
def o180 : Obj := fu "__enter__" "BytesIO.__enter__" (F2 11 6) .none "io" 382 179
def o181 : Obj := oE
def o182 : Obj := oZ
def o183 : Obj := tu #[.str "self" 555, .str "args" 556]
def o184 : Obj := oE
def o185 : Obj := fn "__exit__" "BytesIO.__exit__" (F2 11 7)
def o186 : Obj := co "__exit__" "BytesIO.__exit__" 552 553 554 74 1 0 0 7 181 true 318 182 .none (.ref 183) (.ref 184) (.ref 185) 557 74 558
def o187 : Obj := fu "__exit__" "BytesIO.__exit__" (F2 11 7) .none "io" 382 186
def o188 : Obj := oE
def o189 : Obj := oZ
def o190 : Obj := tu #[.str "self" 563]
def o191 : Obj := oE
def o192 : Obj := fn "readable" "BytesIO.readable" (F2 11 8)
def o193 : Obj := co "readable" "BytesIO.readable" 560 561 562 77 1 0 0 3 188 true 318 189 .none (.ref 190) (.ref 191) (.ref 192) 564 77 565
def o194 : Obj := fu "readable" "BytesIO.readable" (F2 11 8) .none "io" 382 193
def o195 : Obj := oE
def o196 : Obj := oZ
def o197 : Obj := tu #[.str "self" 570]
def o198 : Obj := oE
def o199 : Obj := fn "writable" "BytesIO.writable" (F2 11 9)
def o200 : Obj := co "writable" "BytesIO.writable" 567 568 569 81 1 0 0 3 195 true 318 196 .none (.ref 197) (.ref 198) (.ref 199) 571 81 572
def o201 : Obj := fu "writable" "BytesIO.writable" (F2 11 9) .none "io" 382 200
def o202 : Obj := oE
def o203 : Obj := oZ
def o204 : Obj := tu #[.str "self" 577]
def o205 : Obj := oE
def o206 : Obj := fn "seekable" "BytesIO.seekable" (F2 11 10)
def o207 : Obj := co "seekable" "BytesIO.seekable" 574 575 576 85 1 0 0 3 202 true 318 203 .none (.ref 204) (.ref 205) (.ref 206) 578 85 579
def o208 : Obj := fu "seekable" "BytesIO.seekable" (F2 11 10) .none "io" 382 207
def o209 : Obj := oE
def o210 : Obj := oZ
def o211 : Obj := tu #[.str "self" 584]
def o212 : Obj := oE
def o213 : Obj := fn "isatty" "BytesIO.isatty" (F2 11 11)
def o214 : Obj := co "isatty" "BytesIO.isatty" 581 582 583 89 1 0 0 3 209 true 318 210 .none (.ref 211) (.ref 212) (.ref 213) 585 89 586
def o215 : Obj := fu "isatty" "BytesIO.isatty" (F2 11 11) .none "io" 382 214
def o216 : Obj := oE
def o217 : Obj := oZ
def o218 : Obj := tu #[.str "self" 591]
def o219 : Obj := oE
def o220 : Obj := fn "flush" "BytesIO.flush" (F2 11 12)
def o221 : Obj := co "flush" "BytesIO.flush" 588 589 590 93 1 0 0 3 216 true 318 217 .none (.ref 218) (.ref 219) (.ref 220) 592 93 593
def o222 : Obj := fu "flush" "BytesIO.flush" (F2 11 12) .none "io" 382 221
def o223 : Obj := oE
def o224 : Obj := oZ
def o225 : Obj := tu #[.str "self" 598]
def o226 : Obj := oE
def o227 : Obj := fn "fileno" "BytesIO.fileno" (F2 11 13)
def o228 : Obj := co "fileno" "BytesIO.fileno" 595 596 597 96 1 0 0 3 223 true 318 224 .none (.ref 225) (.ref 226) (.ref 227) 599 96 600
def o229 : Obj := fu "fileno" "BytesIO.fileno" (F2 11 13) .none "io" 382 228
def o230 : Obj := oE
def o231 : Obj := oZ
def o232 : Obj := tu #[.str "self" 605]
def o233 : Obj := oE
def o234 : Obj := fn "detach" "BytesIO.detach" (F2 11 14)
def o235 : Obj := co "detach" "BytesIO.detach" 602 603 604 99 1 0 0 3 230 true 318 231 .none (.ref 232) (.ref 233) (.ref 234) 606 99 607
def o236 : Obj := fu "detach" "BytesIO.detach" (F2 11 14) .none "io" 382 235
def o237 : Obj := oE
def o238 : Obj := oZ
def o239 : Obj := tu #[.str "self" 612]
def o240 : Obj := oE
def o241 : Obj := fn "getvalue" "BytesIO.getvalue" (F2 11 15)
def o242 : Obj := co "getvalue" "BytesIO.getvalue" 609 610 611 102 1 0 0 3 237 true 318 238 .none (.ref 239) (.ref 240) (.ref 241) 613 102 614
def o243 : Obj := fu "getvalue" "BytesIO.getvalue" (F2 11 15) .none "io" 382 242
def o244 : Obj := oE
def o245 : Obj := oZ
def o246 : Obj := tu #[.str "self" 619]
def o247 : Obj := oE
def o248 : Obj := fn "getbuffer" "BytesIO.getbuffer" (F2 11 16)
def o249 : Obj := co "getbuffer" "BytesIO.getbuffer" 616 617 618 105 1 0 0 3 244 true 318 245 .none (.ref 246) (.ref 247) (.ref 248) 620 105 621
def o250 : Obj := fu "getbuffer" "BytesIO.getbuffer" (F2 11 16) .none "io" 382 249
def o251 : Obj := oE
def o252 : Obj := oZ
def o253 : Obj := tu #[.str "self" 626]
def o254 : Obj := oE
def o255 : Obj := fn "tell" "BytesIO.tell" (F2 11 17)
def o256 : Obj := co "tell" "BytesIO.tell" 623 624 625 108 1 0 0 3 251 true 318 252 .none (.ref 253) (.ref 254) (.ref 255) 627 108 628
def o257 : Obj := fu "tell" "BytesIO.tell" (F2 11 17) .none "io" 382 256
def o258 : Obj := tu #[.int 0 630]
def o259 : Obj := oE
def o260 : Obj := oZ
def o261 : Obj := tu #[.str "self" 634, .str "pos" 635, .str "whence" 636]
def o262 : Obj := oE
def o263 : Obj := fn "seek" "BytesIO.seek" (F2 11 18)
def o264 : Obj := co "seek" "BytesIO.seek" 631 632 633 112 3 3 0 3 259 true 318 260 .none (.ref 261) (.ref 262) (.ref 263) 637 112 638
def o265 : Obj := fu "seek" "BytesIO.seek" (F2 11 18) (.ref 258) "io" 382 264
def o266 : Obj := tu #[.none]
def o267 : Obj := oE
def o268 : Obj := oZ
def o269 : Obj := tu #[.str "self" 643, .str "size" 644]
def o270 : Obj := oE
def o271 : Obj := fn "truncate" "BytesIO.truncate" (F2 11 19)
def o272 : Obj := co "truncate" "BytesIO.truncate" 640 641 642 129 2 2 0 3 267 true 318 268 .none (.ref 269) (.ref 270) (.ref 271) 645 129 646
def o273 : Obj := fu "truncate" "BytesIO.truncate" (F2 11 19) (.ref 266) "io" 382 272
def o274 : Obj := tu #[.int (-1) 649]
def o275 : Obj := oE
def o276 : Obj := oZ
def o277 : Obj := tu #[.str "self" 653, .str "size" 654, .str "start" 655, .str "stop" 656]
def o278 : Obj := oE
def o279 : Obj := fn "read" "BytesIO.read" (F2 11 20)
def o280 : Obj := co "read" "BytesIO.read" 650 651 652 132 2 2 0 3 275 true 318 276 .none (.ref 277) (.ref 278) (.ref 279) 657 132 658
def o281 : Obj := fu "read" "BytesIO.read" (F2 11 20) (.ref 274) "io" 382 280
def o282 : Obj := tu #[.int (-1) 661]
def o283 : Obj := oE
def o284 : Obj := oZ
def o285 : Obj := tu #[.str "self" 665, .str "size" 666]
def o286 : Obj := oE
def o287 : Obj := fn "read1" "BytesIO.read1" (F2 11 21)
def o288 : Obj := co "read1" "BytesIO.read1" 662 663 664 146 2 2 0 3 283 true 318 284 .none (.ref 285) (.ref 286) (.ref 287) 667 146 668
def o289 : Obj := fu "read1" "BytesIO.read1" (F2 11 21) (.ref 282) "io" 382 288
def o290 : Obj := oE
def o291 : Obj := oZ
def o292 : Obj := tu #[.str "self" 673, .str "buffer" 674, .str "start" 675, .str "n" 676]
def o293 : Obj := oE
def o294 : Obj := fn "readinto" "BytesIO.readinto" (F2 11 22)
def o295 : Obj := co "readinto" "BytesIO.readinto" 670 671 672 149 2 2 0 3 290 true 318 291 .none (.ref 292) (.ref 293) (.ref 294) 677 149 678
def o296 : Obj := fu "readinto" "BytesIO.readinto" (F2 11 22) .none "io" 382 295
def o297 : Obj := oE
def o298 : Obj := oZ
def o299 : Obj := tu #[.str "self" 683, .str "buffer" 684]
def o300 : Obj := oE
def o301 : Obj := fn "readinto1" "BytesIO.readinto1" (F2 11 23)
def o302 : Obj := co "readinto1" "BytesIO.readinto1" 680 681 682 163 2 2 0 3 297 true 318 298 .none (.ref 299) (.ref 300) (.ref 301) 685 163 686
def o303 : Obj := fu "readinto1" "BytesIO.readinto1" (F2 11 23) .none "io" 382 302
def o304 : Obj := tu #[.int (-1) 689]
def o305 : Obj := oE
def o306 : Obj := oZ
def o307 : Obj := tu #[.str "self" 693, .str "size" 694]
def o308 : Obj := oE
def o309 : Obj := fn "readline" "BytesIO.readline" (F2 11 24)
def o310 : Obj := co "readline" "BytesIO.readline" 690 691 692 166 2 2 0 3 305 true 318 306 .none (.ref 307) (.ref 308) (.ref 309) 695 166 696
def o311 : Obj := fu "readline" "BytesIO.readline" (F2 11 24) (.ref 304) "io" 382 310
def o312 : Obj := tu #[.none]
def o313 : Obj := oE
def o314 : Obj := oZ
def o315 : Obj := tu #[.str "self" 701, .str "size" 702]
def o316 : Obj := oE
def o317 : Obj := fn "readlines" "BytesIO.readlines" (F2 11 25)
def o318 : Obj := co "readlines" "BytesIO.readlines" 698 699 700 173 2 2 0 3 313 true 318 314 .none (.ref 315) (.ref 316) (.ref 317) 703 173 704
def o319 : Obj := fu "readlines" "BytesIO.readlines" (F2 11 25) (.ref 312) "io" 382 318
def o320 : Obj := oE
def o321 : Obj := oZ
def o322 : Obj := tu #[.str "self" 709]
def o323 : Obj := oE
def o324 : Obj := fn "__iter__" "BytesIO.__iter__" (F2 11 26)
def o325 : Obj := co "__iter__" "BytesIO.__iter__" 706 707 708 176 1 0 0 3 320 true 318 321 .none (.ref 322) (.ref 323) (.ref 324) 710 176 711
def o326 : Obj := fu "__iter__" "BytesIO.__iter__" (F2 11 26) .none "io" 382 325
def o327 : Obj := oE
def o328 : Obj := oZ
def o329 : Obj := tu #[.str "self" 716, .str "line" 717]
def o330 : Obj := oE
def o331 : Obj := fn "__next__" "BytesIO.__next__" (F2 11 27)
def o332 : Obj := co "__next__" "BytesIO.__next__" 713 714 715 179 1 0 0 3 327 true 318 328 .none (.ref 329) (.ref 330) (.ref 331) 718 179 719
def o333 : Obj := fu "__next__" "BytesIO.__next__" (F2 11 27) .none "io" 382 332
def o334 : Obj := oE
def o335 : Obj := oZ
def o336 : Obj := tu #[.str "self" 724, .str "b" 725, .str "n" 726, .str "start" 727]
def o337 : Obj := oE
def o338 : Obj := fn "write" "BytesIO.write" (F2 11 28)
def o339 : Obj := co "write" "BytesIO.write" 721 722 723 186 2 2 0 3 334 true 318 335 .none (.ref 336) (.ref 337) (.ref 338) 728 186 729
def o340 : Obj := fu "write" "BytesIO.write" (F2 11 28) .none "io" 382 339
def o341 : Obj := oE
def o342 : Obj := oZ
def o343 : Obj := tu #[.str "self" 734, .str "lines" 735]
def o344 : Obj := oE
def o345 : Obj := fn "writelines" "BytesIO.writelines" (F2 11 29)
def o346 : Obj := co "writelines" "BytesIO.writelines" 731 732 733 202 2 2 0 3 341 true 318 342 .none (.ref 343) (.ref 344) (.ref 345) 736 202 737
def o347 : Obj := fu "writelines" "BytesIO.writelines" (F2 11 29) .none "io" 382 346
def o348 : Obj := oE
def o349 : Obj := oZ
def o350 : Obj := tu #[.str "self" 742]
def o351 : Obj := oE
def o352 : Obj := fn "__repr__" "BytesIO.__repr__" (F2 11 30)
def o353 : Obj := co "__repr__" "BytesIO.__repr__" 739 740 741 205 1 0 0 3 348 true 318 349 .none (.ref 350) (.ref 351) (.ref 352) 743 205 744
def o354 : Obj := fu "__repr__" "BytesIO.__repr__" (F2 11 30) .none "io" 382 353
def o355 : Obj := tu #[.str "__buf" 746, .str "__pos" 747]
def o356 (P : Params) : Obj := ob (.type "dict") (.dict #[en P "__module__" 497 (.str "_io" 502), en P "__firstlineno__" 501 (.int 37 500), en P "__init__" 511 (.ref 144), en P "_BytesIO__check" 518 (.ref 151), en P "_BytesIO__line" 529 (.ref 158), en P "closed" 537 (.ref 166), en P "close" 544 (.ref 173), en P "__enter__" 551 (.ref 180), en P "__exit__" 559 (.ref 187), en P "readable" 566 (.ref 194), en P "writable" 573 (.ref 201), en P "seekable" 580 (.ref 208), en P "isatty" 587 (.ref 215), en P "flush" 594 (.ref 222), en P "fileno" 601 (.ref 229), en P "detach" 608 (.ref 236), en P "getvalue" 615 (.ref 243), en P "getbuffer" 622 (.ref 250), en P "tell" 629 (.ref 257), en P "seek" 639 (.ref 265), en P "truncate" 647 (.ref 273), en P "read" 659 (.ref 281), en P "read1" 669 (.ref 289), en P "readinto" 679 (.ref 296), en P "readinto1" 687 (.ref 303), en P "readline" 697 (.ref 311), en P "readlines" 705 (.ref 319), en P "__iter__" 712 (.ref 326), en P "__next__" 720 (.ref 333), en P "write" 730 (.ref 340), en P "writelines" 738 (.ref 347), en P "__repr__" 745 (.ref 354), en P "__static_attributes__" 748 (.ref 355), en P "__doc__" 749 .none] 2)
noncomputable def o357 : Obj := ⟨(.type "type"), none, (.cls { name := "BytesIO", bases := [.ref 115], mro := [.ref 357, .ref 115, .ref 100, .type "object"], ns := 356, qualname := "BytesIO", hasDict := true, slotNames := [], subclasses := [], abstract := false, collection := none, hasDel := false }), #[some (.ref 130), none, some (.str "BytesIO" 490), some (.str "BytesIO" 498), some .none, some (.bool true)]⟩
def o358 : Obj := ob (.type "super") (.fields #[.ref 357, .ref 357, .ref 357])
def o359 : Obj := ob (.type "builtin_function_or_method") (.fields #[.builtin "object.__init_subclass__", .ref 357])
def o3v4 (P : Params) : Obj := ob (.type "dict") (.dict #[en P "__name__" 165 (.str "io" 382), en P "__doc__" 166 .none, en P "__package__" 167 .none, en P "__loader__" 168 (.builtin "__main__.__loader__#opaque"), en P "__spec__" 169 .none, en P "__annotations__" 170 (.ref 6), en P "__builtins__" 171 (.ref 4), en P "__file__" 173 (.str "/claim/cut.py" 172), en P "__cached__" 174 .none, en P "_sre" 275 (.ref 12), en P "deque" 317 (.type "collections.deque"), en P "_wall" 330 (.ref 44), en P "get_line_col" 341 (.ref 51), en P "_twin_re_1" 381 (.ref 56), en P "_whence" 391 (.ref 63), en P "_index" 399 (.ref 70), en P "UnsupportedOperation" 421 (.ref 80), en P "IOBase" 453 (.ref 100), en P "BufferedIOBase" 471 (.ref 115), en P "TextIOBase" 489 (.ref 127), en P "BytesIO" 751 (.ref 357), en P "StringIO" 1038 (.ref 604)] 22)
def qWj : Obj := ob .none (.fields #[.int 3 0, .int 0 0, .ref 43, .int 7 0, .int 0 0, .ref 50, .int 12 0, .int 0 0, .ref 62, .int 17 0, .int 0 0, .ref 69, .int 24 0, .int 0 0, .ref 76, .int 26 0, .int 0 0, .ref 89, .int 33 0, .int 0 0, .ref 111, .int 35 0, .int 0 0, .ref 123, .int 37 0, .int 0 0, .ref 135, .int 207 0, .int 0 0, .ref 365])
noncomputable def qQM (P : Params) : Obj := ⟨(.type "type"), none, (.cls { name := "TextIOBase", bases := [.ref 100], mro := [.ref 127, .ref 100, .type "object"], ns := 126, qualname := "TextIOBase", hasDict := true, slotNames := [], subclasses := [.ref 604], abstract := false, collection := none, hasDel := false }), #[some (.ref 118), none, some (.str "TextIOBase" 472), some (.str "TextIOBase" 480), some .none, some (.bool true)]⟩
def o360 : Obj := tu #[.ref 127]
def o361 : Obj := ob (.type "builtin_function_or_method") (.fields #[.builtin "type.__prepare__", .type "type"])
def o362 (P : Params) : Obj := ob (.type "dict") (.dict #[en P "__module__" 759 (.str "_io" 764), en P "__qualname__" 761 (.str "StringIO" 760), en P "__firstlineno__" 763 (.int 207 762), en P "__init__" 776 (.ref 374), en P "_StringIO__translated" 785 (.ref 381), en P "_StringIO__check" 792 (.ref 388), en P "_StringIO__check_dot" 799 (.ref 395), en P "_StringIO__line" 814 (.ref 402), en P "closed" 822 (.ref 410), en P "line_buffering" 830 (.ref 418), en P "newlines" 838 (.ref 426), en P "encoding" 846 (.ref 434), en P "errors" 854 (.ref 442), en P "close" 861 (.ref 449), en P "__enter__" 868 (.ref 456), en P "__exit__" 876 (.ref 463), en P "readable" 883 (.ref 470), en P "writable" 890 (.ref 477), en P "seekable" 897 (.ref 484), en P "isatty" 904 (.ref 491), en P "flush" 911 (.ref 498), en P "fileno" 918 (.ref 505), en P "detach" 925 (.ref 512), en P "getvalue" 932 (.ref 519), en P "tell" 939 (.ref 526), en P "seek" 949 (.ref 534), en P "truncate" 957 (.ref 542), en P "read" 969 (.ref 550), en P "readline" 979 (.ref 558), en P "readlines" 989 (.ref 566), en P "__iter__" 996 (.ref 573), en P "__next__" 1004 (.ref 580), en P "write" 1016 (.ref 587), en P "writelines" 1024 (.ref 594), en P "__repr__" 1031 (.ref 601), en P "__static_attributes__" 1035 (.ref 602)] 36)
def o363 : Obj := oE
def o364 : Obj := ob .none (.fields #[.int 210 0, .int 4 0, .ref 373, .int 223 0, .int 4 0, .ref 380, .int 231 0, .int 4 0, .ref 387, .int 235 0, .int 4 0, .ref 394, .int 239 0, .int 4 0, .ref 401, .int 272 0, .int 4 0, .ref 408, .int 276 0, .int 4 0, .ref 416, .int 280 0, .int 4 0, .ref 424, .int 284 0, .int 4 0, .ref 432, .int 288 0, .int 4 0, .ref 440, .int 291 0, .int 4 0, .ref 448, .int 294 0, .int 4 0, .ref 455, .int 298 0, .int 4 0, .ref 462, .int 301 0, .int 4 0, .ref 469, .int 305 0, .int 4 0, .ref 476, .int 309 0, .int 4 0, .ref 483, .int 313 0, .int 4 0, .ref 490, .int 317 0, .int 4 0, .ref 497, .int 320 0, .int 4 0, .ref 504, .int 323 0, .int 4 0, .ref 511, .int 326 0, .int 4 0, .ref 518, .int 329 0, .int 4 0, .ref 525, .int 333 0, .int 4 0, .ref 533, .int 350 0, .int 4 0, .ref 541, .int 353 0, .int 4 0, .ref 549, .int 367 0, .int 4 0, .ref 557, .int 374 0, .int 4 0, .ref 565, .int 377 0, .int 4 0, .ref 572, .int 381 0, .int 4 0, .ref 579, .int 388 0, .int 4 0, .ref 586, .int 407 0, .int 4 0, .ref 593, .int 410 0, .int 4 0, .ref 600])
def o365 : Obj := co "StringIO" "StringIO" 754 755 756 207 0 0 0 0 363 false 318 364 .none .none .none .none 757 207 758
noncomputable def o366 : Obj := ⟨(.type "frame"), none, .plain, #[some (.ref 365), some (.ref 3), some (.ref 362), none, some (.str "io" 382), none, some (.ref 0)]⟩
def o367 (P : Params) : Obj := tu #[.str "" 766, .str "\n" 767]
def o368 : Obj := oE
def o369 : Obj := oZ
def o370 : Obj := tu #[.str "self" 771, .str "initial_value" 772, .str "newline" 773]
def o371 : Obj := oE
def o372 : Obj := fn "__init__" "StringIO.__init__" (F2 12 1)
def o373 (P : Params) : Obj := co "__init__" "StringIO.__init__" 768 769 770 210 3 0 0 3 368 true 318 369 .none (.ref 370) (.ref 371) (.ref 372) 774 210 775
def o374 (P : Params) : Obj := fu "__init__" "StringIO.__init__" (F2 12 1) (.ref 367) "io" 382 373
def o375 : Obj := oE
def o376 : Obj := oZ
def o377 : Obj := tu #[.str "self" 780, .str "s" 781, .str "newline" 782]
def o378 : Obj := oE
def o379 : Obj := fn "__translated" "StringIO.__translated" (F2 12 2)
def o380 (P : Params) : Obj := co "__translated" "StringIO.__translated" 777 778 779 223 2 0 0 3 375 true 318 376 .none (.ref 377) (.ref 378) (.ref 379) 783 223 784
def o381 (P : Params) : Obj := fu "__translated" "StringIO.__translated" (F2 12 2) .none "io" 382 380
def o382 : Obj := oE
def o383 : Obj := oZ
def o384 : Obj := tu #[.str "self" 789]
def o385 : Obj := oE
def o386 : Obj := fn "__check" "StringIO.__check" (F2 12 3)
def o387 (P : Params) : Obj := co "__check" "StringIO.__check" 786 787 788 231 1 0 0 3 382 true 318 383 .none (.ref 384) (.ref 385) (.ref 386) 790 231 791
def o388 (P : Params) : Obj := fu "__check" "StringIO.__check" (F2 12 3) .none "io" 382 387
def o389 : Obj := oE
def o390 : Obj := oZ
def o391 : Obj := tu #[.str "self" 796]
def o392 : Obj := oE
def o393 : Obj := fn "__check_dot" "StringIO.__check_dot" (F2 12 4)
def o394 (P : Params) : Obj := co "__check_dot" "StringIO.__check_dot" 793 794 795 235 1 0 0 3 389 true 318 390 .none (.ref 391) (.ref 392) (.ref 393) 797 235 798
def o395 (P : Params) : Obj := fu "__check_dot" "StringIO.__check_dot" (F2 12 4) .none "io" 382 394
def o396 : Obj := oE
def o397 : Obj := oZ
def o398 : Obj := tu #[.str "self" 803, .str "limit" 804, .str "start" 805, .str "stop" 806, .str "cut" 807, .str "newline" 808, .str "i" 809, .str "j" 810, .str "end" 811]
def o399 : Obj := oE
def o400 : Obj := fn "__line" "StringIO.__line" (F2 12 5)
def o401 (P : Params) : Obj := co "__line" "StringIO.__line" 800 801 802 239 2 0 0 3 396 true 318 397 .none (.ref 398) (.ref 399) (.ref 400) 812 239 813
def o402 (P : Params) : Obj := fu "__line" "StringIO.__line" (F2 12 5) .none "io" 382 401
def o403 : Obj := oE
def o404 : Obj := oZ
def o405 : Obj := tu #[.str "self" 818]
def o406 : Obj := oE
def o407 : Obj := fn "closed" "StringIO.closed" (F2 12 6)
def o408 (P : Params) : Obj := co "closed" "StringIO.closed" 815 816 817 271 1 0 0 3 403 true 318 404 .none (.ref 405) (.ref 406) (.ref 407) 819 271 820
def o409 (P : Params) : Obj := fu "closed" "StringIO.closed" (F2 12 6) .none "io" 382 408
def o410 (P : Params) : Obj := ob (.type "property") (.fields #[.ref 409, .none, .none, .none, .str "closed" 822, .bool false])
def o411 : Obj := oE
def o412 : Obj := oZ
def o413 : Obj := tu #[.str "self" 826]
def o414 : Obj := oE
def o415 : Obj := fn "line_buffering" "StringIO.line_buffering" (F2 12 7)
def o416 (P : Params) : Obj := co "line_buffering" "StringIO.line_buffering" 823 824 825 275 1 0 0 3 411 true 318 412 .none (.ref 413) (.ref 414) (.ref 415) 827 275 828
def o417 (P : Params) : Obj := fu "line_buffering" "StringIO.line_buffering" (F2 12 7) .none "io" 382 416
def o418 (P : Params) : Obj := ob (.type "property") (.fields #[.ref 417, .none, .none, .none, .str "line_buffering" 830, .bool false])
def o419 : Obj := oE
def o420 : Obj := oZ
def o421 : Obj := tu #[.str "self" 834]
def o422 : Obj := oE
def o423 : Obj := fn "newlines" "StringIO.newlines" (F2 12 8)
def o424 (P : Params) : Obj := co "newlines" "StringIO.newlines" 831 832 833 279 1 0 0 3 419 true 318 420 .none (.ref 421) (.ref 422) (.ref 423) 835 279 836
def o425 (P : Params) : Obj := fu "newlines" "StringIO.newlines" (F2 12 8) .none "io" 382 424
def o426 (P : Params) : Obj := ob (.type "property") (.fields #[.ref 425, .none, .none, .none, .str "newlines" 838, .bool false])
def o427 : Obj := oE
def o428 : Obj := oZ
def o429 : Obj := tu #[.str "self" 842]
def o430 : Obj := oE
def o431 : Obj := fn "encoding" "StringIO.encoding" (F2 12 9)
def o432 (P : Params) : Obj := co "encoding" "StringIO.encoding" 839 840 841 283 1 0 0 3 427 true 318 428 .none (.ref 429) (.ref 430) (.ref 431) 843 283 844
def o433 (P : Params) : Obj := fu "encoding" "StringIO.encoding" (F2 12 9) .none "io" 382 432
def o434 (P : Params) : Obj := ob (.type "property") (.fields #[.ref 433, .none, .none, .none, .str "encoding" 846, .bool false])
def o435 : Obj := oE
def o436 : Obj := oZ
def o437 : Obj := tu #[.str "self" 850]
def o438 : Obj := oE
def o439 : Obj := fn "errors" "StringIO.errors" (F2 12 10)
def o440 (P : Params) : Obj := co "errors" "StringIO.errors" 847 848 849 287 1 0 0 3 435 true 318 436 .none (.ref 437) (.ref 438) (.ref 439) 851 287 852
def o441 (P : Params) : Obj := fu "errors" "StringIO.errors" (F2 12 10) .none "io" 382 440
def o442 (P : Params) : Obj := ob (.type "property") (.fields #[.ref 441, .none, .none, .none, .str "errors" 854, .bool false])
def o443 : Obj := oE
def o444 : Obj := oZ
def o445 : Obj := tu #[.str "self" 858]
def o446 : Obj := oE
def o447 : Obj := fn "close" "StringIO.close" (F2 12 11)
def o448 (P : Params) : Obj := co "close" "StringIO.close" 855 856 857 291 1 0 0 3 443 true 318 444 .none (.ref 445) (.ref 446) (.ref 447) 859 291 860
def o449 (P : Params) : Obj := fu "close" "StringIO.close" (F2 12 11) .none "io" 382 448
def o450 : Obj := oE
def o451 : Obj := oZ
def o452 : Obj := tu #[.str "self" 865]
def o453 : Obj := oE
def o454 : Obj := fn "__enter__" "StringIO.__enter__" (F2 12 12)
def o455 (P : Params) : Obj := co "__enter__" "StringIO.__enter__" 862 863 864 294 1 0 0 3 450 true 318 451 .none (.ref 452) (.ref 453) (.ref 454) 866 294 867
def o456 (P : Params) : Obj := fu "__enter__" "StringIO.__enter__" (F2 12 12) .none "io" 382 455
def o457 : Obj := oE
def o458 : Obj := oZ
def o459 : Obj := tu #[.str "self" 872, .str "args" 873]
def o460 : Obj := oE
def o461 : Obj := fn "__exit__" "StringIO.__exit__" (F2 12 13)
def o462 (P : Params) : Obj := co "__exit__" "StringIO.__exit__" 869 870 871 298 1 0 0 7 457 true 318 458 .none (.ref 459) (.ref 460) (.ref 461) 874 298 875
def o463 (P : Params) : Obj := fu "__exit__" "StringIO.__exit__" (F2 12 13) .none "io" 382 462
def o464 : Obj := oE
def o465 : Obj := oZ
def o466 : Obj := tu #[.str "self" 880]
def o467 : Obj := oE
def o468 : Obj := fn "readable" "StringIO.readable" (F2 12 14)
def o469 (P : Params) : Obj := co "readable" "StringIO.readable" 877 878 879 301 1 0 0 3 464 true 318 465 .none (.ref 466) (.ref 467) (.ref 468) 881 301 882
def o470 (P : Params) : Obj := fu "readable" "StringIO.readable" (F2 12 14) .none "io" 382 469
def o471 : Obj := oE
def o472 : Obj := oZ
def o473 : Obj := tu #[.str "self" 887]
def o474 : Obj := oE
def o475 : Obj := fn "writable" "StringIO.writable" (F2 12 15)
def o476 (P : Params) : Obj := co "writable" "StringIO.writable" 884 885 886 305 1 0 0 3 471 true 318 472 .none (.ref 473) (.ref 474) (.ref 475) 888 305 889
def o477 (P : Params) : Obj := fu "writable" "StringIO.writable" (F2 12 15) .none "io" 382 476
def o478 : Obj := oE
def o479 : Obj := oZ
def o480 : Obj := tu #[.str "self" 894]
def o481 : Obj := oE
def o482 : Obj := fn "seekable" "StringIO.seekable" (F2 12 16)
def o483 (P : Params) : Obj := co "seekable" "StringIO.seekable" 891 892 893 309 1 0 0 3 478 true 318 479 .none (.ref 480) (.ref 481) (.ref 482) 895 309 896
def o484 (P : Params) : Obj := fu "seekable" "StringIO.seekable" (F2 12 16) .none "io" 382 483
def o485 : Obj := oE
def o486 : Obj := oZ
def o487 : Obj := tu #[.str "self" 901]
def o488 : Obj := oE
def o489 : Obj := fn "isatty" "StringIO.isatty" (F2 12 17)
def o490 (P : Params) : Obj := co "isatty" "StringIO.isatty" 898 899 900 313 1 0 0 3 485 true 318 486 .none (.ref 487) (.ref 488) (.ref 489) 902 313 903
def o491 (P : Params) : Obj := fu "isatty" "StringIO.isatty" (F2 12 17) .none "io" 382 490
def o492 : Obj := oE
def o493 : Obj := oZ
def o494 : Obj := tu #[.str "self" 908]
def o495 : Obj := oE
def o496 : Obj := fn "flush" "StringIO.flush" (F2 12 18)
def o497 (P : Params) : Obj := co "flush" "StringIO.flush" 905 906 907 317 1 0 0 3 492 true 318 493 .none (.ref 494) (.ref 495) (.ref 496) 909 317 910
def o498 (P : Params) : Obj := fu "flush" "StringIO.flush" (F2 12 18) .none "io" 382 497
def o499 : Obj := oE
def o500 : Obj := oZ
def o501 : Obj := tu #[.str "self" 915]
def o502 : Obj := oE
def o503 : Obj := fn "fileno" "StringIO.fileno" (F2 12 19)
def o504 (P : Params) : Obj := co "fileno" "StringIO.fileno" 912 913 914 320 1 0 0 3 499 true 318 500 .none (.ref 501) (.ref 502) (.ref 503) 916 320 917
def o505 (P : Params) : Obj := fu "fileno" "StringIO.fileno" (F2 12 19) .none "io" 382 504
def o506 : Obj := oE
def o507 : Obj := oZ
def o508 : Obj := tu #[.str "self" 922]
def o509 : Obj := oE
def o510 : Obj := fn "detach" "StringIO.detach" (F2 12 20)
def o511 (P : Params) : Obj := co "detach" "StringIO.detach" 919 920 921 323 1 0 0 3 506 true 318 507 .none (.ref 508) (.ref 509) (.ref 510) 923 323 924
def o512 (P : Params) : Obj := fu "detach" "StringIO.detach" (F2 12 20) .none "io" 382 511
def o513 : Obj := oE
def o514 : Obj := oZ
def o515 : Obj := tu #[.str "self" 929]
def o516 : Obj := oE
def o517 : Obj := fn "getvalue" "StringIO.getvalue" (F2 12 21)
def o518 (P : Params) : Obj := co "getvalue" "StringIO.getvalue" 926 927 928 326 1 0 0 3 513 true 318 514 .none (.ref 515) (.ref 516) (.ref 517) 930 326 931
def o519 (P : Params) : Obj := fu "getvalue" "StringIO.getvalue" (F2 12 21) .none "io" 382 518
def o520 : Obj := oE
def o521 : Obj := oZ
def o522 : Obj := tu #[.str "self" 936]
def o523 : Obj := oE
def o524 : Obj := fn "tell" "StringIO.tell" (F2 12 22)
def o525 (P : Params) : Obj := co "tell" "StringIO.tell" 933 934 935 329 1 0 0 3 520 true 318 521 .none (.ref 522) (.ref 523) (.ref 524) 937 329 938
def o526 (P : Params) : Obj := fu "tell" "StringIO.tell" (F2 12 22) .none "io" 382 525
def o527 (P : Params) : Obj := tu #[.int 0 940]
def o528 : Obj := oE
def o529 : Obj := oZ
def o530 : Obj := tu #[.str "self" 944, .str "pos" 945, .str "whence" 946]
def o531 : Obj := oE
def o532 : Obj := fn "seek" "StringIO.seek" (F2 12 23)
def o533 (P : Params) : Obj := co "seek" "StringIO.seek" 941 942 943 333 3 3 0 3 528 true 318 529 .none (.ref 530) (.ref 531) (.ref 532) 947 333 948
def o534 (P : Params) : Obj := fu "seek" "StringIO.seek" (F2 12 23) (.ref 527) "io" 382 533
def o535 (P : Params) : Obj := tu #[.none]
def o536 : Obj := oE
def o537 : Obj := oZ
def o538 : Obj := tu #[.str "self" 953, .str "pos" 954]
def o539 : Obj := oE
def o540 : Obj := fn "truncate" "StringIO.truncate" (F2 12 24)
def o541 (P : Params) : Obj := co "truncate" "StringIO.truncate" 950 951 952 350 2 2 0 3 536 true 318 537 .none (.ref 538) (.ref 539) (.ref 540) 955 350 956
def o542 (P : Params) : Obj := fu "truncate" "StringIO.truncate" (F2 12 24) (.ref 535) "io" 382 541
def o543 (P : Params) : Obj := tu #[.int (-1) 959]
def o544 : Obj := oE
def o545 : Obj := oZ
def o546 : Obj := tu #[.str "self" 963, .str "size" 964, .str "start" 965, .str "stop" 966]
def o547 : Obj := oE
def o548 : Obj := fn "read" "StringIO.read" (F2 12 25)
def o549 (P : Params) : Obj := co "read" "StringIO.read" 960 961 962 353 2 2 0 3 544 true 318 545 .none (.ref 546) (.ref 547) (.ref 548) 967 353 968
def o550 (P : Params) : Obj := fu "read" "StringIO.read" (F2 12 25) (.ref 543) "io" 382 549
def o551 (P : Params) : Obj := tu #[.int (-1) 971]
def o552 : Obj := oE
def o553 : Obj := oZ
def o554 : Obj := tu #[.str "self" 975, .str "size" 976]
def o555 : Obj := oE
def o556 : Obj := fn "readline" "StringIO.readline" (F2 12 26)
def o557 (P : Params) : Obj := co "readline" "StringIO.readline" 972 973 974 367 2 2 0 3 552 true 318 553 .none (.ref 554) (.ref 555) (.ref 556) 977 367 978
def o558 (P : Params) : Obj := fu "readline" "StringIO.readline" (F2 12 26) (.ref 551) "io" 382 557
def o559 (P : Params) : Obj := tu #[.int (-1) 981]
def o560 : Obj := oE
def o561 : Obj := oZ
def o562 : Obj := tu #[.str "self" 985, .str "hint" 986]
def o563 : Obj := oE
def o564 : Obj := fn "readlines" "StringIO.readlines" (F2 12 27)
def o565 (P : Params) : Obj := co "readlines" "StringIO.readlines" 982 983 984 374 2 2 0 3 560 true 318 561 .none (.ref 562) (.ref 563) (.ref 564) 987 374 988
def o566 (P : Params) : Obj := fu "readlines" "StringIO.readlines" (F2 12 27) (.ref 559) "io" 382 565
def o567 : Obj := oE
def o568 : Obj := oZ
def o569 : Obj := tu #[.str "self" 993]
def o570 : Obj := oE
def o571 : Obj := fn "__iter__" "StringIO.__iter__" (F2 12 28)
def o572 (P : Params) : Obj := co "__iter__" "StringIO.__iter__" 990 991 992 377 1 0 0 3 567 true 318 568 .none (.ref 569) (.ref 570) (.ref 571) 994 377 995
def o573 (P : Params) : Obj := fu "__iter__" "StringIO.__iter__" (F2 12 28) .none "io" 382 572
def o574 : Obj := oE
def o575 : Obj := oZ
def o576 : Obj := tu #[.str "self" 1000, .str "line" 1001]
def o577 : Obj := oE
def o578 : Obj := fn "__next__" "StringIO.__next__" (F2 12 29)
def o579 (P : Params) : Obj := co "__next__" "StringIO.__next__" 997 998 999 381 1 0 0 3 574 true 318 575 .none (.ref 576) (.ref 577) (.ref 578) 1002 381 1003
def o580 (P : Params) : Obj := fu "__next__" "StringIO.__next__" (F2 12 29) .none "io" 382 579
def o581 : Obj := oE
def o582 : Obj := oZ
def o583 : Obj := tu #[.str "self" 1008, .str "s" 1009, .str "n" 1010, .str "m" 1011, .str "start" 1012, .str "buf" 1013]
def o584 : Obj := oE
def o585 : Obj := fn "write" "StringIO.write" (F2 12 30)
def o586 (P : Params) : Obj := co "write" "StringIO.write" 1005 1006 1007 388 2 2 0 3 581 true 318 582 .none (.ref 583) (.ref 584) (.ref 585) 1014 388 1015
def o587 (P : Params) : Obj := fu "write" "StringIO.write" (F2 12 30) .none "io" 382 586
def o588 : Obj := oE
def o589 : Obj := oZ
def o590 : Obj := tu #[.str "self" 1020, .str "lines" 1021]
def o591 : Obj := oE
def o592 : Obj := fn "writelines" "StringIO.writelines" (F2 12 31)
def o593 (P : Params) : Obj := co "writelines" "StringIO.writelines" 1017 1018 1019 407 2 2 0 3 588 true 318 589 .none (.ref 590) (.ref 591) (.ref 592) 1022 407 1023
def o594 (P : Params) : Obj := fu "writelines" "StringIO.writelines" (F2 12 31) .none "io" 382 593
def o595 : Obj := oE
def o596 : Obj := oZ
def o597 : Obj := tu #[.str "self" 1028]
def o598 : Obj := oE
def o599 : Obj := fn "__repr__" "StringIO.__repr__" (F2 12 32)
def o600 (P : Params) : Obj := co "__repr__" "StringIO.__repr__" 1025 1026 1027 410 1 0 0 3 595 true 318 596 .none (.ref 597) (.ref 598) (.ref 599) 1029 410 1030
def o601 (P : Params) : Obj := fu "__repr__" "StringIO.__repr__" (F2 12 32) .none "io" 382 600
def o602 : Obj := tu #[.str "__buf" 1032, .str "__newline" 1033, .str "__pos" 1034]
def o603 (P : Params) : Obj := ob (.type "dict") (.dict #[en P "__module__" 759 (.str "_io" 764), en P "__firstlineno__" 763 (.int 207 762), en P "__init__" 776 (.ref 374), en P "_StringIO__translated" 785 (.ref 381), en P "_StringIO__check" 792 (.ref 388), en P "_StringIO__check_dot" 799 (.ref 395), en P "_StringIO__line" 814 (.ref 402), en P "closed" 822 (.ref 410), en P "line_buffering" 830 (.ref 418), en P "newlines" 838 (.ref 426), en P "encoding" 846 (.ref 434), en P "errors" 854 (.ref 442), en P "close" 861 (.ref 449), en P "__enter__" 868 (.ref 456), en P "__exit__" 876 (.ref 463), en P "readable" 883 (.ref 470), en P "writable" 890 (.ref 477), en P "seekable" 897 (.ref 484), en P "isatty" 904 (.ref 491), en P "flush" 911 (.ref 498), en P "fileno" 918 (.ref 505), en P "detach" 925 (.ref 512), en P "getvalue" 932 (.ref 519), en P "tell" 939 (.ref 526), en P "seek" 949 (.ref 534), en P "truncate" 957 (.ref 542), en P "read" 969 (.ref 550), en P "readline" 979 (.ref 558), en P "readlines" 989 (.ref 566), en P "__iter__" 996 (.ref 573), en P "__next__" 1004 (.ref 580), en P "write" 1016 (.ref 587), en P "writelines" 1024 (.ref 594), en P "__repr__" 1031 (.ref 601), en P "__static_attributes__" 1035 (.ref 602), en P "__doc__" 1036 .none] 2)
noncomputable def o604 (P : Params) : Obj := ⟨(.type "type"), none, (.cls { name := "StringIO", bases := [.ref 127], mro := [.ref 604, .ref 127, .ref 100, .type "object"], ns := 603, qualname := "StringIO", hasDict := true, slotNames := [], subclasses := [], abstract := false, collection := none, hasDel := false }), #[some (.ref 360), none, some (.str "StringIO" 752), some (.str "StringIO" 760), some .none, some (.bool true)]⟩
def o605 : Obj := ob (.type "super") (.fields #[.ref 604, .ref 604, .ref 604])
def o606 : Obj := ob (.type "builtin_function_or_method") (.fields #[.builtin "object.__init_subclass__", .ref 604])
def o3v5 (P : Params) : Obj := ob (.type "dict") (.dict #[en P "__name__" 165 (.str "cpy313.shlex" 1098), en P "__doc__" 166 .none, en P "__package__" 167 .none, en P "__loader__" 168 (.builtin "__main__.__loader__#opaque"), en P "__spec__" 169 .none, en P "__annotations__" 170 (.ref 6), en P "__builtins__" 171 (.ref 4), en P "__file__" 173 (.str "/claim/cut.py" 172), en P "__cached__" 174 .none, en P "_sre" 275 (.ref 12), en P "deque" 317 (.type "collections.deque"), en P "_wall" 330 (.ref 44), en P "get_line_col" 341 (.ref 51), en P "_twin_re_1" 381 (.ref 56), en P "_whence" 391 (.ref 63), en P "_index" 399 (.ref 70), en P "UnsupportedOperation" 421 (.ref 80), en P "IOBase" 453 (.ref 100), en P "BufferedIOBase" 471 (.ref 115), en P "TextIOBase" 489 (.ref 127), en P "BytesIO" 751 (.ref 357), en P "StringIO" 1038 (.ref 604), en P "_kind" 1049 (.ref 613), en P "_fspath" 1058 (.ref 620), en P "_check_arg_types" 1068 (.ref 627), en P "isabs" 1075 (.ref 634), en P "join" 1086 (.ref 641), en P "join_path" 1087 (.ref 641), en P "dirname" 1097 (.ref 648)] 29)
def qWi : Obj := ob .none (.fields #[.int 3 0, .int 0 0, .ref 43, .int 7 0, .int 0 0, .ref 50, .int 12 0, .int 0 0, .ref 62, .int 17 0, .int 0 0, .ref 69, .int 24 0, .int 0 0, .ref 76, .int 26 0, .int 0 0, .ref 89, .int 33 0, .int 0 0, .ref 111, .int 35 0, .int 0 0, .ref 123, .int 37 0, .int 0 0, .ref 135, .int 207 0, .int 0 0, .ref 365, .int 413 0, .int 0 0, .ref 612, .int 434 0, .int 0 0, .ref 619, .int 439 0, .int 0 0, .ref 626, .int 444 0, .int 0 0, .ref 633, .int 447 0, .int 0 0, .ref 640, .int 468 0, .int 0 0, .ref 647])
def o607 : Obj := oE
def o608 : Obj := oZ
def o609 : Obj := tu #[.str "name" 1044, .str "x" 1045, .str "t" 1046]
def o610 : Obj := oE
def o611 : Obj := fn "_kind" "_kind" (F1 14)
def o612 (P : Params) : Obj := co "_kind" "_kind" 1041 1042 1043 413 2 0 0 3 607 true 318 608 .none (.ref 609) (.ref 610) (.ref 611) 1047 413 1048
def o613 (P : Params) : Obj := fu "_kind" "_kind" (F1 14) .none "os.path" 1039 612
def o614 : Obj := oE
def o615 : Obj := oZ
def o616 : Obj := tu #[.str "name" 1053, .str "x" 1054, .str "k" 1055]
def o617 : Obj := oE
def o618 : Obj := fn "_fspath" "_fspath" (F1 15)
def o619 (P : Params) : Obj := co "_fspath" "_fspath" 1050 1051 1052 434 2 0 0 3 614 true 318 615 .none (.ref 616) (.ref 617) (.ref 618) 1056 434 1057
def o620 (P : Params) : Obj := fu "_fspath" "_fspath" (F1 15) .none "os.path" 1039 619
def o621 : Obj := oE
def o622 : Obj := oZ
def o623 : Obj := tu #[.str "funcname" 1062, .str "args" 1063, .str "s" 1064, .str "k" 1065]
def o624 : Obj := oE
def o625 : Obj := fn "_check_arg_types" "_check_arg_types" (F1 16)
def o626 (P : Params) : Obj := co "_check_arg_types" "_check_arg_types" 1059 1060 1061 439 1 0 0 7 621 true 318 622 .none (.ref 623) (.ref 624) (.ref 625) 1066 439 1067
def o627 (P : Params) : Obj := fu "_check_arg_types" "_check_arg_types" (F1 16) .none "os.path" 1039 626
def o628 : Obj := oE
def o629 : Obj := oZ
def o630 : Obj := tu #[.str "s" 1072]
def o631 : Obj := oE
def o632 : Obj := fn "isabs" "isabs" (F1 17)
def o633 (P : Params) : Obj := co "isabs" "isabs" 1069 1070 1071 444 1 0 0 3 628 true 318 629 .none (.ref 630) (.ref 631) (.ref 632) 1073 444 1074
def o634 (P : Params) : Obj := fu "isabs" "isabs" (F1 17) .none "os.path" 1039 633
def o635 : Obj := oE
def o636 : Obj := oZ
def o637 : Obj := tu #[.str "a" 1079, .str "p" 1080, .str "b" 1081, .str "sep" 1082, .str "path" 1083]
def o638 : Obj := oE
def o639 : Obj := fn "join" "join" (F1 18)
def o640 (P : Params) : Obj := co "join" "join" 1076 1077 1078 447 1 0 0 7 635 true 318 636 .none (.ref 637) (.ref 638) (.ref 639) 1084 447 1085
def o641 (P : Params) : Obj := fu "join" "join" (F1 18) .none "os.path" 1039 640
def o642 : Obj := oE
def o643 : Obj := oZ
def o644 : Obj := tu #[.str "p" 1091, .str "sep" 1092, .str "i" 1093, .str "head" 1094]
def o645 : Obj := oE
def o646 : Obj := fn "dirname" "dirname" (F1 20)
def o647 (P : Params) : Obj := co "dirname" "dirname" 1088 1089 1090 468 1 0 0 3 642 true 318 643 .none (.ref 644) (.ref 645) (.ref 646) 1095 468 1096
def o648 (P : Params) : Obj := fu "dirname" "dirname" (F1 20) .none "os.path" 1039 647
def o3v6 (P : Params) : Obj := ob (.type "dict") (.dict #[en P "__name__" 165 (.str "cpy313.shlex" 1098), en P "__doc__" 166 .none, en P "__package__" 167 .none, en P "__loader__" 168 (.builtin "__main__.__loader__#opaque"), en P "__spec__" 169 .none, en P "__annotations__" 170 (.ref 6), en P "__builtins__" 171 (.ref 4), en P "__file__" 173 (.str "/claim/cut.py" 172), en P "__cached__" 174 .none, en P "_sre" 275 (.ref 12), en P "deque" 317 (.type "collections.deque"), en P "_wall" 330 (.ref 44), en P "get_line_col" 341 (.ref 51), en P "_twin_re_1" 381 (.ref 56), en P "_whence" 391 (.ref 63), en P "_index" 399 (.ref 70), en P "UnsupportedOperation" 421 (.ref 80), en P "IOBase" 453 (.ref 100), en P "BufferedIOBase" 471 (.ref 115), en P "TextIOBase" 489 (.ref 127), en P "BytesIO" 751 (.ref 357), en P "StringIO" 1038 (.ref 604), en P "_kind" 1049 (.ref 613), en P "_fspath" 1058 (.ref 620), en P "_check_arg_types" 1068 (.ref 627), en P "isabs" 1075 (.ref 634), en P "join" 1086 (.ref 758), en P "join_path" 1087 (.ref 641), en P "dirname" 1097 (.ref 648), en P "shlex" 1238 (.ref 739), en P "split" 1248 (.ref 751)] 31)
def qWh : Obj := ob .none (.fields #[.int 3 0, .int 0 0, .ref 43, .int 7 0, .int 0 0, .ref 50, .int 12 0, .int 0 0, .ref 62, .int 17 0, .int 0 0, .ref 69, .int 24 0, .int 0 0, .ref 76, .int 26 0, .int 0 0, .ref 89, .int 33 0, .int 0 0, .ref 111, .int 35 0, .int 0 0, .ref 123, .int 37 0, .int 0 0, .ref 135, .int 207 0, .int 0 0, .ref 365, .int 413 0, .int 0 0, .ref 612, .int 434 0, .int 0 0, .ref 619, .int 439 0, .int 0 0, .ref 626, .int 444 0, .int 0 0, .ref 633, .int 447 0, .int 0 0, .ref 640, .int 468 0, .int 0 0, .ref 647, .int 477 0, .int 0 0, .ref 654, .int 729 0, .int 0 0, .ref 750, .int 737 0, .int 0 0, .ref 757])
def o649 : Obj := oE
def o650 : Obj := ob (.type "builtin_function_or_method") (.fields #[.builtin "type.__prepare__", .type "type"])
def o651 (P : Params) : Obj := ob (.type "dict") (.dict #[en P "__module__" 1107 (.str "cpy313.shlex" 1098), en P "__qualname__" 1109 (.str "shlex" 1108), en P "__firstlineno__" 1111 (.int 477 1110), en P "__init__" 1123 (.ref 663), en P "punctuation_chars" 1131 (.ref 671), en P "push_token" 1139 (.ref 678), en P "push_source" 1148 (.ref 686), en P "pop_source" 1155 (.ref 693), en P "get_token" 1167 (.ref 700), en P "read_token" 1178 (.ref 707), en P "sourcehook" 1186 (.ref 714), en P "error_leader" 1195 (.ref 722), en P "__iter__" 1202 (.ref 729), en P "__next__" 1210 (.ref 736), en P "__static_attributes__" 1231 (.ref 737)] 15)
def o652 : Obj := oE
def o653 : Obj := ob .none (.fields #[.int 479 0, .int 4 0, .ref 662, .int 521 0, .int 4 0, .ref 669, .int 524 0, .int 4 0, .ref 677, .int 527 0, .int 4 0, .ref 685, .int 540 0, .int 4 0, .ref 692, .int 547 0, .int 4 0, .ref 699, .int 574 0, .int 4 0, .ref 706, .int 711 0, .int 4 0, .ref 713, .int 718 0, .int 4 0, .ref 721, .int 721 0, .int 4 0, .ref 728, .int 724 0, .int 4 0, .ref 735])
def o654 : Obj := co "shlex" "shlex" 1102 1103 1104 477 0 0 0 0 652 false 318 653 .none .none .none .none 1105 477 1106
noncomputable def o655 : Obj := ⟨(.type "frame"), none, .plain, #[some (.ref 654), some (.ref 3), some (.ref 651), none, some (.str "cpy313.shlex" 1098), none, some (.ref 0)]⟩
def o656 (P : Params) : Obj := tu #[.none, .none, .bool false, .bool false]
def o657 : Obj := oE
def o658 : Obj := oZ
def o659 : Obj := tu #[.str "self" 1115, .str "instream" 1116, .str "infile" 1117, .str "posix" 1118, .str "punctuation_chars" 1119, .str "t" 1120]
def o660 : Obj := oE
def o661 : Obj := fn "__init__" "shlex.__init__" (F2 22 0)
def o662 (P : Params) : Obj := co "__init__" "shlex.__init__" 1112 1113 1114 479 5 0 0 3 657 true 318 658 .none (.ref 659) (.ref 660) (.ref 661) 1121 479 1122
def o663 (P : Params) : Obj := fu "__init__" "shlex.__init__" (F2 22 0) (.ref 656) "cpy313.shlex" 1098 662
def o664 : Obj := oE
def o665 : Obj := oZ
def o666 : Obj := tu #[.str "self" 1127]
def o667 : Obj := oE
def o668 : Obj := fn "punctuation_chars" "shlex.punctuation_chars" (F2 22 1)
def o669 (P : Params) : Obj := co "punctuation_chars" "shlex.punctuation_chars" 1124 1125 1126 520 1 0 0 3 664 true 318 665 .none (.ref 666) (.ref 667) (.ref 668) 1128 520 1129
def o670 (P : Params) : Obj := fu "punctuation_chars" "shlex.punctuation_chars" (F2 22 1) .none "cpy313.shlex" 1098 669
def o671 (P : Params) : Obj := ob (.type "property") (.fields #[.ref 670, .none, .none, .none, .str "punctuation_chars" 1131, .bool false])
def o672 : Obj := oE
def o673 : Obj := oZ
def o674 : Obj := tu #[.str "self" 1135, .str "tok" 1136]
def o675 : Obj := oE
def o676 : Obj := fn "push_token" "shlex.push_token" (F2 22 2)
def o677 (P : Params) : Obj := co "push_token" "shlex.push_token" 1132 1133 1134 524 2 0 0 3 672 true 318 673 .none (.ref 674) (.ref 675) (.ref 676) 1137 524 1138
def o678 (P : Params) : Obj := fu "push_token" "shlex.push_token" (F2 22 2) .none "cpy313.shlex" 1098 677
def o679 (P : Params) : Obj := tu #[.none]
def o680 : Obj := oE
def o681 : Obj := oZ
def o682 : Obj := tu #[.str "self" 1143, .str "newstream" 1144, .str "newfile" 1145]
def o683 : Obj := oE
def o684 : Obj := fn "push_source" "shlex.push_source" (F2 22 3)
def o685 (P : Params) : Obj := co "push_source" "shlex.push_source" 1140 1141 1142 527 3 0 0 3 680 true 318 681 .none (.ref 682) (.ref 683) (.ref 684) 1146 527 1147
def o686 (P : Params) : Obj := fu "push_source" "shlex.push_source" (F2 22 3) (.ref 679) "cpy313.shlex" 1098 685
def o687 : Obj := oE
def o688 : Obj := oZ
def o689 : Obj := tu #[.str "self" 1152]
def o690 : Obj := oE
def o691 : Obj := fn "pop_source" "shlex.pop_source" (F2 22 4)
def o692 (P : Params) : Obj := co "pop_source" "shlex.pop_source" 1149 1150 1151 540 1 0 0 3 687 true 318 688 .none (.ref 689) (.ref 690) (.ref 691) 1153 540 1154
def o693 (P : Params) : Obj := fu "pop_source" "shlex.pop_source" (F2 22 4) .none "cpy313.shlex" 1098 692
def o694 : Obj := oE
def o695 : Obj := oZ
def o696 : Obj := tu #[.str "self" 1159, .str "tok" 1160, .str "raw" 1161, .str "spec" 1162, .str "newfile" 1163, .str "newstream" 1164]
def o697 : Obj := oE
def o698 : Obj := fn "get_token" "shlex.get_token" (F2 22 5)
def o699 (P : Params) : Obj := co "get_token" "shlex.get_token" 1156 1157 1158 547 1 0 0 3 694 true 318 695 .none (.ref 696) (.ref 697) (.ref 698) 1165 547 1166
def o700 (P : Params) : Obj := fu "get_token" "shlex.get_token" (F2 22 5) .none "cpy313.shlex" 1098 699
def o701 : Obj := oE
def o702 : Obj := oZ
def o703 : Obj := tu #[.str "self" 1171, .str "quoted" 1172, .str "escapedstate" 1173, .str "nextchar" 1174, .str "result" 1175]
def o704 : Obj := oE
def o705 : Obj := fn "read_token" "shlex.read_token" (F2 22 6)
def o706 (P : Params) : Obj := co "read_token" "shlex.read_token" 1168 1169 1170 574 1 0 0 3 701 true 318 702 .none (.ref 703) (.ref 704) (.ref 705) 1176 574 1177
def o707 (P : Params) : Obj := fu "read_token" "shlex.read_token" (F2 22 6) .none "cpy313.shlex" 1098 706
def o708 : Obj := oE
def o709 : Obj := oZ
def o710 : Obj := tu #[.str "self" 1182, .str "newfile" 1183]
def o711 : Obj := oE
def o712 : Obj := fn "sourcehook" "shlex.sourcehook" (F2 22 7)
def o713 (P : Params) : Obj := co "sourcehook" "shlex.sourcehook" 1179 1180 1181 711 2 0 0 3 708 true 318 709 .none (.ref 710) (.ref 711) (.ref 712) 1184 711 1185
def o714 (P : Params) : Obj := fu "sourcehook" "shlex.sourcehook" (F2 22 7) .none "cpy313.shlex" 1098 713
def o715 (P : Params) : Obj := tu #[.none, .none]
def o716 : Obj := oE
def o717 : Obj := oZ
def o718 : Obj := tu #[.str "self" 1190, .str "infile" 1191, .str "lineno" 1192]
def o719 : Obj := oE
def o720 : Obj := fn "error_leader" "shlex.error_leader" (F2 22 8)
def o721 (P : Params) : Obj := co "error_leader" "shlex.error_leader" 1187 1188 1189 718 3 0 0 3 716 true 318 717 .none (.ref 718) (.ref 719) (.ref 720) 1193 718 1194
def o722 (P : Params) : Obj := fu "error_leader" "shlex.error_leader" (F2 22 8) (.ref 715) "cpy313.shlex" 1098 721
def o723 : Obj := oE
def o724 : Obj := oZ
def o725 : Obj := tu #[.str "self" 1199]
def o726 : Obj := oE
def o727 : Obj := fn "__iter__" "shlex.__iter__" (F2 22 9)
def o728 (P : Params) : Obj := co "__iter__" "shlex.__iter__" 1196 1197 1198 721 1 0 0 3 723 true 318 724 .none (.ref 725) (.ref 726) (.ref 727) 1200 721 1201
def o729 (P : Params) : Obj := fu "__iter__" "shlex.__iter__" (F2 22 9) .none "cpy313.shlex" 1098 728
def o730 : Obj := oE
def o731 : Obj := oZ
def o732 : Obj := tu #[.str "self" 1206, .str "token" 1207]
def o733 : Obj := oE
def o734 : Obj := fn "__next__" "shlex.__next__" (F2 22 10)
def o735 (P : Params) : Obj := co "__next__" "shlex.__next__" 1203 1204 1205 724 1 0 0 3 730 true 318 731 .none (.ref 732) (.ref 733) (.ref 734) 1208 724 1209
def o736 (P : Params) : Obj := fu "__next__" "shlex.__next__" (F2 22 10) .none "cpy313.shlex" 1098 735
def o737 : Obj := tu #[.str "_punctuation_chars" 1211, .str "_pushback_chars" 1212, .str "commenters" 1213, .str "debug" 1214, .str "eof" 1215, .str "escape" 1216, .str "escapedquotes" 1217, .str "filestack" 1218, .str "infile" 1219, .str "instream" 1220, .str "lineno" 1221, .str "posix" 1222, .str "pushback" 1223, .str "quotes" 1224, .str "source" 1225, .str "state" 1226, .str "token" 1227, .str "whitespace" 1228, .str "whitespace_split" 1229, .str "wordchars" 1230]
def o738 (P : Params) : Obj := ob (.type "dict") (.dict #[en P "__module__" 1107 (.str "cpy313.shlex" 1098), en P "__firstlineno__" 1111 (.int 477 1110), en P "__init__" 1123 (.ref 663), en P "punctuation_chars" 1131 (.ref 671), en P "push_token" 1139 (.ref 678), en P "push_source" 1148 (.ref 686), en P "pop_source" 1155 (.ref 693), en P "get_token" 1167 (.ref 700), en P "read_token" 1178 (.ref 707), en P "sourcehook" 1186 (.ref 714), en P "error_leader" 1195 (.ref 722), en P "__iter__" 1202 (.ref 729), en P "__next__" 1210 (.ref 736), en P "__static_attributes__" 1231 (.ref 737), en P "__dict__" 1233 (.ref 740), en P "__weakref__" 1235 (.ref 741), en P "__doc__" 1236 .none] 4)
noncomputable def o739 (P : Params) : Obj := ⟨(.type "type"), none, (.cls { name := "shlex", bases := [.type "object"], mro := [.ref 739, .type "object"], ns := 738, qualname := "shlex", hasDict := true, slotNames := [], subclasses := [], abstract := false, collection := none, hasDel := false }), #[none, none, some (.str "shlex" 1100), some (.str "shlex" 1108), some (.builtin "object.__new__"), some (.bool true)]⟩
def o740 (P : Params) : Obj := ob (.type "getset_descriptor") (.fields #[.str "__dict__" 1232, .ref 739, .builtin "function.__dict__", .builtin "function.__dict__#set"])
def o741 (P : Params) : Obj := ob (.type "getset_descriptor") (.fields #[.str "__weakref__" 1234, .ref 739, .builtin "ExceptionGroup.__weakref__", .none])
def o742 : Obj := ob (.type "super") (.fields #[.ref 739, .ref 739, .ref 739])
def o743 : Obj := ob (.type "builtin_function_or_method") (.fields #[.builtin "object.__init_subclass__", .ref 739])
def o744 (P : Params) : Obj := tu #[.bool false, .bool true]
def o745 : Obj := oE
def o746 : Obj := oZ
def o747 : Obj := tu #[.str "s" 1242, .str "comments" 1243, .str "posix" 1244, .str "lex" 1245]
def o748 : Obj := oE
def o749 : Obj := fn "split" "split" (F1 23)
def o750 (P : Params) : Obj := co "split" "split" 1239 1240 1241 729 3 0 0 3 745 true 318 746 .none (.ref 747) (.ref 748) (.ref 749) 1246 729 1247
def o751 (P : Params) : Obj := fu "split" "split" (F1 23) (.ref 744) "cpy313.shlex" 1098 750
def o752 : Obj := oE
def o753 (P : Params) : Obj := oZ
def o754 : Obj := tu #[.str "split_command" 1252]
def o755 : Obj := oE
def o756 : Obj := fn "join" "join" (F1 24)
def o757 (P : Params) : Obj := co "join" "join" 1249 1250 1251 737 1 0 0 3 752 true 318 753 .none (.ref 754) (.ref 755) (.ref 756) 1253 737 1254
def o758 (P : Params) : Obj := fu "join" "join" (F1 24) .none "cpy313.shlex" 1098 757
def o3v7 (P : Params) : Obj := ob (.type "dict") (.dict #[en P "__name__" 165 (.str "law_mj0251_01" 1266), en P "__doc__" 166 .none, en P "__package__" 167 .none, en P "__loader__" 168 (.builtin "__main__.__loader__#opaque"), en P "__spec__" 169 .none, en P "__annotations__" 170 (.ref 6), en P "__builtins__" 171 (.ref 4), en P "__file__" 173 (.str "/claim/cut.py" 172), en P "__cached__" 174 .none, en P "_sre" 275 (.ref 12), en P "deque" 317 (.type "collections.deque"), en P "_wall" 330 (.ref 44), en P "get_line_col" 341 (.ref 51), en P "_twin_re_1" 381 (.ref 56), en P "_whence" 391 (.ref 63), en P "_index" 399 (.ref 70), en P "UnsupportedOperation" 421 (.ref 80), en P "IOBase" 453 (.ref 100), en P "BufferedIOBase" 471 (.ref 115), en P "TextIOBase" 489 (.ref 127), en P "BytesIO" 751 (.ref 357), en P "StringIO" 1038 (.ref 604), en P "_kind" 1049 (.ref 613), en P "_fspath" 1058 (.ref 620), en P "_check_arg_types" 1068 (.ref 627), en P "isabs" 1075 (.ref 634), en P "join" 1086 (.ref 758), en P "join_path" 1087 (.ref 641), en P "dirname" 1097 (.ref 648), en P "shlex" 1238 (.ref 739), en P "split" 1248 (.ref 751), en P "join_shlex" 1256 (.ref 758), en P "_find_unsafe" 1258 (.ref 759), en P "quote" 1265 (.ref 766), en P "_law_piece" 1278 (.ref 773), en P "_law_step" 1290 (.ref 780), en P "_law_place" 1301 (.ref 787), en P "_law_due" 1313 (.ref 794), en P "_law_line" 1319 (.ref 799), en P "_law_read" 1326 (.ref 806), en P "_law_told" 1332 (.ref 811), en P "_law_plain" 1343 (.ref 818), en P "law" 1349 (.ref 823)] 43)
def qWg : Obj := ob .none (.fields #[.int 3 0, .int 0 0, .ref 43, .int 7 0, .int 0 0, .ref 50, .int 12 0, .int 0 0, .ref 62, .int 17 0, .int 0 0, .ref 69, .int 24 0, .int 0 0, .ref 76, .int 26 0, .int 0 0, .ref 89, .int 33 0, .int 0 0, .ref 111, .int 35 0, .int 0 0, .ref 123, .int 37 0, .int 0 0, .ref 135, .int 207 0, .int 0 0, .ref 365, .int 413 0, .int 0 0, .ref 612, .int 434 0, .int 0 0, .ref 619, .int 439 0, .int 0 0, .ref 626, .int 444 0, .int 0 0, .ref 633, .int 447 0, .int 0 0, .ref 640, .int 468 0, .int 0 0, .ref 647, .int 477 0, .int 0 0, .ref 654, .int 729 0, .int 0 0, .ref 750, .int 737 0, .int 0 0, .ref 757, .int 741 0, .int 0 0, .ref 765, .int 748 0, .int 0 0, .ref 772, .int 755 0, .int 0 0, .ref 779, .int 768 0, .int 0 0, .ref 786, .int 773 0, .int 0 0, .ref 793, .int 807 0, .int 0 0, .ref 798, .int 814 0, .int 0 0, .ref 805, .int 819 0, .int 0 0, .ref 810, .int 825 0, .int 0 0, .ref 817, .int 837 0, .int 0 0, .ref 822])
def o759 (P : Params) : Obj := ob (.type "builtin_function_or_method") (.fields #[.builtin "re.Pattern.search", .ref 56])
def o760 : Obj := oE
def o761 : Obj := oZ
def o762 : Obj := tu #[.str "s" 1262]
def o763 : Obj := oE
def o764 : Obj := fn "quote" "quote" (F1 27)
def o765 (P : Params) : Obj := co "quote" "quote" 1259 1260 1261 741 1 0 0 3 760 true 318 761 .none (.ref 762) (.ref 763) (.ref 764) 1263 741 1264
def o766 (P : Params) : Obj := fu "quote" "quote" (F1 27) .none "cpy313.shlex" 1098 765
def o767 : Obj := oE
def o768 : Obj := oZ
def o769 : Obj := tu #[.str "x" 1271, .str "code" 1272, .str "figure" 1273, .str "place" 1274, .str "pieces" 1275]
def o770 : Obj := oE
def o771 : Obj := fn "_law_piece" "_law_piece" (F1 29)
def o772 (P : Params) : Obj := co "_law_piece" "_law_piece" 1268 1269 1270 748 1 0 0 3 767 true 318 768 .none (.ref 769) (.ref 770) (.ref 771) 1276 748 1277
def o773 (P : Params) : Obj := fu "_law_piece" "_law_piece" (F1 29) .none "law_mj0251_01" 1266 772
def o774 : Obj := oE
def o775 : Obj := oZ
def o776 : Obj := tu #[.str "stand" 1282, .str "sign" 1283, .str "part" 1284, .str "number" 1285, .str "minus" 1286, .str "front" 1287]
def o777 : Obj := oE
def o778 : Obj := fn "_law_step" "_law_step" (F1 30)
def o779 (P : Params) : Obj := co "_law_step" "_law_step" 1279 1280 1281 755 2 0 0 3 774 true 318 775 .none (.ref 776) (.ref 777) (.ref 778) 1288 755 1289
def o780 (P : Params) : Obj := fu "_law_step" "_law_step" (F1 30) .none "law_mj0251_01" 1266 779
def o781 : Obj := oE
def o782 : Obj := oZ
def o783 : Obj := tu #[.str "stand" 1294, .str "part" 1295, .str "number" 1296, .str "minus" 1297, .str "front" 1298]
def o784 : Obj := oE
def o785 : Obj := fn "_law_place" "_law_place" (F1 31)
def o786 (P : Params) : Obj := co "_law_place" "_law_place" 1291 1292 1293 768 1 0 0 3 781 true 318 782 .none (.ref 783) (.ref 784) (.ref 785) 1299 768 1300
def o787 (P : Params) : Obj := fu "_law_place" "_law_place" (F1 31) .none "law_mj0251_01" 1266 786
def o788 : Obj := oE
def o789 : Obj := oZ
def o790 : Obj := tu #[.str "text" 1305, .str "fresh" 1306, .str "stand" 1307, .str "mode" 1308, .str "places" 1309, .str "sign" 1310]
def o791 : Obj := oE
def o792 : Obj := fn "_law_due" "_law_due" (F1 32)
def o793 (P : Params) : Obj := co "_law_due" "_law_due" 1302 1303 1304 773 1 0 0 3 788 true 318 789 .none (.ref 790) (.ref 791) (.ref 792) 1311 773 1312
def o794 (P : Params) : Obj := fu "_law_due" "_law_due" (F1 32) .none "law_mj0251_01" 1266 793
def o795 : Obj := oE
def o796 : Obj := oZ
def o797 : Obj := fn "_law_line" "_law_line" (F1 33)
def o798 (P : Params) : Obj := co "_law_line" "_law_line" 1314 1315 1316 807 1 0 0 3 795 true 318 796 .none .none .none (.ref 797) 1317 807 1318
def o799 (P : Params) : Obj := fu "_law_line" "_law_line" (F1 33) .none "law_mj0251_01" 1266 798
def o800 : Obj := oE
def o801 : Obj := oZ
def o802 : Obj := tu #[.str "word" 1323]
def o803 : Obj := oE
def o804 : Obj := fn "_law_read" "_law_read" (F1 34)
def o805 (P : Params) : Obj := co "_law_read" "_law_read" 1320 1321 1322 814 1 0 0 3 800 true 318 801 .none (.ref 802) (.ref 803) (.ref 804) 1324 814 1325
def o806 (P : Params) : Obj := fu "_law_read" "_law_read" (F1 34) .none "law_mj0251_01" 1266 805
def o807 : Obj := oE
def o808 : Obj := oZ
def o809 : Obj := fn "_law_told" "_law_told" (F1 35)
def o810 (P : Params) : Obj := co "_law_told" "_law_told" 1327 1328 1329 819 1 0 0 3 807 true 318 808 .none .none .none (.ref 809) 1330 819 1331
def o811 (P : Params) : Obj := fu "_law_told" "_law_told" (F1 35) .none "law_mj0251_01" 1266 810
def o812 : Obj := oE
def o813 : Obj := oZ
def o814 : Obj := tu #[.str "text" 1336, .str "word" 1337, .str "halves" 1338, .str "half" 1339, .str "figures" 1340]
def o815 : Obj := oE
def o816 : Obj := fn "_law_plain" "_law_plain" (F1 36)
def o817 (P : Params) : Obj := co "_law_plain" "_law_plain" 1333 1334 1335 825 1 0 0 3 812 true 318 813 .none (.ref 814) (.ref 815) (.ref 816) 1341 825 1342
def o818 (P : Params) : Obj := fu "_law_plain" "_law_plain" (F1 36) .none "law_mj0251_01" 1266 817
def o819 : Obj := oE
def o820 : Obj := oZ
def o821 : Obj := fn "law" "law" (F1 37)
def o822 (P : Params) : Obj := co "law" "law" 1344 1345 1346 837 1 0 0 3 819 true 318 820 .none .none .none (.ref 821) 1347 837 1348
def o823 (P : Params) : Obj := fu "law" "law" (F1 37) .none "law_mj0251_01" 1266 822
end
noncomputable def H0 (P : Params) : Heap := ⟨#[o0 P, o1 P, o2 P, o3 P, o4 P, o5 P, o6 P, o7 P, o8 P, o9 P, o10 P, o11 P, o12, o13 P, o14 P, o15, o16 P, o17 P, o18, o19, o20 P, o21 P, o22 P, o23, o24 P, o25 P, o26, o27, o28, o29 P, o30, o31, o32 P, o33], {}⟩
noncomputable def T7 (P : Params) : BT := (nd (o0 P) (nd (o1 P) (nd (o3v7 P) (nd (o7 P) (nd o15 (nd o31 (nd (o63 P) (nd (qQM P) (nd o255 (lv (o511 P)) (lv o767)) (nd o383 (lv o639) .nil)) (nd o191 (nd o319 (lv o575) .nil) (nd o447 (lv o703) .nil))) (nd o95 (nd o159 (nd o287 (lv (o543 P)) (lv (o799 P))) (nd o415 (lv (o671 P)) .nil)) (nd o223 (nd o351 (lv o607) .nil) (nd o479 (lv (o735 P)) .nil)))) (nd o47 (nd (o79 P) (nd o143 (nd o271 (lv (o527 P)) (lv o783)) (nd o399 (lv o655) .nil)) (nd o207 (nd o335 (lv o591) .nil) (nd (o463 P) (lv o719) .nil))) (nd o111 (nd o175 (nd o303 (lv (o559 P)) (lv o815)) (nd o431 (lv o687) .nil)) (nd o239 (nd (o367 P) (lv o623) .nil) (nd o495 (lv (o751 P)) .nil))))) (nd o23 (nd o39 (nd o71 (nd o135 (nd o263 (lv (o519 P)) (lv o775)) (nd o391 (lv (o647 P)) .nil)) (nd o199 (nd o327 (lv o583) .nil) (nd (o455 P) (lv o711) .nil))) (nd (o103 P) (nd o167 (nd o295 (lv (o551 P)) (lv o807)) (nd o423 (lv (o679 P)) .nil)) (nd o231 (nd o359 (lv o615) .nil) (nd o487 (lv o743) .nil)))) (nd (o55 P) (nd o87 (nd o151 (nd o279 (lv (o535 P)) (lv o791)) (nd o407 (lv (o663 P)) .nil)) (nd o215 (nd o343 (lv o599) .nil) (nd o471 (lv o727) .nil))) (nd o119 (nd o183 (nd o311 (lv o567) (lv (o823 P))) (nd o439 (lv o695) .nil)) (nd o247 (nd o375 (lv o631) .nil) (nd o503 (lv (o759 P)) .nil)))))) (nd (o11 P) (nd o19 (nd qWg (nd o67 (nd o131 (nd o259 (lv o515) (lv o771)) (nd (o387 P) (lv o643) .nil)) (nd o195 (nd o323 (lv (o579 P)) .nil) (nd o451 (lv (o707 P)) .nil))) (nd (o99 P) (nd o163 (nd o291 (lv o547) (lv o803)) (nd o419 (lv o675) .nil)) (nd o227 (nd o355 (lv o611) .nil) (nd (o483 P) (lv (o739 P)) .nil)))) (nd (o51 P) (nd o83 (nd o147 (nd o275 (lv o531) (lv (o787 P))) (nd o403 (lv o659) .nil)) (nd o211 (nd o339 (lv o595) .nil) (nd o467 (lv o723) .nil))) (nd qUv (nd o179 (nd o307 (lv o563) (lv o819)) (nd o435 (lv o691) .nil)) (nd o243 (nd o371 (lv (o627 P)) .nil) (nd o499 (lv o755) .nil))))) (nd o27 (nd (o43 P) (nd o75 (nd o139 (nd o267 (lv o523) (lv (o779 P))) (nd (o395 P) (lv (o651 P)) .nil)) (nd o203 (nd o331 (lv (o587 P)) .nil) (nd o459 (lv (o715 P)) .nil))) (nd o107 (nd o171 (nd o299 (lv o555) (lv (o811 P))) (nd o427 (lv o683) .nil)) (nd o235 (nd o363 (lv (o619 P)) .nil) (nd (o491 P) (lv o747) .nil)))) (nd o59 (nd o91 (nd o155 (nd o283 (lv o539) (lv o795)) (nd o411 (lv o667) .nil)) (nd o219 (nd o347 (lv (o603 P)) .nil) (nd o475 (lv o731) .nil))) (nd o123 (nd o187 (nd o315 (lv o571) .nil) (nd o443 (lv (o699 P)) .nil)) (nd o251 (nd o379 (lv o635) .nil) (nd o507 (lv o763) .nil))))))) (nd (o5 P) (nd (o9 P) (nd (o17 P) (nd o33 (nd o65 (nd o129 (nd o257 (lv o513) (lv o769)) (nd o385 (lv (o641 P)) .nil)) (nd o193 (nd o321 (lv o577) .nil) (nd (o449 P) (lv o705) .nil))) (nd (o97 P) (nd o161 (nd o289 (lv o545) (lv o801)) (nd (o417 P) (lv o673) .nil)) (nd o225 (nd o353 (lv o609) .nil) (nd o481 (lv o737) .nil)))) (nd o49 (nd o81 (nd o145 (nd o273 (lv o529) (lv o785)) (nd (o401 P) (lv o657) .nil)) (nd o209 (nd o337 (lv (o593 P)) .nil) (nd o465 (lv (o721 P)) .nil))) (nd o113 (nd o177 (nd o305 (lv o561) (lv (o817 P))) (nd (o433 P) (lv o689) .nil)) (nd o241 (nd o369 (lv o625) .nil) (nd (o497 P) (lv (o753 P)) .nil))))) (nd (o25 P) (nd o41 (nd (o73 P) (nd o137 (nd o265 (lv o521) (lv o777)) (nd o393 (lv o649) .nil)) (nd o201 (nd o329 (lv o585) .nil) (nd o457 (lv (o713 P)) .nil))) (nd o105 (nd o169 (nd o297 (lv o553) (lv o809)) (nd (o425 P) (lv o681) .nil)) (nd o233 (nd o361 (lv o617) .nil) (nd o489 (lv o745) .nil)))) (nd o57 (nd o89 (nd o153 (nd o281 (lv o537) (lv (o793 P))) (nd (o409 P) (lv o665) .nil)) (nd o217 (nd o345 (lv (o601 P)) .nil) (nd o473 (lv (o729 P)) .nil))) (nd o121 (nd o185 (nd o313 (lv o569) .nil) (nd (o441 P) (lv o697) .nil)) (nd o249 (nd o377 (lv (o633 P)) .nil) (nd (o505 P) (lv o761) .nil)))))) (nd (o13 P) (nd (o21 P) (nd o37 (nd (o69 P) (nd o133 (nd o261 (lv o517) (lv (o773 P))) (nd o389 (lv o645) .nil)) (nd o197 (nd o325 (lv o581) .nil) (nd o453 (lv o709) .nil))) (nd (o101 P) (nd o165 (nd o293 (lv (o549 P)) (lv (o805 P))) (nd o421 (lv (o677 P)) .nil)) (nd o229 (nd o357 (lv (o613 P)) .nil) (nd o485 (lv (o741 P)) .nil)))) (nd o53 (nd o85 (nd o149 (nd o277 (lv (o533 P)) (lv o789)) (nd o405 (lv o661) .nil)) (nd o213 (nd o341 (lv o597) .nil) (nd (o469 P) (lv o725) .nil))) (nd o117 (nd o181 (nd o309 (lv (o565 P)) (lv o821)) (nd o437 (lv (o693 P)) .nil)) (nd o245 (nd (o373 P) (lv o629) .nil) (nd o501 (lv (o757 P)) .nil))))) (nd (o29 P) (nd o45 (nd o77 (nd o141 (nd o269 (lv (o525 P)) (lv o781)) (nd o397 (lv o653) .nil)) (nd o205 (nd o333 (lv o589) .nil) (nd o461 (lv o717) .nil))) (nd o109 (nd o173 (nd o301 (lv (o557 P)) (lv o813)) (nd o429 (lv (o685 P)) .nil)) (nd o237 (nd o365 (lv o621) .nil) (nd o493 (lv o749) .nil)))) (nd o61 (nd o93 (nd o157 (nd o285 (lv (o541 P)) (lv o797)) (nd o413 (lv (o669 P)) .nil)) (nd o221 (nd o349 (lv o605) .nil) (nd (o477 P) (lv o733) .nil))) (nd o125 (nd o189 (nd o317 (lv (o573 P)) .nil) (nd o445 (lv o701) .nil)) (nd o253 (nd (o381 P) (lv o637) .nil) (nd o509 (lv (o765 P)) .nil)))))))) (nd (o2v1 P) (nd (o4 P) (nd (o8 P) (nd (o16 P) (nd (o32 P) (nd o64 (nd o128 (nd o256 (lv (o512 P)) (lv o768)) (nd o384 (lv (o640 P)) .nil)) (nd o192 (nd o320 (lv o576) .nil) (nd (o448 P) (lv o704) .nil))) (nd (o96 P) (nd o160 (nd o288 (lv o544) (lv o800)) (nd (o416 P) (lv o672) .nil)) (nd o224 (nd o352 (lv o608) .nil) (nd o480 (lv (o736 P)) .nil)))) (nd o48 (nd o80 (nd o144 (nd o272 (lv o528) (lv o784)) (nd o400 (lv (o656 P)) .nil)) (nd o208 (nd o336 (lv o592) .nil) (nd o464 (lv o720) .nil))) (nd o112 (nd o176 (nd o304 (lv o560) (lv o816)) (nd (o432 P) (lv o688) .nil)) (nd o240 (nd o368 (lv o624) .nil) (nd o496 (lv o752) .nil))))) (nd (o24 P) (nd o40 (nd o72 (nd o136 (nd o264 (lv o520) (lv o776)) (nd o392 (lv (o648 P)) .nil)) (nd o200 (nd o328 (lv o584) .nil) (nd (o456 P) (lv o712) .nil))) (nd o104 (nd o168 (nd o296 (lv o552) (lv o808)) (nd (o424 P) (lv o680) .nil)) (nd o232 (nd o360 (lv o616) .nil) (nd o488 (lv (o744 P)) .nil)))) (nd (o56 P) (nd o88 (nd o152 (nd o280 (lv o536) (lv o792)) (nd (o408 P) (lv o664) .nil)) (nd o216 (nd o344 (lv (o600 P)) .nil) (nd o472 (lv (o728 P)) .nil))) (nd (o120 P) (nd o184 (nd o312 (lv o568) .nil) (nd (o440 P) (lv o696) .nil)) (nd o248 (nd o376 (lv o632) .nil) (nd (o504 P) (lv o760) .nil)))))) (nd o12 (nd (o20 P) (nd o36 (nd o68 (nd (o132 P) (nd o260 (lv o516) (lv (o772 P))) (nd (o388 P) (lv o644) .nil)) (nd o196 (nd o324 (lv (o580 P)) .nil) (nd o452 (lv o708) .nil))) (nd (qQN P) (nd o164 (nd o292 (lv o548) (lv o804)) (nd o420 (lv o676) .nil)) (nd o228 (nd (o356 P) (lv (o612 P)) .nil) (nd (o484 P) (lv (o740 P)) .nil)))) (nd o52 (nd o84 (nd o148 (nd o276 (lv o532) (lv o788)) (nd o404 (lv o660) .nil)) (nd o212 (nd o340 (lv o596) .nil) (nd o468 (lv o724) .nil))) (nd o116 (nd o180 (nd o308 (lv o564) (lv o820)) (nd o436 (lv (o692 P)) .nil)) (nd o244 (nd o372 (lv o628) .nil) (nd o500 (lv o756) .nil))))) (nd o28 (nd (o44 P) (nd o76 (nd o140 (nd o268 (lv o524) (lv (o780 P))) (nd o396 (lv o652) .nil)) (nd o204 (nd o332 (lv o588) .nil) (nd o460 (lv o716) .nil))) (nd (o108 P) (nd o172 (nd o300 (lv o556) (lv o812)) (nd o428 (lv o684) .nil)) (nd o236 (nd o364 (lv (o620 P)) .nil) (nd o492 (lv o748) .nil)))) (nd o60 (nd o92 (nd o156 (nd o284 (lv o540) (lv o796)) (nd o412 (lv o668) .nil)) (nd o220 (nd o348 (lv (o604 P)) .nil) (nd (o476 P) (lv o732) .nil))) (nd o124 (nd o188 (nd o316 (lv (o572 P)) .nil) (nd o444 (lv (o700 P)) .nil)) (nd o252 (nd (o380 P) (lv o636) .nil) (nd o508 (lv o764) .nil))))))) (nd (o6 P) (nd (o10 P) (nd o18 (nd o34 (nd o66 (nd o130 (nd o258 (lv o514) (lv o770)) (nd o386 (lv o642) .nil)) (nd o194 (nd o322 (lv o578) .nil) (nd o450 (lv (o706 P)) .nil))) (nd o98 (nd o162 (nd o290 (lv o546) (lv o802)) (nd (o418 P) (lv o674) .nil)) (nd o226 (nd o354 (lv o610) .nil) (nd o482 (lv (o738 P)) .nil)))) (nd (o50 P) (nd o82 (nd o146 (nd o274 (lv o530) (lv (o786 P))) (nd (o402 P) (lv o658) .nil)) (nd o210 (nd o338 (lv (o594 P)) .nil) (nd o466 (lv (o722 P)) .nil))) (nd (o114 P) (nd o178 (nd o306 (lv o562) (lv (o818 P))) (nd (o434 P) (lv o690) .nil)) (nd o242 (nd o370 (lv (o626 P)) .nil) (nd (o498 P) (lv o754) .nil))))) (nd o26 (nd o42 (nd o74 (nd o138 (nd o266 (lv o522) (lv o778)) (nd (o394 P) (lv o650) .nil)) (nd o202 (nd o330 (lv (o586 P)) .nil) (nd o458 (lv (o714 P)) .nil))) (nd o106 (nd o170 (nd o298 (lv o554) (lv (o810 P))) (nd (o426 P) (lv o682) .nil)) (nd o234 (nd (o362 P) (lv o618) .nil) (nd (o490 P) (lv o746) .nil)))) (nd o58 (nd o90 (nd o154 (nd o282 (lv o538) (lv (o794 P))) (nd (o410 P) (lv o666) .nil)) (nd o218 (nd o346 (lv o602) .nil) (nd o474 (lv o730) .nil))) (nd o122 (nd o186 (nd o314 (lv o570) .nil) (nd (o442 P) (lv o698) .nil)) (nd o250 (nd o378 (lv (o634 P)) .nil) (nd o506 (lv o762) .nil)))))) (nd (o14 P) (nd (o22 P) (nd o38 (nd (o70 P) (nd o134 (nd o262 (lv (o518 P)) (lv o774)) (nd o390 (lv o646) .nil)) (nd o198 (nd o326 (lv o582) .nil) (nd o454 (lv o710) .nil))) (nd (o102 P) (nd o166 (nd o294 (lv (o550 P)) (lv (o806 P))) (nd o422 (lv (o678 P)) .nil)) (nd o230 (nd o358 (lv o614) .nil) (nd o486 (lv o742) .nil)))) (nd o54 (nd (o86 P) (nd o150 (nd o278 (lv (o534 P)) (lv o790)) (nd o406 (lv (o662 P)) .nil)) (nd o214 (nd o342 (lv o598) .nil) (nd (o470 P) (lv o726) .nil))) (nd o118 (nd o182 (nd o310 (lv (o566 P)) (lv (o822 P))) (nd o438 (lv o694) .nil)) (nd o246 (nd (o374 P) (lv o630) .nil) (nd o502 (lv (o758 P)) .nil))))) (nd o30 (nd o46 (nd o78 (nd o142 (nd o270 (lv (o526 P)) (lv o782)) (nd o398 (lv o654) .nil)) (nd o206 (nd o334 (lv o590) .nil) (nd (o462 P) (lv o718) .nil))) (nd o110 (nd o174 (nd o302 (lv (o558 P)) (lv o814)) (nd o430 (lv (o686 P)) .nil)) (nd o238 (nd o366 (lv o622) .nil) (nd o494 (lv (o750 P)) .nil)))) (nd (o62 P) (nd o94 (nd o158 (nd o286 (lv (o542 P)) (lv (o798 P))) (nd o414 (lv (o670 P)) .nil)) (nd o222 (nd o350 (lv o606) .nil) (nd o478 (lv o734) .nil))) (nd (o126 P) (nd o190 (nd o318 (lv o574) .nil) (nd o446 (lv o702) .nil)) (nd o254 (nd o382 (lv o638) .nil) (nd o510 (lv (o766 P)) .nil)))))))))
noncomputable def T0 (P : Params) : BT := (((cutT 38 (T7 P)).set 3 fun _ => o3 P).set 35 fun _ => o35).set 2 fun _ => o2 P
noncomputable def T1 (P : Params) : BT := (((cutT 106 (T7 P)).set 3 fun _ => o3v1 P).set 35 fun _ => qWm).set 100 fun _ => o100
noncomputable def T2 (P : Params) : BT := ((((cutT 130 (T7 P)).set 3 fun _ => o3v2 P).set 127 fun _ => o127).set 35 fun _ => qWl).set 115 fun _ => o115
noncomputable def T3 (P : Params) : BT := (((cutT 360 (T7 P)).set 3 fun _ => o3v3 P).set 127 fun _ => o127).set 35 fun _ => qWk
noncomputable def T4 (P : Params) : BT := ((cutT 607 (T7 P)).set 3 fun _ => o3v4 P).set 35 fun _ => qWj
noncomputable def T5 (P : Params) : BT := ((cutT 649 (T7 P)).set 3 fun _ => o3v5 P).set 35 fun _ => qWi
noncomputable def T6 (P : Params) : BT := ((cutT 759 (T7 P)).set 3 fun _ => o3v6 P).set 35 fun _ => qWh
noncomputable abbrev p0 : Pos := ⟨0, 0, 0, 0⟩
noncomputable abbrev ann0 : Option Value := some (.ref 6)
noncomputable def env0 : Env := { scope := pw.main.scope, locals := mainNs, globals := mainNs, cells := [], code := .ref 36, frame := some 37 }
noncomputable def c0 : Code := .body body0 env0
noncomputable def B0 : List Frame := [topFrame p0]
noncomputable def St (T : Params → BT) (n toks : Nat) (w : World) (os : OsState) : SharedT := ⟨T w.params, n, {}, #[], {}, toks, os⟩
theorem qUg (w : World) (os : OsState) : topGo treeTable pw w 34 ann0 12 ⟨H0 w.params, #[], {}, 318, os⟩ (topStub pw) = some ((St T0 38 324 w os).abs, ⟨denote treeTable c0, c0, p0, B0⟩) := by kernel_rfl
theorem qUi (w : World) (os : OsState) : segRun treeTable pw w 34 ann0 1 1 (St T0 38 324 w os).abs (blockOf body0 env0 c0 p0 B0) = some (.next, (St T0 38 324 w os).abs, c0, p0) := by kernel_rfl
noncomputable def sts1 : List Stmt := (body0.drop 0).take 9
theorem run1 (w : World) (os : OsState) : segRunT treeTable pw w 34 ann0 1 669 (St T0 38 324 w os) (piecesOf sts1 env0 c0 p0 B0) = some (.next, St T1 106 454 w os, c0, ⟨26, 0, 32, 34⟩) := by kernel_rfl
noncomputable def sts2 : List Stmt := (body0.drop 9).take 2
theorem run2 (w : World) (os : OsState) : segRunT treeTable pw w 34 ann0 1 447 (St T1 106 454 w os) (piecesOf sts2 env0 c0 ⟨26, 0, 32, 34⟩ B0) = some (.next, St T2 130 490 w os, c0, ⟨35, 0, 36, 21⟩) := by kernel_rfl
noncomputable def sts3 : List Stmt := (body0.drop 11).take 1
theorem run3 (w : World) (os : OsState) : segRunT treeTable pw w 34 ann0 1 1278 (St T2 130 490 w os) (piecesOf sts3 env0 c0 ⟨35, 0, 36, 21⟩ B0) = some (.next, St T3 360 752 w os, c0, ⟨37, 0, 206, 17⟩) := by kernel_rfl
noncomputable def sts4 : List Stmt := (body0.drop 12).take 1
theorem run4 (w : World) (os : OsState) : segRunT treeTable pw w 34 ann0 1 1578 (St T3 360 752 w os) (piecesOf sts4 env0 c0 ⟨37, 0, 206, 17⟩ B0) = some (.next, St T4 607 1039 w os, c0, ⟨207, 0, 411, 17⟩) := by kernel_rfl
noncomputable def sts5 : List Stmt := (body0.drop 13).take 9
theorem run5 (w : World) (os : OsState) : segRunT treeTable pw w 34 ann0 1 217 (St T4 607 1039 w os) (piecesOf sts5 env0 c0 ⟨207, 0, 411, 17⟩ B0) = some (.next, St T5 649 1100 w os, c0, ⟨476, 0, 476, 8⟩) := by kernel_rfl
noncomputable def sts6 : List Stmt := (body0.drop 22).take 3
theorem run6 (w : World) (os : OsState) : segRunT treeTable pw w 34 ann0 1 695 (St T5 649 1100 w os) (piecesOf sts6 env0 c0 ⟨476, 0, 476, 8⟩ B0) = some (.next, St T6 759 1256 w os, c0, ⟨737, 0, 738, 58⟩) := by kernel_rfl
noncomputable def sts7 : List Stmt := (body0.drop 25).take 13
theorem run7 (w : World) (os : OsState) : segRunT treeTable pw w 34 ann0 1 350 (St T6 759 1256 w os) (piecesOf sts7 env0 c0 ⟨737, 0, 738, 58⟩ B0) = some (.next, St T7 824 1350 w os, c0, ⟨837, 0, 846, 81⟩) := by kernel_rfl
theorem qQs : body0 = sts1 ++ (sts2 ++ (sts3 ++ (sts4 ++ (sts5 ++ (sts6 ++ (sts7 ++ [])))))) := by kernel_rfl
noncomputable abbrev TT : Params → BT := T7
abbrev nT : Nat := 824
abbrev kT : Nat := 1350
noncomputable def H1 (P : Params) : Heap := absHeap (TT P) nT {}
theorem qUh (w : World) (os : OsState) : topRun treeTable pw w 34 ann0 2 (St TT nT kT w os).abs ⟨doneF .next, c0, ⟨837, 0, 846, 81⟩, B0⟩ = some (St TT nT kT w os).abs := by kernel_rfl
abbrev nM : Nat := (12 + (1 + (669 + (447 + (1278 + (1578 + (217 + (695 + (350 + 2)))))))))
theorem qUj (w : World) (os : OsState) : topRun treeTable pw w 34 ann0 nM ⟨H0 w.params, #[], {}, 318, os⟩ (topStub pw) = some ⟨H1 w.params, #[], {}, kT, os⟩ := by
 refine go_top (qUg w os) ?_
 refine piece_block (q := p0) (qUi w os) ?_
 show topRun _ _ _ _ _ _ _ (restOf body0 env0 c0 p0 [topFrame p0]) = _
 rw [qQs]
 refine piece_app (q := p0) (segRun_of (run1 w os)) ?_
 refine piece_app (q := p0) (segRun_of (run2 w os)) ?_
 refine piece_app (q := p0) (segRun_of (run3 w os)) ?_
 refine piece_app (q := p0) (segRun_of (run4 w os)) ?_
 refine piece_app (q := p0) (segRun_of (run5 w os)) ?_
 refine piece_app (q := p0) (segRun_of (run6 w os)) ?_
 refine piece_app (q := p0) (segRun_of (run7 w os)) ?_
 exact piece_nil (q := p0) (qUh w os)
noncomputable abbrev nN : Nat := 6000
theorem qWf (w : World) : (fencedOpening treeTable pw w nN).map (fun s => (s.heap, s.gens, s.drawn, s.toks)) = some (H0 w.params, #[], {}, 318) := by kernel_rfl
theorem qVN (w : World) : ((H0 w.params).isNs mainGlobals && (#[] : Array GenState).size == 0, (H0 w.params).objs.size, (H0 w.params).nsMap mainGlobals "__annotations__") = (true, 34, ann0) := by kernel_rfl
noncomputable abbrev rw0 := PySem.Challenge.rw_mj0251_01
noncomputable def qv : Program := view pw [0, 1, 39]
noncomputable def lo : List Str := ["_wall", "get_line_col", "_twin_re_1", "_whence", "_index", "UnsupportedOperation", "IOBase", "BufferedIOBase", "TextIOBase", "BytesIO", "StringIO", "_kind", "_fspath", "_check_arg_types", "isabs", "join", "join_path", "dirname", "shlex", "split", "join_shlex", "_find_unsafe", "quote", "_law_piece", "_law_step", "_law_place", "_law_due", "_law_line", "_law_read", "_law_told", "_law_plain"]
noncomputable def xt (s : Shared) : Bool := xlAt qv [] s && recOk [] s
noncomputable abbrev Se (w : World) (os : OsState) : Shared := ⟨H1 w.params, #[], {}, kT, os⟩
theorem qUH (w : World) : (fun os => (staticsOk (importedModules pw.main.body) (H0 w.params) (H1 w.params) && namesBound pw (H1 w.params) && gensDone (Se w os) && laidKept (H0 w.params) (H1 w.params))) = fun _ => true := by kernel_rfl
theorem qUG (w : World) : (fun os => openSeen qv lo (importedModules pw.main.body) xt true (Se w os)) = fun _ => openGood qv lo := by kernel_rfl
theorem qWH : LeftO pw qv lo xt (fun s => s.heap) (fun w => H1 w.params) nN := by
 refine LeftO.of_pieces (M := nM) (m₀ := 34) (ann := ann0) (H₁ := H1) (gs₁ := #[]) (d₁ := {}) (k₁ := kT) qWf qVN qUj (by kernel_rfl) ?_
 intro w
 funext os
 exact Prod.ext (congrFun (qUH w) os) (Prod.ext (congrFun (qUG w) os) rfl)
noncomputable def dLaw : DefRec := { name := "law", params := qLc (F1 37), body := qBh (F1 37), scope := qAM (F1 37), pos := ⟨837, 0, 846, 81⟩ }
theorem qSs : defOf qv rw0.row.name = some (dLaw, []) := by kernel_rfl
theorem qPk : rw0.row.prog.theDef rw0.row.name = some (dLaw.params, dLaw.body, dLaw.scope) := by kernel_rfl
theorem qUM : kwWritten? dLaw.params.kwonlyargs dLaw.params.kw_defaults = some [] := by kernel_rfl
theorem qUK : (!rw0.row.writes || rw0.row.toRowW.records.isEmpty) = true := by kernel_rfl
theorem qUL : (chainsOk qv && opensWell rw0.row.prog && (frees rw0.row.toRowW && rw0.row.toRowW.within.isEmpty)) = true := by kernel_rfl
theorem qPn : rw0.row.prog.bare := ⟨rfl, rfl, rfl, rfl, rfl, by kernel_rfl⟩
abbrev KeptA (w : World) (h : Heap) : Prop := ∀ b o, (H1 w.params).get? b = some o → h.get? b = some o
theorem qVY : sreFenced rw0.row.prog.main = true := by kernel_rfl
theorem qVX : ((moduleNames rw0.row.prog.main.body).isEmpty || lookedIntoSs (moduleNames rw0.row.prog.main.body) rw0.row.prog.main.body) = true := by kernel_rfl
theorem qVW : namesResolve rw0.row.prog = true := by kernel_rfl
theorem qVV : (rw0.row.prog.boundNames.all fun n => !worldNames.contains n) = true := by kernel_rfl
theorem qVU : noRoadLSs { strict := !(importedModules rw0.row.prog.main.body).all cThrough.contains, foot := none, bare := List.filter (readsOut rw0.row.prog rw0.row.prog.main.body) [Str.ofString "vars", Str.ofString "dir", Str.ofString "locals"] } rw0.row.prog.main.body = true := by kernel_rfl
theorem qVT : (namesMeet rw0.row.prog rw0.row.prog.main.body fun x n => attrL n) = true := by kernel_rfl
theorem qVS : rw0.row.loose.isEmpty = true := by kernel_rfl
theorem qVR : rw0.row.makers.isEmpty = true := by kernel_rfl
theorem qVQ : (List.isEmpty rw0.row.records || rw0.row.raises.all fun ct => ct.fst != ExcName.builtin "AttributeError" && ct.fst != ExcName.builtin "TypeError") = true := by kernel_rfl
theorem qUa : (rw0.row.raises.all fun ct => match ct.fst with | ExcName.builtin n => !rw0.row.prog.boundNames.contains (Str.ofString n) && !ofTheWorld.contains n | ExcName.own name => true) = true := by kernel_rfl
theorem qT9 : decide (List.map (fun x => x.fst) rw0.row.records).Nodup = true := by kernel_rfl
theorem qT8 : (List.all rw0.row.records fun x => !x.fst.opensWith (Str.ofString "__") && !builtinNamed x.fst && rw0.row.prog.boundNames.contains x.fst && x.snd.all fun f => !f.fst.opensWith (Str.ofString "__")) = true := by kernel_rfl
theorem qT7 : rw0.row.solid = true := by kernel_rfl
theorem qT6 : rw0.row.pre.litsOk = true := by kernel_rfl
theorem qT5 : rw0.row.post.litsOk = true := by kernel_rfl
theorem qT4 : (rw0.row.raises.all fun x => x.snd.litsOk) = true := by kernel_rfl
theorem qT3 : (rw0.row.mutates.all fun i => match rw0.row.args[i]? with | some sh => !sh.arms.any WShape.isObj | none => false) = true := by kernel_rfl
theorem qT2 : (rw0.row.within.all fun i => decide (i < rw0.row.args.length)) = true := by kernel_rfl
theorem qT1 : Option.all (fun i => decide (i < rw0.row.args.length)) rw0.row.same = true := by kernel_rfl
theorem qT0 : rw0.row.prog.boundNames.contains rw0.row.name = true := by kernel_rfl
theorem qTZ : (!startupNames.contains rw0.row.name) = true := by kernel_rfl
theorem qTY : decide (rw0.foot ≤ (behindTheImports rw0.prog).length) = true := by kernel_rfl
theorem qTX : rw0.footing.all footLine = true := by kernel_rfl
theorem qTW : noClassBlock rw0.prog rw0.footing = true := by kernel_rfl
theorem qTV : Option.all (fun n => decide (63 ≤ n)) rw0.most = true := by kernel_rfl
theorem qTU : Option.all (fun n => decide (2 ^ 63 ≤ n)) rw0.bound = true := by kernel_rfl
theorem qTT : noRoadLSs { strict := true, foot := some rw0.bound', writes := rw0.writes, may := rw0.may } rw0.footing = true := by kernel_rfl
theorem qTS : defStands rw0.about rw0.above = true := by kernel_rfl
theorem qTR : rw0.namesIt = true := by kernel_rfl
theorem qTQ : ([Str.ofString "type", Str.ofString "isinstance", Str.ofString "issubclass", Str.ofString "getattr", Str.ofString "hasattr"].all fun n => rw0.about != [n]) = true := by kernel_rfl
theorem qTP : (rw0.bound'.all fun n => !builtinNamed n || rw0.about == [n] || !rw0.reads n) = true := by kernel_rfl
theorem qTO : (!rw0.writes || (List.flatMap importedNames rw0.prog.main.body).all fun n => !rw0.reads n) = true := by kernel_rfl
theorem qTN : ((List.flatMap importedNames rw0.prog.main.body).all fun n => !rw0.reads n || (drawsOf n rw0.prog.main.body).all fun mn => mn.snd != Str.ofString "attrgetter" && mn.snd != Str.ofString "methodcaller") = true := by kernel_rfl
theorem qTM : (namesMeet rw0.prog rw0.footing fun sc n => (![Str.ofString "type", Str.ofString "isinstance", Str.ofString "issubclass", Str.ofString "getattr", Str.ofString "hasattr"].contains n || List.lookup n sc.names == some NameKind.globalImplicit) && (rw0.may != some n || sc.kind == ScopeKind.module || List.lookup n sc.names == some NameKind.globalImplicit)) = true := by kernel_rfl
theorem qTL : rw0.own.contains rw0.name = true := by kernel_rfl
theorem qTK : (rw0.own.eraseDups.length == rw0.own.length) = true := by kernel_rfl
theorem qTJ : (rw0.own.all fun n => !builtinNamed n) = true := by kernel_rfl
theorem qTI : (namesMeet rw0.prog rw0.above fun x n => !rw0.own.contains n) = true := by kernel_rfl
theorem qTH : (namesMeet rw0.prog rw0.footing fun sc n => sc.kind == ScopeKind.module || List.lookup n sc.names != some NameKind.globalExplicit) = true := by kernel_rfl
theorem qPi : rw0.wellSaid = true := by
 delta OpenLaw.wellSaid OpenRow.wellSaid OpenRow.partSaid looksOpen
 repeat' with_reducible refine look_both ?_ ?_
 ·exact qVY
 ·exact qVX
 ·exact qVW
 ·exact qVV
 ·exact qVU
 ·exact qVT
 ·exact qVS
 ·exact qVR
 ·exact qVQ
 ·exact qUa
 ·exact qT9
 ·exact qT8
 ·exact qT7
 ·exact qT6
 ·exact qT5
 ·exact qT4
 ·exact qT3
 ·exact qT2
 ·exact qT1
 ·exact qT0
 ·exact qTZ
 ·exact qTY
 ·exact qTX
 ·exact qTW
 ·exact qTV
 ·exact qTU
 ·exact qTT
 ·exact qTS
 ·exact qTR
 ·exact qTQ
 ·exact qTP
 ·exact qTO
 ·exact qTN
 ·exact qTM
 ·exact qTL
 ·exact qTK
 ·exact qTJ
 ·exact qTI
 ·exact qTH
theorem qPj : rw0.row.toRowW.promised := ⟨[.list []], by kernel_rfl, by kernel_rfl⟩
theorem head (call : WalkO qv lo (XL qv []) KeptA rw0.row.toRowW dLaw [] fun f vs => PySem.call f vs) : rw0.Holds :=
 holds_law qPi fun said =>
  holds_open (Xt := xt) (Yf := fun s => s.heap) (Ya := fun w => H1 w.params) (YP := KeptA) (N := nN) qWH
   (fun w s e b o h => by have e : s.heap = H1 w.params := e; rw [e]; exact h) (fun w h h' k k' b o e => k' b o (k b o e))
   (fun s e => xl_of s (Bool.and_eq_true_iff.mp e).1) XL.keeps qSs qPk qUM
   (fun s e => recFacts_of (Bool.and_eq_true_iff.mp e).2) qUK said qUL qPn qPj call
inductive Part where
 | ahead | figures | bar | sign | behind | lost
 deriving DecidableEq
structure Stand where
 part : Part
 num : Int
 minus : Bool
 front : Option Int
noncomputable def qA2 (c : Nat) : Bool := 48 ≤ c && c ≤ 57
noncomputable def isWs (c : Nat) : Bool := c == 32 || (c == 9 || (c == 10 || c == 13))
noncomputable def qAc : Stand := ⟨.ahead, 0, false, none⟩
noncomputable def standLost : Stand := ⟨.lost, 0, false, none⟩
noncomputable def qBv (m : Bool) (n : Int) : Int := if m then -n else n
noncomputable def Part.isBL : Part → Bool
 | .behind | .lost => true
 | _ => false
noncomputable def Part.isAFB : Part → Bool
 | .ahead | .figures | .behind => true
 | _ => false
noncomputable def Part.isFB : Part → Bool
 | .figures | .behind => true
 | _ => false
noncomputable def qAd (d : Stand) (c : Nat) : Stand :=
 if qA2 c && !d.part.isBL then ⟨.figures, 10 * d.num + ((c : Int) - 48), d.minus, d.front⟩
 else if c == 95 && d.part == .figures then ⟨.bar, d.num, d.minus, d.front⟩
 else if (c == 43 || c == 45) && d.part == .ahead then ⟨.sign, 0, c == 45, d.front⟩
 else if isWs c && d.part.isAFB then ⟨if d.part == .ahead then .ahead else .behind, d.num, d.minus, d.front⟩
 else if c == 46 && d.part.isFB && d.front.isNone then ⟨.ahead, 0, false, some (qBv d.minus d.num)⟩
 else standLost
noncomputable def qAC (d : Stand) : OI := match d.front with
 | none => none
 | some f => if d.part.isFB then some (f, qBv d.minus d.num) else none
inductive Mode where
 | gap | word | sq | dq | kept | within
 deriving DecidableEq
structure Due where
 mode : Mode
 stand : Stand
 places : List OI
noncomputable def qAe (D : Due) (c : Nat) : Due := match D.mode with
 | .kept => ⟨.word, qAd D.stand c, D.places⟩
 | .within => ⟨.dq, qAd (if c == 34 || c == 92 then D.stand else qAd D.stand 92) c, D.places⟩
 | .sq => if c == 39 then ⟨.word, D.stand, D.places⟩ else ⟨.sq, qAd D.stand c, D.places⟩
 | .dq => if c == 34 then ⟨.word, D.stand, D.places⟩ else if c == 92 then ⟨.within, D.stand, D.places⟩ else ⟨.dq, qAd D.stand c, D.places⟩
 | .gap => if isWs c then ⟨.gap, qAc, D.places⟩ else if c == 39 then ⟨.sq, D.stand, D.places⟩ else if c == 34 then ⟨.dq, D.stand, D.places⟩ else if c == 92 then ⟨.kept, D.stand, D.places⟩ else ⟨.word, qAd D.stand c, D.places⟩
 | .word => if isWs c then ⟨.gap, qAc, D.places ++ [qAC D.stand]⟩ else if c == 39 then ⟨.sq, D.stand, D.places⟩ else if c == 34 then ⟨.dq, D.stand, D.places⟩ else if c == 92 then ⟨.kept, D.stand, D.places⟩ else ⟨.word, qAd D.stand c, D.places⟩
noncomputable def qBA (D : Due) : List OI × Option Bool := match D.mode with
 | .sq | .dq => ([], some true)
 | .kept | .within => ([], some false)
 | .word => (D.places ++ [qAC D.stand], none)
 | .gap => (D.places, none)
noncomputable def dueF (l : List Nat) : List OI × Option Bool := qBA (l.foldl qAe ⟨.gap, qAc, []⟩)
noncomputable def qBI : Str := "No closing quotation"
noncomputable def qD5 : Str := "No escaped character"
noncomputable def qBy : Option Bool → Str
 | none => ""
 | some true => qBI
 | some false => qD5
noncomputable def qAn : List Nat := [48, 49, 50, 51, 52, 53, 54, 55, 56, 57, 46, 32, 39, 34, 92, 45, 95, 9, 10, 13, 43, 35, 101, 44, 58, 120]
noncomputable def Part.str : Part → Str
 | .ahead => "ahead" | .figures => "figures" | .bar => "bar" | .sign => "sign" | .behind => "behind" | .lost => "lost"
noncomputable def Mode.str : Mode → Str
 | .gap => "gap" | .word => "word" | .sq => "'" | .dq => "\"" | .kept => "kept" | .within => "within"
noncomputable def ch (c : Nat) : Str := ⟨#[c]⟩
inductive AV where
 | none
 | bool (b : Bool)
 | int (n : Int)
 | str (x : Str)
 | chr (c : Nat)
 | lit (v : Value)
 | obj (i : Nat)
abbrev LV := List (Str × AV)
inductive AO where
 | tup (xs : List AV)
 | lst (xs : List AV)
 | inst (C : Addr) (fs : LV)
 | deq
 | sio (rest : List Nat)
 | std (d : Stand)
 | sit (rest : List Nat)
 | lit (i k : Nat)
 | any
noncomputable abbrev Rho := List (Addr × Addr)
noncomputable def vrel (ρ : Rho) : AV → Value → Prop
 | .none, v => v = .none
 | .bool b, v => v = .bool b
 | .int n, v => ∃ t, v = .int n t
 | .str x, v => ∃ t, v = .str x t
 | .chr c, v => ∃ t, v = .str (ch c) t
 | .lit u, v => v = u
 | .obj i, v => ∃ p, ρ[i]? = some p ∧ v = .ref p.1
theorem qBi {α : Type} {l l' : List α} (h : l <+: l') {i : Nat} {a : α} (e : l[i]? = some a) : l'[i]? = some a := by
 obtain ⟨t, rfl⟩ := h
 have := List.getElem?_eq_some_iff.mp e
 rw [List.getElem?_append_left this.1]; exact e
theorem nos {α : Type} {b : α} {P : Prop} (h : (none : Option α) = some b) : P := nomatch h
theorem vrel.mono {ρ ρ' : Rho} (h : ρ <+: ρ') : ∀ {a : AV} {v : Value}, vrel ρ a v → vrel ρ' a v
 | .none, _, e => e
 | .bool _, _, e => e
 | .int _, _, e => e
 | .str _, _, e => e
 | .chr _, _, e => e
 | .lit _, _, e => e
 | .obj _, _, ⟨p, e, q⟩ => ⟨p, qBi h e, q⟩
inductive All2 {α β : Type} (R : α → β → Prop) : List α → List β → Prop
 | nil : All2 R [] []
 | cons {a b l m} : R a b → All2 R l m → All2 R (a :: l) (b :: m)
theorem All2.imp {α β : Type} {R R' : α → β → Prop} (h : ∀ a b, R a b → R' a b) {l : List α} {m : List β} (r : All2 R l m) : All2 R' l m := by
 induction r with
 | nil => exact .nil
 | cons a _ ih => exact .cons (h _ _ a) ih
theorem All2.append {α β : Type} {R : α → β → Prop} {l l' : List α} {m m' : List β} (r : All2 R l m) (h : All2 R l' m') : All2 R (l ++ l') (m ++ m') := by
 induction r with
 | nil => exact h
 | cons a _ ih => exact .cons a ih
theorem All2.length {α β : Type} {R : α → β → Prop} {l : List α} {m : List β} (r : All2 R l m) : l.length = m.length := by
 induction r with
 | nil => rfl
 | cons _ _ ih => exact congrArg Nat.succ ih
theorem All2.get {α β : Type} {R : α → β → Prop} {l : List α} {m : List β} (r : All2 R l m) : ∀ {i : Nat} {a : α}, l[i]? = some a → ∃ b, m[i]? = some b ∧ R a b := by
 induction r with
 | nil => exact fun e => nomatch e
 | @cons a b l m h _ ih =>
  intro i c e
  cases i with
  | zero => cases e; exact ⟨b, rfl, h⟩
  | succ i => exact ih e
noncomputable abbrev vrels (ρ : Rho) : List AV → List Value → Prop := All2 (vrel ρ)
theorem qBP {ρ ρ' : Rho} (h : ρ <+: ρ') {l : List AV} {m : List Value} (r : vrels ρ l m) : vrels ρ' l m := r.imp fun _ _ x => x.mono h
def erel (ρ : Rho) (f : Str × AV) (e : DictEntry) : Prop := (∃ t, e.key = .str f.1 t) ∧ vrel ρ f.2 e.val
noncomputable abbrev qD8 (vs : List Value) (n : Nat) : Obj := { cls := .type "list", data := .seq vs.toArray n }
noncomputable abbrev qTk (vs : List Value) (n : Nat) : Obj := { cls := .type "tuple", data := .seq vs.toArray n }
noncomputable abbrev qGp : Obj := { cls := .type "collections.deque", data := .fields #[.none, .int 0 0] }
def instRel (ρ : Rho) (C : Addr) (fs : LV) (p : Addr × Addr) (h : Heap) : Prop :=
 h.get? p.1 = some (instObj C p.2) ∧ ∃ es n, h.get? p.2 = some (dictOf es n) ∧ All2 (erel ρ) fs es
noncomputable abbrev sioA : Addr := 604
noncomputable abbrev sNl : Str := Str.ofString "_StringIO__newline"
noncomputable abbrev sBuf : Str := Str.ofString "_StringIO__buf"
noncomputable abbrev sPos : Str := Str.ofString "_StringIO__pos"
noncomputable def qBV (buf : Str) (p : Nat) : LV := [(sNl, .str (Str.ofString "\n")), (sBuf, .str buf), (sPos, .int p)]
noncomputable def qSM : Option Int → AV
 | none => .none
 | some n => .int n
noncomputable def encS (d : Stand) : List AV := [.str d.part.str, .int d.num, .bool d.minus, qSM d.front]
def ORel (ρ : Rho) (o : AO) (p : Addr × Addr) (h : Heap) : Prop := match o with
 | .tup xs => ∃ vs n, h.get? p.1 = some (qTk vs n) ∧ vrels ρ xs vs
 | .lst xs => ∃ vs n, h.get? p.1 = some (qD8 vs n) ∧ vrels ρ xs vs
 | .inst C fs => instRel ρ C fs p h
 | .deq => h.get? p.1 = some qGp
 | .std d => ∃ vs n, h.get? p.1 = some (qTk vs n) ∧ vrels ρ (encS d) vs
 | .sit rest => ∃ x t i, h.IsStrIter p.1 "str_ascii_iterator" x t i ∧ x.cps.toList.drop i = rest
 | .lit i k => ∃ q, ρ[i]? = some q ∧ h.IsListIter p.1 q.1 k
 | .any => ∃ ob, h.get? p.1 = some ob
 | .sio rest => ∃ buf k, instRel ρ sioA (qBV buf k) p h ∧ k ≤ buf.length ∧ buf.length ≤ 100000 ∧ buf.cps.toList.drop k = rest
noncomputable def foot (o : AO) (p : Addr × Addr) : List Addr := match o with
 | .tup _ | .lst _ | .deq | .std _ | .sit _ | .lit _ _ | .any => [p.1]
 | .inst _ _ | .sio _ => [p.1, p.2]
structure Sta where
 loc : LV
 H : List AO
 orc : List Bool
 ori : List Bool := []
noncomputable abbrev R (α : Type) := Option (α × Sta × List Prop)
noncomputable def bnd {α β : Type} (x : R α) (f : α → Sta → R β) : R β := match x with
 | none => none
 | some (a, S, o) => match f a S with
  | none => none
  | some (b, S', o') => some (b, S', o ++ o')
noncomputable def rt {α : Type} (a : α) (S : Sta) : R α := some (a, S, [])
noncomputable abbrev Spec := List AV → List AO → Option (AV × List AO × List Prop)
noncomputable abbrev Cs := Addr → Option Spec
noncomputable def qHF (b : Bool) (S : Sta) : R Bool := match S.orc with
 | [] => rt b S
 | p :: r => some (p, { S with orc := r }, [b = p])
noncomputable def qEi (b : Bool) (S : Sta) : R Bool := match S.ori with
 | [] => rt b S
 | p :: r => some (p, { S with ori := r }, [b = p])
noncomputable def i? : AV → Option Int
 | .int n => some n
 | _ => none
noncomputable def s? : AV → Option Str
 | .str x => some x
 | _ => none
noncomputable def c? : AV → Option Nat
 | .chr c => some c
 | _ => none
noncomputable def o? : AV → Option Nat
 | .obj i => some i
 | _ => none
noncomputable def n? : AV → Option Unit
 | .none => some ()
 | _ => none
noncomputable def l? : AV → Option Value
 | .lit v => some v
 | _ => none
noncomputable def qNC : Value → Option Addr
 | .ref a => some a
 | _ => none
noncomputable def vty? : Value → Option String
 | .type a => some a
 | _ => none
noncomputable def rf? (a : AV) : Option Addr := (l? a).bind qNC
noncomputable def ty? (a : AV) : Option String := (l? a).bind vty?
noncomputable def lst? : AO → Option (List AV)
 | .lst xs => some xs
 | _ => none
noncomputable def tup? : AO → Option (List AV)
 | .tup xs => some xs
 | _ => none
noncomputable def qMm : AO → Option (Addr × LV)
 | .inst C fs => some (C, fs)
 | _ => none
noncomputable def sio? : AO → Option (List Nat)
 | .sio r => some r
 | _ => none
noncomputable def deq? : AO → Option Unit
 | .deq => some ()
 | _ => none
noncomputable def one? {α : Type} : List α → Option α
 | [] => none
 | a :: r => match r with
  | [] => some a
  | _ :: _ => none
noncomputable def qUu {α : Type} : List α → Option (α × α)
 | [] => none
 | a :: r => (one? r).map fun b => (a, b)
noncomputable def alt {α : Type} (x y : Option α) : Option α := match x with
 | some a => some a
 | none => y
noncomputable def two {α β γ : Type} (p : AV → Option α) (q : AV → Option β) (a b : AV) (f : α → β → Option γ) : Option γ := (p a).bind fun x => (q b).bind fun y => f x y
noncomputable def qVq (op : Operator) (a b : AV) (S : Sta) : R AV := match op with
 | .Add => alt (two i? i? a b fun x y => rt (.int (x + y)) S) (two s? s? a b fun x y => some (.str (x ++ y), S, [x.length + y.length ≤ sizeLine]))
 | .Mult => two i? i? a b fun x y => some (.int (x * y), S, [IntMulOk x y])
 | .Mod => two i? i? a b fun x y => if y = 0 then none else rt (.int (x.fmod y)) S
 | .FloorDiv => two i? i? a b fun x y => some (.int (x.fdiv y), S, [y ≠ 0, Builtin.divisionGoesByPylong x y = false])
 | _ => none
noncomputable def inpL (i j : Nat) (S : Sta) : R AV := if i = j then none else (S.H[i]?.bind lst?).bind fun xs => (S.H[j]?.bind lst?).bind fun ys =>
 some (.obj i, { S with H := S.H.set i (.lst (xs ++ ys)) }, [xs.length + ys.length ≤ sizeLine])
noncomputable def qPB (op : Operator) (a b : AV) (S : Sta) : R AV := match op with
 | .Add => alt (two i? i? a b fun x y => rt (.int (x + y)) S) (alt (two s? s? a b fun x y => some (.str (x ++ y), S, [x.length + y.length ≤ sizeLine]))
  (alt (two s? c? a b fun x c => some (.str (x ++ ch c), S, [x.length + 1 ≤ sizeLine])) (two o? o? a b fun i j => inpL i j S)))
 | _ => none
noncomputable def isNone : AV → Option Bool
 | .none => some true
 | .lit _ => none
 | .chr _ => none
 | _ => some false
noncomputable def qQS (a b : AV) : Option Bool := alt ((n? b).bind fun _ => isNone a) (two ty? ty? a b fun x y => some (x == y))
noncomputable def qUn (o : Option Obj) : Bool := match o with
 | some o => o.cls != .type "tuple"
 | none => false
def qEv (a : Addr) : Prop := a ≠ 753 ∧ ∀ P, qUn ((H1 P).get? a) = true
noncomputable def isAV (neg : Bool) (a b : AV) (S : Sta) : R AV := alt (two rf? rf? a b fun x y => some (.bool (xor neg (x == y)), S, [qEv x, qEv y]))
 ((qQS a b).bind fun b => rt (.bool (xor neg b)) S)
noncomputable def bI (b : Bool) (S : Sta) : R AV := bnd (qEi b S) fun c S => rt (.bool c) S
noncomputable def bB (b : Bool) (S : Sta) : R AV := bnd (qHF b S) fun c S => rt (.bool c) S
noncomputable def qQq (op : CmpOp) (a b : AV) (S : Sta) : R AV := match op with
 | .Eq => alt (two s? s? a b fun x y => bI (x.cps.toList == y.cps.toList) S) (alt (two c? s? a b fun c y => bB ((ch c).cps.toList == y.cps.toList) S)
  (alt (two s? c? a b fun y c => bB (y.cps.toList == (ch c).cps.toList) S) (alt (two n? n? a b fun _ _ => rt (.bool true) S) (alt (two s? n? a b fun _ _ => rt (.bool false) S)
  (two i? i? a b fun x y => bI (x == y) S)))))
 | .NotEq => alt (two s? s? a b fun x y => rt (.bool (x.cps.toList != y.cps.toList)) S) (alt (two c? s? a b fun c y => bB ((ch c).cps.toList != y.cps.toList) S)
  (two i? i? a b fun x y => bI (x != y) S))
 | .Gt => two i? i? a b fun x y => bI (decide (y < x)) S
 | .GtE => two i? i? a b fun x y => bI (decide (y ≤ x)) S
 | .Lt => two i? i? a b fun x y => bI (decide (x < y)) S
 | .In => alt (two s? s? a b fun x y => rt (.bool (Txt.contains y x)) S) (two c? s? a b fun x y => bB (Txt.contains y (ch x)) S)
 | .NotIn => alt (two s? s? a b fun x y => rt (.bool (!Txt.contains y x)) S) (two c? s? a b fun x y => bB (!Txt.contains y (ch x)) S)
 | .Is => isAV false a b S
 | .IsNot => isAV true a b S
 | _ => none
noncomputable def qDT (a : AV) (S : Sta) : R Bool := match a with
 | .none => rt false S
 | .bool b => rt b S
 | .int n => rt (n != 0) S
 | .str x => bnd (some ((), S, [x.length ≤ sizeLine])) fun _ S => qEi ((x.length : Int) != 0) S
 | .chr _ => rt true S
 | .obj i => (S.H[i]?.bind deq?).bind fun _ => rt false S
 | _ => none
noncomputable def qNg : Const → Option AV
 | .none => some .none
 | .bool b => some (.bool b)
 | .int i => some (.int i)
 | .str x => some (.str x)
 | _ => none
noncomputable def qWN (K : Frag) (x : Str) (q : Option Value) : Option AV := match q with
 | some v => some (.lit v)
 | none => ((nsIn K builtinsNs x).bind id).map .lit
noncomputable def qUW (K : Frag) (x : Str) : Option AV := (nsIn K mainGlobals x).bind (qWN K x)
noncomputable def qAi (K : Frag) (sc : Scope) (x : Str) (S : Sta) : R AV := if x == ("__debug__" : Str) then none else match sc.names.lookup x with
 | some .local => (S.loc.lookup x).bind fun v => rt v S
 | some .globalImplicit => (qUW K x).bind fun v => rt v S
 | _ => none
noncomputable def qCz : PySem.Expr → Option Str
 | .Name x _ => some x
 | _ => none
noncomputable def qIQ : PySem.Expr → Option (PySem.Expr × Str × Pos)
 | .Attribute e a p => some (e, a, p)
 | _ => none
noncomputable def qRb : PySem.Expr → Option (List PySem.Expr)
 | .Tuple es _ _ => some es
 | _ => none
noncomputable def qUB : PySem.Expr → Option (List PySem.Expr)
 | .List es _ => some es
 | _ => none
noncomputable def csE? : PySem.Expr → Option Str
 | .Constant c _ _ => match c with
  | .str x => some x
  | _ => none
 | _ => none
noncomputable def qBG : PySem.Expr → Bool
 | .Starred .. => false
 | _ => true
noncomputable def evL (f : PySem.Expr → Sta → R AV) : List PySem.Expr → Sta → R (List AV)
 | [], S => rt [] S
 | e :: r, S => if qBG e then bnd (f e S) fun v S => bnd (evL f r S) fun vs S => rt (v :: vs) S else none
noncomputable def qOY (o : AO) (S : Sta) : R AV := rt (.obj S.H.length) { S with H := S.H ++ [o] }
noncomputable def qCV (cs : Cs) (f : Addr) (args : List AV) (S : Sta) : R AV :=
 (cs f).bind fun sp => (sp args S.H).bind fun r => some (r.1, { S with H := r.2.1 }, r.2.2)
noncomputable def qSN (o : Option (Option Value)) : Option Addr := o.bind fun o => o.bind qNC
noncomputable def fno? (o : Option (Option Value)) : Bool := match o with
 | some o => o.isNone
 | none => false
noncomputable def hd? (o : Option (List Value)) : Option Addr := (o.bind List.head?).bind qNC
noncomputable def qVv (K : Frag) (cs : Cs) (v : AV) (a : Str) (C : Addr) (fs : LV) (S : Sta) : R AV :=
 if fno? (findIn K (.ref C) a) then (fs.lookup a).bind fun w => rt w S else
  (qSN (findIn K (.ref C) a)).bind fun p => if specialIn K (.ref p) "__get__" == some (some (.builtin "property.__get__")) && takesIn K (.ref p) == some true then
   (hd? (recIn K p "property")).bind fun fget => qCV cs fget [v] S else none
noncomputable def pg (C : Addr) : Bool := C == 739 || C == 604
noncomputable def qNp (K : Frag) (cs : Cs) (v : AV) (a : Str) (S : Sta) : R AV := (o? v).bind fun i => (S.H[i]?.bind qMm).bind fun q =>
 if pg q.1 && hasDictIn K q.1 then qVv K cs v a q.1 q.2 S else none
noncomputable def qL0 : AV → Bool
 | .lit v => handedIn v
 | _ => true
inductive Mt where
 | fn (f : Addr)
 | find
 | append
 | onew
noncomputable def fnOf (K : Frag) (C : Addr) (m : Str) : Option Mt := (qSN (findIn K (.ref C) m)).bind fun f => if isFn K (.ref f) && keepIn K (.ref f) then some (.fn f) else none
noncomputable def mI (K : Frag) (v : AV) (m : Str) (S : Sta) : Option Mt := (o? v).bind fun i => (S.H[i]?.bind qMm).bind fun q => if pg q.1 && (q.2.lookup m).isNone then fnOf K q.1 m else none
noncomputable def mS (K : Frag) (v : AV) (m : Str) (S : Sta) : Option Mt := (o? v).bind fun i => (S.H[i]?.bind sio?).bind fun _ => if pg sioA && !([sNl, sBuf, sPos].contains m) then fnOf K sioA m else none
noncomputable def mF (v : AV) (m : Str) : Option Mt := (s? v).bind fun _ => if m == Str.ofString "find" then some .find else none
noncomputable def mA (v : AV) (m : Str) (S : Sta) : Option Mt := (o? v).bind fun i => (S.H[i]?.bind lst?).bind fun _ => if m == Str.ofString "append" then some .append else none
noncomputable def mN (v : AV) (m : Str) : Option Mt := (ty? v).bind fun u => if u == "object" && m == Str.ofString "__new__" then some .onew else none
noncomputable def qQO (K : Frag) (v : AV) (m : Str) (S : Sta) : Option Mt := alt (mI K v m S) (alt (mS K v m S) (alt (mF v m) (alt (mA v m S) (mN v m))))
noncomputable def qTz (a : AV) : Option Str := alt (s? a) ((c? a).map ch)
noncomputable def qVa (v : AV) (args : List AV) (S : Sta) : R AV := (s? v).bind fun x => (one? args).bind fun y => (qTz y).bind fun ys => rt (.int (Txt.find x ys)) S
noncomputable def qIS (v : AV) (args : List AV) (S : Sta) : R AV := (o? v).bind fun i => (one? args).bind fun y => (S.H[i]?.bind lst?).bind fun ys =>
 some (.none, { S with H := S.H.set i (.lst (ys ++ [y])) }, [ys.length < sizeLine])
noncomputable def qQL (args : List AV) (S : Sta) : R AV := (one? args).bind fun u => (rf? u).bind fun a => if a = 604 then qOY (.inst 604 []) S else none
noncomputable def qEI (cs : Cs) (v : AV) (mt : Mt) (args : List AV) (S : Sta) : R AV := match mt with
 | .fn f => qCV cs f (v :: args) S
 | .find => qVa v args S
 | .append => qIS v args S
 | .onew => qQL args S
noncomputable def qEQ : PySem.Expr → Bool
 | .Name .. | .Constant .. | .Attribute .. => true
 | _ => false
noncomputable def qNm (i : String) (args : List AV) (S : Sta) : R AV :=
 if i = "len" then (one? args).bind fun a => (s? a).bind fun x => some (.int x.length, S, [x.length ≤ sizeLine])
 else if i = "isinstance" then (qUu args).bind fun p => (s? p.1).bind fun _ => (ty? p.2).bind fun t => if t = "str" then rt (.bool true) S else none
 else none
noncomputable def qQA (i : String) (args : List AV) (S : Sta) : R AV :=
 if i = "collections.deque" then (if args.isEmpty then qOY .deq S else none)
 else (one? args).bind fun a => if i = "type" then alt ((i? a).bind fun _ => rt (.lit (.type "int")) S) ((s? a).bind fun _ => rt (.lit (.type "str")) S)
  else if i = "int" then (i? a).bind fun x => rt (.int x) S else none
noncomputable def qTb (K : Frag) (cs : Cs) (f : Value) (args : List AV) (S : Sta) : R AV := match f with
 | .ref a => if keepIn K (.ref a) then qCV cs a args S else none
 | .builtin i => qNm i args S
 | .type i => qQA i args S
 | _ => none
noncomputable def qQ1 (K : Frag) (cs : Cs) (f : AV) (args : List AV) (S : Sta) : R AV := (l? f).bind fun u => qTb K cs u args S
noncomputable def qQR (a i : AV) (S : Sta) : R AV := alt (two s? i? a i fun x k => some (.str (Txt.item x k), S, [0 ≤ k ∧ k < x.length ∧ x.length ≤ sizeLine]))
 (two o? i? a i fun j k => alt ((S.H[j]?.bind lst?).bind fun xs => some (xs.getD k.toNat .none, S, [0 ≤ k ∧ k < xs.length ∧ k < 2 ^ 63]))
  ((S.H[j]?.bind tup?).bind fun xs => some (xs.getD k.toNat .none, S, [0 ≤ k ∧ k < xs.length ∧ k < 2 ^ 63])))
noncomputable def qE2 : PySem.Expr → Option (Option PySem.Expr × Option PySem.Expr × Option PySem.Expr)
 | .Slice lo hi st _ => some (lo, hi, st)
 | _ => none
noncomputable def qHl (e : PySem.Expr) : Bool := (qE2 e).isSome
noncomputable def optE (f : PySem.Expr → Sta → R AV) (e : Option PySem.Expr) (S : Sta) : R (Option Int) := match e with
 | none => rt none S
 | some e => bnd (f e S) fun v S => (i? v).bind fun n => rt (some n) S
noncomputable def qKV (a : AV) (lo hi : Option Int) (S : Sta) : R AV := (s? a).bind fun x => some (.str (Txt.slice x lo hi), S, [x.length ≤ sizeLine])
noncomputable def qCm : List PySem.Expr → Option (List Str)
 | [] => some []
 | e :: r => (csE? e).bind fun x => (qCm r).map (x :: ·)
structure InC where
 neg : Bool
 tup : Bool
 zs : List Str
noncomputable def qWM : CmpOp → Option Bool
 | .In => some false
 | .NotIn => some true
 | _ => none
noncomputable def qCt (op : CmpOp) (q : PySem.Expr) : Option InC := (qWM op).bind fun b =>
 alt ((qUB q).bind fun es => (qCm es).map fun zs => ⟨b, false, zs⟩) (if b then none else (qRb q).bind fun es => (qCm es).map fun zs => ⟨b, true, zs⟩)
noncomputable def inDo (k : InC) (a : AV) (S : Sta) : R AV := (s? a).bind fun x => if k.zs.length ≤ 1000 then rt (.bool (xor k.neg (k.zs.any (· == x)))) S else none
structure Evs where
 e : PySem.Expr → Sta → R AV
 t : PySem.Expr → Sta → R Bool
noncomputable def unAV (r : Evs) (op : UnaryOp) (x : PySem.Expr) (S : Sta) : R AV := match op with
 | .USub => bnd (r.e x S) fun a S => (i? a).bind fun n => rt (.int (-n)) S
 | .Not => bnd (r.e x S) fun a S => bnd (qDT a S) fun b S => rt (.bool (!b)) S
 | _ => none
noncomputable def cmpE (r : Evs) (l : PySem.Expr) (op : CmpOp) (q : PySem.Expr) (S : Sta) : R AV := match qCt op q with
 | some k => bnd (r.e l S) fun a S => inDo k a S
 | none => if behindInMarks op q then none else bnd (r.e l S) fun a S => bnd (r.e q S) fun b S => qQq op a b S
noncomputable def qVp (K : Frag) (cs : Cs) (sc : Scope) (r : Evs) (f : PySem.Expr) (args : List PySem.Expr) (pos : Pos) (S : Sta) : R AV :=
 alt ((qCz f).bind fun x => bnd (qAi K sc x S) fun f S => bnd (evL r.e args S) fun vs S => qQ1 K cs f vs S)
 ((qIQ f).bind fun t => if qEQ t.1 && t.2.2.endLine == pos.line && args.length < 20 then
   bnd (r.e t.1 S) fun v S => (qQO K v t.2.1 S).bind fun mt => bnd (evL r.e args S) fun vs S => qEI cs v mt vs S
  else none)
noncomputable def subE (r : Evs) (q i : PySem.Expr) (S : Sta) : R AV := match qE2 i with
 | some t => if t.2.2.isNone then bnd (r.e q S) fun a S => bnd (optE r.e t.1 S) fun l S => bnd (optE r.e t.2.1 S) fun h S => qKV a l h S else none
 | none => bnd (r.e q S) fun a S => bnd (r.e i S) fun b S => qQR a b S
noncomputable def newE (b : Bool) (r : Evs) (es : List PySem.Expr) (S : Sta) : R AV := bnd (evL r.e es S) fun vs S => if es.length ≤ 1000 then qOY (if b then .tup vs else .lst vs) S else none
noncomputable def qRp (K : Frag) (cs : Cs) (sc : Scope) (r : Evs) (e : PySem.Expr) (S : Sta) : R AV := match e with
 | .Constant c _ _ => (qNg c).bind fun v => rt v S
 | .Name x _ => qAi K sc x S
 | .BinOp l op q _ => bnd (r.e l S) fun a S => bnd (r.e q S) fun b S => qVq op a b S
 | .UnaryOp op x _ => unAV r op x S
 | .IfExp t a b _ => bnd (r.t t S) fun c S => if c then r.e a S else r.e b S
 | .Compare l ops qs _ => (one? ops).bind fun op => (one? qs).bind fun q => cmpE r l op q S
 | .Tuple es _ _ => newE true r es S
 | .List es _ => newE false r es S
 | .Attribute q a _ => (qCz q).bind fun x => bnd (qAi K sc x S) fun v S => bnd (qNp K cs v a S) fun w S => if qL0 w then rt w S else none
 | .Call f args kws pos => if kws.isEmpty then qVp K cs sc r f args pos S else none
 | .Subscript q i _ => subE r q i S
 | _ => none
noncomputable def allT (r : Evs) (op : BoolOp) : List PySem.Expr → Sta → R Bool
 | [], S => rt (op == .And) S
 | x :: rest, S => bnd (r.t x S) fun b S => if b == (op == .And) then allT r op rest S else rt b S
noncomputable def cmpT (r : Evs) (l : PySem.Expr) (op : CmpOp) (q : PySem.Expr) (S : Sta) : R Bool := match qCt op q with
 | some k => bnd (r.e l S) fun a S => bnd (inDo k a S) fun v S => qDT v S
 | none => if behindInMarks op q then none else bnd (r.e l S) fun a S => bnd (r.e q S) fun b S => bnd (qQq op a b S) fun v S => qDT v S
noncomputable def qUT : UnaryOp → Bool
 | .Not => true
 | _ => false
noncomputable def qLw (K : Frag) (cs : Cs) (sc : Scope) (r : Evs) (e : PySem.Expr) (S : Sta) : R Bool := bnd (qRp K cs sc r e S) fun v S => qDT v S
noncomputable def stepT (K : Frag) (cs : Cs) (sc : Scope) (r : Evs) (e : PySem.Expr) (S : Sta) : R Bool := match e with
 | .UnaryOp op x _ => if qUT op then bnd (r.t x S) fun b S => rt (!b) S else qLw K cs sc r e S
 | .BoolOp op vs _ => allT r op vs S
 | .IfExp t a b _ => bnd (r.t t S) fun c S => if c then r.t a S else r.t b S
 | .Compare l ops qs _ => (one? ops).bind fun op => (one? qs).bind fun q => cmpT r l op q S
 | e => qLw K cs sc r e S
noncomputable def evs (K : Frag) (cs : Cs) (sc : Scope) : Nat → Evs
 | 0 => ⟨fun _ _ => none, fun _ _ => none⟩
 | n + 1 => ⟨qRp K cs sc (evs K cs sc n), stepT K cs sc (evs K cs sc n)⟩
inductive Fl where
 | next | brk | cont
 | ret (v : AV)
 | exc (m : Str)
noncomputable def qBm (x : Str) (v : AV) : LV → LV
 | [] => [(x, v)]
 | p :: r => if p.1 == x then (x, v) :: r else p :: qBm x v r
noncomputable def qDZ (K : Frag) (o : AV) (a : Str) (v : AV) (S : Sta) : R Unit := (o? o).bind fun i => (S.H[i]?.bind qMm).bind fun q =>
 if findIn K (.ref q.1) "__setattr__" == some (some (.builtin "object.__setattr__")) && plainOver K q.1 && takerIn K q.1 a == some none && hasDictIn K q.1 && q.2.length < 900 then
  rt () { S with H := S.H.set i (.inst q.1 (qBm a v q.2)) }
 else none
noncomputable def qA0 (sc : Scope) (x : Str) (v : AV) (S : Sta) : R Unit := match sc.names.lookup x with
 | some .local => rt () { S with loc := qBm x v S.loc }
 | _ => none
noncomputable def qBf (sc : Scope) : List PySem.Expr → List AV → Sta → R Unit
 | [], vs, S => if vs.isEmpty then rt () S else none
 | e :: es, vs, S => (qCz e).bind fun x => vs.head?.bind fun v => bnd (qA0 sc x v S) fun _ S => qBf sc es vs.tail S
noncomputable def qEP : PySem.Expr → Bool
 | .ListComp .. | .SetComp .. | .DictComp .. => true
 | _ => false
noncomputable def qWn : AV → Bool
 | .obj _ => false
 | _ => true
noncomputable def qUF (g : Sta → R Fl) (f : Fl) (S : Sta) : R Fl := match f with
 | .next => g S
 | .cont => g S
 | .brk => rt .next S
 | .ret v => rt (.ret v) S
 | .exc _ => none
noncomputable def qFG (t : Sta → R Bool) (b : Sta → R Fl) : Nat → Sta → R Fl
 | 0, _ => none
 | k + 1, S => bnd (t S) fun c S => if c then bnd (b S) fun f S => qUF (qFG t b k) f S else rt .next S
noncomputable def setS (K : Frag) (sc : Scope) (x : Evs) (y a : Str) (e : PySem.Expr) (S : Sta) : R Fl :=
 bnd (x.e e S) fun v S => bnd (qAi K sc y S) fun o S => bnd (qDZ K o a v S) fun _ S => rt .next S
noncomputable def unpS (K : Frag) (sc : Scope) (es : List PySem.Expr) (y : Str) (S : Sta) : R Fl :=
 bnd (qAi K sc y S) fun v S => (o? v).bind fun i => (S.H[i]?.bind tup?).bind fun xs => bnd (qBf sc es xs S) fun _ S => rt .next S
noncomputable def qNq (K : Frag) (sc : Scope) (x : Evs) (t e : PySem.Expr) (S : Sta) : R Fl := if qEP e then none else
 alt ((qCz t).bind fun y => bnd (x.e e S) fun v S => bnd (qA0 sc y v S) fun _ S => rt .next S)
 (alt ((qIQ t).bind fun q => (qCz q.1).bind fun y => setS K sc x y q.2.1 e S)
 ((qRb t).bind fun es => (qCz e).bind fun y => unpS K sc es y S))
noncomputable def qQ0 : PySem.Expr → Option (PySem.Expr × List PySem.Expr × List Keyword)
 | .Call f args kws _ => some (f, args, kws)
 | _ => none
noncomputable def qQI (K : Frag) (sc : Scope) (x : Evs) (e : PySem.Expr) (S : Sta) : R Fl := (qQ0 e).bind fun t => (qCz t.1).bind fun y => (one? t.2.1).bind fun e =>
 if t.2.2.isEmpty && qBG e then bnd (qAi K sc y S) fun f S => (ty? f).bind fun i => if i = "ValueError" then bnd (x.e e S) fun v S => (s? v).bind fun m => rt (.exc m) S else none else none
noncomputable def qVt (K : Frag) (sc : Scope) (x : Evs) (y : Str) (op : Operator) (e : PySem.Expr) (S : Sta) : R Fl :=
 bnd (qAi K sc y S) fun a S => bnd (x.e e S) fun b S => bnd (qPB op a b S) fun v S => bnd (qA0 sc y v S) fun _ S => rt .next S
noncomputable def qVu (K : Frag) (cs : Cs) (sc : Scope) (x : Evs) (y a : Str) (op : Operator) (e : PySem.Expr) (S : Sta) : R Fl :=
 bnd (qAi K sc y S) fun o S => bnd (qNp K cs o a S) fun u S => bnd (x.e e S) fun b S => if qWn u then bnd (qPB op u b S) fun v S => bnd (qDZ K o a v S) fun _ S => rt .next S else none
noncomputable def retS (x : Evs) (e : Option PySem.Expr) (S : Sta) : R Fl := match e with
 | none => rt (.ret .none) S
 | some e => bnd (x.e e S) fun v S => rt (.ret v) S
noncomputable def qVi (K : Frag) (cs : Cs) (sc : Scope) (x : Evs) (r : List Stmt → Sta → R Fl) (st : Stmt) (S : Sta) : R Fl := match st with
 | .Pass _ => rt .next S
 | .Expr e _ => if qEP e then none else bnd (x.e e S) fun _ S => rt .next S
 | .Break _ => rt .brk S
 | .Continue _ => rt .cont S
 | .Return e _ => retS x e S
 | .If t a b _ => bnd (x.t t S) fun c S => if c then r a S else r b S
 | .While t b els _ => if els.isEmpty then qFG (x.t t) (r b) 20 S else none
 | .Raise ex ca _ => if ca.isNone then ex.bind fun e => qQI K sc x e S else none
 | .Assign ts e _ => (one? ts).bind fun t => qNq K sc x t e S
 | .AugAssign t op e _ => alt ((qCz t).bind fun y => qVt K sc x y op e S) ((qIQ t).bind fun q => (qCz q.1).bind fun y => qVu K cs sc x y q.2.1 op e S)
 | _ => none
noncomputable def qMk : Fl → Bool
 | .next => true
 | _ => false
noncomputable def qP4 (r : Stmt → Sta → R Fl) : List Stmt → Sta → R Fl
 | [], S => rt .next S
 | st :: rest, S => bnd (r st S) fun f S => if qMk f then qP4 r rest S else rt f S
noncomputable def exN (K : Frag) (cs : Cs) (sc : Scope) (x : Evs) : Nat → Stmt → Sta → R Fl
 | 0, _, _ => none
 | n + 1, st, S => qVi K cs sc x (qP4 (exN K cs sc x n)) st S
noncomputable def run (K : Frag) (cs : Cs) (sc : Scope) (body : List Stmt) (S : Sta) : R Fl := qP4 (exN K cs sc (evs K cs sc 30) 30) body S
noncomputable def KK (P : Params) : Frag := [(0, o0 P), (2, o2v1 P), (3, o3v7 P), (13, o13 P), (14, o14 P), (16, o16 P), (17, o17 P), (21, o21 P), (22, o22 P), (24, o24 P), (25, o25 P), (43, o43 P), (44, o44 P), (50, o50 P), (51, o51 P), (56, o56 P), (62, o62 P), (63, o63 P), (69, o69 P), (70, o70 P), (96, o96 P), (97, o97 P), (99, o99 P), (100, qQN P), (101, o101 P), (102, o102 P), (103, o103 P), (126, o126 P), (127, qQM P), (367, o367 P), (373, o373 P), (374, o374 P), (380, o380 P), (381, o381 P), (387, o387 P), (388, o388 P), (394, o394 P), (395, o395 P), (401, o401 P), (402, o402 P), (408, o408 P), (409, o409 P), (410, o410 P), (416, o416 P), (417, o417 P), (418, o418 P), (424, o424 P), (425, o425 P), (426, o426 P), (432, o432 P), (433, o433 P), (434, o434 P), (440, o440 P), (441, o441 P), (442, o442 P), (448, o448 P), (449, o449 P), (455, o455 P), (456, o456 P), (462, o462 P), (463, o463 P), (469, o469 P), (470, o470 P), (476, o476 P), (477, o477 P), (483, o483 P), (484, o484 P), (490, o490 P), (491, o491 P), (497, o497 P), (498, o498 P), (504, o504 P), (505, o505 P), (511, o511 P), (512, o512 P), (518, o518 P), (519, o519 P), (525, o525 P), (526, o526 P), (527, o527 P), (533, o533 P), (534, o534 P), (535, o535 P), (541, o541 P), (542, o542 P), (543, o543 P), (549, o549 P), (550, o550 P), (551, o551 P), (557, o557 P), (558, o558 P), (559, o559 P), (565, o565 P), (566, o566 P), (572, o572 P), (573, o573 P), (579, o579 P), (580, o580 P), (586, o586 P), (587, o587 P), (593, o593 P), (594, o594 P), (600, o600 P), (601, o601 P), (603, o603 P), (604, o604 P), (612, o612 P), (613, o613 P), (619, o619 P), (620, o620 P), (626, o626 P), (627, o627 P), (633, o633 P), (634, o634 P), (640, o640 P), (641, o641 P), (647, o647 P), (648, o648 P), (656, o656 P), (662, o662 P), (663, o663 P), (669, o669 P), (670, o670 P), (671, o671 P), (677, o677 P), (678, o678 P), (679, o679 P), (685, o685 P), (686, o686 P), (692, o692 P), (693, o693 P), (699, o699 P), (700, o700 P), (706, o706 P), (707, o707 P), (713, o713 P), (714, o714 P), (715, o715 P), (721, o721 P), (722, o722 P), (728, o728 P), (729, o729 P), (735, o735 P), (736, o736 P), (738, o738 P), (739, o739 P), (740, o740 P), (741, o741 P), (744, o744 P), (750, o750 P), (751, o751 P), (757, o757 P), (758, o758 P), (759, o759 P), (765, o765 P), (766, o766 P), (772, o772 P), (773, o773 P), (779, o779 P), (780, o780 P), (786, o786 P), (787, o787 P), (793, o793 P), (794, o794 P), (798, o798 P), (799, o799 P), (805, o805 P), (806, o806 P), (810, o810 P), (811, o811 P), (817, o817 P), (818, o818 P), (822, o822 P), (823, o823 P)]
noncomputable def kkA : List Addr := [0, 2, 3, 13, 14, 16, 17, 21, 22, 24, 25, 43, 44, 50, 51, 56, 62, 63, 69, 70, 96, 97, 99, 100, 101, 102, 103, 126, 127, 367, 373, 374, 380, 381, 387, 388, 394, 395, 401, 402, 408, 409, 410, 416, 417, 418, 424, 425, 426, 432, 433, 434, 440, 441, 442, 448, 449, 455, 456, 462, 463, 469, 470, 476, 477, 483, 484, 490, 491, 497, 498, 504, 505, 511, 512, 518, 519, 525, 526, 527, 533, 534, 535, 541, 542, 543, 549, 550, 551, 557, 558, 559, 565, 566, 572, 573, 579, 580, 586, 587, 593, 594, 600, 601, 603, 604, 612, 613, 619, 620, 626, 627, 633, 634, 640, 641, 647, 648, 656, 662, 663, 669, 670, 671, 677, 678, 679, 685, 686, 692, 693, 699, 700, 706, 707, 713, 714, 715, 721, 722, 728, 729, 735, 736, 738, 739, 740, 741, 744, 750, 751, 757, 758, 759, 765, 766, 772, 773, 779, 780, 786, 787, 793, 794, 798, 799, 805, 806, 810, 811, 817, 818, 822, 823]
theorem qSx (P : Params) : kkA = (KK P).map (·.1) := by kernel_rfl
theorem qWJ (P : Params) : kkA.map (H1 P).get? = (KK P).map fun p => some p.2 := by kernel_rfl
theorem qUQ (P : Params) : (KK P).In (H1 P) := Frag.in_of (qSx P) (qWJ P)
def Kept (w : World) (h : Heap) : Prop := ∀ b o, (H1 w.params).get? b = some o → (b ≠ 753 → h.get? b = some o) ∧ ∃ ob, h.get? b = some ob
theorem KeptA.weak {w : World} {h : Heap} (k : KeptA w h) : Kept w h := fun b o e => ⟨fun _ => k b o e, o, k b o e⟩
theorem Kept.keeps {w : World} {h h' : Heap} (k : Kept w h) (x : ∀ b o, h.get? b = some o → h'.get? b = some o) : Kept w h' := fun b o e => ⟨fun n => x b o ((k b o e).1 n), let ⟨ob, z⟩ := (k b o e).2; ⟨ob, x b ob z⟩⟩
theorem qUP (P : Params) : (KK P).lookup 753 = none := by kernel_rfl
theorem Kept.kk {w : World} {h : Heap} (k : Kept w h) : (KK w.params).In h := fun a o e => (k a o (qUQ w.params a o e)).1 fun z => by
 subst z
 rw [qUP] at e; cases e
noncomputable def Hx (P : Params) : Heap := hideAll (H1 P) [753]
theorem Kept.hx {w : World} {h : Heap} (k : Kept w h) : ∀ b o, (Hx w.params).get? b = some o → h.get? b = some o := fun b o e => (k b o (of_hideAll _ e)).1 fun z => by
 rw [show (Hx w.params).get? b = none from hideAll_none _ (by rw [z]; exact .head _)] at e
 cases e
theorem qHk (P : Params) : (KK P).In (Hx P) := fun a o e => hideAll_get _ (qUQ P a o e) fun q => by
 rw [ls q, qUP] at e; cases e
theorem qNv (P : Params) : (Hx P).objs.size = 824 := (hideAll_size _ _).trans (by kernel_rfl)
noncomputable def feet : List AO → Rho → List Addr
 | o :: H, p :: ρ => foot o p ++ feet H ρ
 | _, _ => []
theorem qAo : ∀ {H : List AO} {ρ : Rho} {i : Nat} {o : AO} {p : Addr × Addr}, H[i]? = some o → ρ[i]? = some p → ∀ a ∈ foot o p, a ∈ feet H ρ
 | [], _, i, _, _, h, _, _, _ => by simp at h
 | _ :: _, [], i, _, _, _, h, _, _ => by simp at h
 | o :: H, p :: ρ, 0, _, _, h, h', a, ha => by
  simp at h h'; subst h h'; exact List.mem_append_left _ ha
 | o :: H, p :: ρ, i + 1, _, _, h, h', a, ha => List.mem_append_right _ (qAo (H := H) (ρ := ρ) (by simpa using h) (by simpa using h') a ha)
theorem qAw : ∀ {H : List AO} {ρ : Rho} {a : Addr}, a ∈ feet H ρ → ∃ (i : Nat) (o : AO) (p : Addr × Addr), H[i]? = some o ∧ ρ[i]? = some p ∧ a ∈ foot o p
 | [], _, _, h => nomatch h
 | _ :: _, [], _, h => nomatch h
 | o :: H, p :: ρ, a, h => by
  rcases List.mem_append.mp h with h | h
  ·exact ⟨0, o, p, rfl, rfl, h⟩
  ·refine oz33 (qAw h) fun i o' p' h1 h2 h3 => ?_
   exact ⟨i + 1, o', p', by simpa using h1, by simpa using h2, h3⟩
theorem qDG : ∀ {H : List AO} {ρ : Rho} {i : Nat} {o o' : AO}, H[i]? = some o → (∀ p, foot o' p = foot o p) → feet (H.set i o') ρ = feet H ρ
 | [], _, i, _, _, h, _ => by simp at h
 | o :: H, [], 0, _, _, h, e => rfl
 | o :: H, [], i + 1, _, _, h, e => rfl
 | o :: H, p :: ρ, 0, _, _, h, e => by simp at h; subst h; show foot _ p ++ _ = foot _ p ++ _; rw [e]
 | o :: H, p :: ρ, i + 1, _, _, h, e => by
  show foot o p ++ feet (H.set i _) ρ = foot o p ++ feet H ρ
  rw [qDG (H := H) (by simpa using h) e]
theorem qEf : ∀ {H : List AO} {ρ : Rho} {o : AO} {p : Addr × Addr}, ρ.length = H.length → feet (H ++ [o]) (ρ ++ [p]) = feet H ρ ++ foot o p
 | [], [], o, p, _ => by simp [feet]
 | [], _ :: _, _, _, h => by simp at h
 | _ :: _, [], _, _, h => by simp at h
 | o :: H, p :: ρ, _, _, h => by
  show foot o p ++ feet (H ++ [_]) (ρ ++ [_]) = foot o p ++ feet H ρ ++ _
  rw [qEf (by simpa using h), List.append_assoc]
theorem erel.mono {ρ ρ' : Rho} (h : ρ <+: ρ') {f : Str × AV} {e : DictEntry} (x : erel ρ f e) : erel ρ' f e := ⟨x.1, x.2.mono h⟩
theorem instRel.loc {ρ ρ' : Rho} {C : Addr} {fs : LV} {p : Addr × Addr} {h h' : Heap} (hp : ρ <+: ρ') (x : instRel ρ C fs p h) (hk : ∀ a ∈ [p.1, p.2], ∀ ob, h.get? a = some ob → h'.get? a = some ob) : instRel ρ' C fs p h' := by
 obtain ⟨h1, es, n, h2, h3⟩ := x
 exact ⟨hk _ (by simp) _ h1, es, n, hk _ (by simp) _ h2, h3.imp fun _ _ y => y.mono hp⟩
theorem ORel.loc {ρ ρ' : Rho} {o : AO} {p : Addr × Addr} {h h' : Heap} (hp : ρ <+: ρ') (hk : ∀ a ∈ foot o p, ∀ ob, h.get? a = some ob → h'.get? a = some ob) (x : ORel ρ o p h) : ORel ρ' o p h' := by
 cases o with
 | tup xs => obtain ⟨vs, n, h1, h2⟩ := x; exact ⟨vs, n, hk _ (by simp [foot]) _ h1, qBP hp h2⟩
 | lst xs => obtain ⟨vs, n, h1, h2⟩ := x; exact ⟨vs, n, hk _ (by simp [foot]) _ h1, qBP hp h2⟩
 | inst C fs => exact instRel.loc hp x hk
 | deq => exact hk _ (by simp [foot]) _ x
 | std d => obtain ⟨vs, n, h1, h2⟩ := x; exact ⟨vs, n, hk _ (by simp [foot]) _ h1, qBP hp h2⟩
 | sit r => obtain ⟨x, t, i, ⟨o, h1, h2⟩, h3⟩ := x; exact ⟨x, t, i, ⟨o, hk _ (by simp [foot]) _ h1, h2⟩, h3⟩
 | lit i k => obtain ⟨q, h1, o, h2, h3⟩ := x; exact ⟨q, qBi hp h1, o, hk _ (by simp [foot]) _ h2, h3⟩
 | any => obtain ⟨ob, h1⟩ := x; exact ⟨ob, hk _ (by simp [foot]) _ h1⟩
 | sio r => obtain ⟨buf, k, h1, h2⟩ := x; exact ⟨buf, k, instRel.loc hp h1 hk, h2⟩
theorem ORel.there {ρ : Rho} {o : AO} {p : Addr × Addr} {h : Heap} (x : ORel ρ o p h) : ∀ a ∈ foot o p, ∃ ob, h.get? a = some ob := by
 intro a ha
 cases o with
 | tup xs => obtain ⟨vs, n, h1, h2⟩ := x; simp [foot] at ha; subst ha; exact ⟨_, h1⟩
 | lst xs => obtain ⟨vs, n, h1, h2⟩ := x; simp [foot] at ha; subst ha; exact ⟨_, h1⟩
 | inst C fs =>
  obtain ⟨h1, es, n, h2, h3⟩ := x
  simp [foot] at ha
  rcases ha with rfl | rfl
  ·exact ⟨_, h1⟩
  ·exact ⟨_, h2⟩
 | deq => simp [foot] at ha; subst ha; exact ⟨_, x⟩
 | std d => obtain ⟨vs, n, h1, h2⟩ := x; simp [foot] at ha; subst ha; exact ⟨_, h1⟩
 | sit r => obtain ⟨x, t, i, ⟨o, h1, h2⟩, h3⟩ := x; simp [foot] at ha; subst ha; exact ⟨_, h1⟩
 | lit i k => obtain ⟨q, h1, o, h2, h3⟩ := x; simp [foot] at ha; subst ha; exact ⟨_, h2⟩
 | any => obtain ⟨ob, h1⟩ := x; simp [foot] at ha; subst ha; exact ⟨_, h1⟩
 | sio r =>
  refine oz22 (x) fun buf k zr1 _ => ?_
  obtain ⟨h1, es, n, h2, h3⟩ := zr1
  simp [foot] at ha
  rcases ha with rfl | rfl
  ·exact ⟨_, h1⟩
  ·exact ⟨_, h2⟩
structure Chg (Y : List Addr) (h h' : Heap) : Prop where
 keep : ∀ b o, h.get? b = some o → b ∉ Y → h'.get? b = some o
theorem Chg.refl (Y : List Addr) (h : Heap) : Chg Y h h := ⟨fun _ _ e _ => e⟩
theorem Chg.push (Y : List Addr) (h : Heap) (o : Obj) : Chg Y h (h.push o) := ⟨fun _ _ e _ => Heap.get?_push_of_some _ e⟩
theorem Chg.same {a : Addr} {h h' : Heap} (s : Heap.SameBut a h h') : Chg [a] h h' := ⟨fun b o e n => (s.2 b (by simpa using n)).trans e⟩
structure Kp (X F : List Addr) (h h' : Heap) : Prop where
 keep : ∀ b o, h.get? b = some o → b ∉ X → ∃ sl, h'.get? b = some { o with slots := sl } ∧ (b ∉ F → sl = o.slots)
theorem Kp.refl (X F : List Addr) (h : Heap) : Kp X F h h := ⟨fun b o e _ => ⟨o.slots, e, fun _ => rfl⟩⟩
theorem Kp.step {X F Y : List Addr} {h₀ h h' : Heap} (k : Kp X F h₀ h) (c : Chg Y h h') (hY : ∀ a ∈ Y, a ∈ X ∨ h₀.get? a = none) : Kp X F h₀ h' := by
 refine ⟨fun b o e n => ?_⟩
 refine oz12 (k.keep b o e n) fun sl e1 e2 => ?_
 refine ⟨sl, c.keep b _ e1 fun hb => ?_, e2⟩
 rcases hY b hb with q | q
 ·exact n q
 ·rw [e] at q; cases q
theorem Kp.trans {X F Y G : List Addr} {h₀ h h' : Heap} (k : Kp X F h₀ h) (c : Kp Y G h h') (hY : ∀ a ∈ Y, a ∈ X ∨ h₀.get? a = none) (hG : ∀ a ∈ G, a ∈ F ∨ a ∈ X ∨ h₀.get? a = none) : Kp X F h₀ h' := by
 refine ⟨fun b o e n => ?_⟩
 refine oz12 (k.keep b o e n) fun sl e1 e2 => ?_
 obtain ⟨sl', e3, e4⟩ := c.keep b _ e1 fun hb => by
  rcases hY b hb with q | q
  ·exact n q
  ·rw [e] at q; cases q
 refine ⟨sl', e3, fun hF => ?_⟩
 rw [e4 fun hg => by
  rcases hG b hg with q | q | q
  ·exact hF q
  ·exact n q
  ·rw [e] at q; cases q]
 exact e2 hF
theorem Kp.chg {X : List Addr} {h h' : Heap} (k : Kp X [] h h') : Chg X h h' := ⟨fun b o e n => by
 refine oz12 (k.keep b o e n) fun sl e1 e2 => ?_
 rw [e2 (by simp)] at e1; exact e1⟩
theorem Kp.ns {X F : List Addr} {h h' : Heap} {L : Addr} {m : Str → Option Value} (k : Kp X F h h') (n : h.Ns L m) (hL : L ∉ X) : h'.Ns L m := by
 refine oz33 (n) fun o es ep h1 h2 h3 => ?_
 refine oz12 (k.keep L o h1 hL) fun sl e1 _ => ?_
 exact ⟨_, es, ep, e1, h2, h3⟩
theorem Kp.fresh {X F : List Addr} {h₀ h : Heap} {a : Addr} (k : Kp X F h₀ h) (ha : h.get? a = none) : a ∈ X ∨ h₀.get? a = none := by
 by_cases q : a ∈ X
 ·exact .inl q
 ·refine .inr ?_
  cases e : h₀.get? a with
  | none => rfl
  | some o =>
   refine oz12 (k.keep a o e q) fun sl e1 _ => ?_
   rw [ha] at e1; cases e1
theorem qEW {h : Heap} {a : Addr} (ha : h.objs.size ≤ a) : h.get? a = none := by
 cases e : h.get? a with
 | none => rfl
 | some o => exact absurd (Heap.lt_size e) (Nat.not_lt.mpr ha)
noncomputable abbrev nS : Nat := 824
structure HR (w : World) (ρ : Rho) (H : List AO) (h : Heap) : Prop where
 kept : Kept w h
 len : ρ.length = H.length
 obj : ∀ (i : Nat) (o : AO) (p : Addr × Addr), H[i]? = some o → ρ[i]? = some p → ORel ρ o p h
 own : ∀ (i : Nat) (o : AO) (p : Addr × Addr), H[i]? = some o → ρ[i]? = some p → (foot o p).Nodup
 sep : ∀ (i j : Nat) (oi oj : AO) (pi pj : Addr × Addr), H[i]? = some oi → ρ[i]? = some pi → H[j]? = some oj → ρ[j]? = some pj → i ≠ j → ∀ a ∈ foot oi pi, a ∉ foot oj pj
 high : ∀ a ∈ feet H ρ, nS ≤ a
theorem HR.below {w : World} {ρ : Rho} {H : List AO} {h : Heap} (r : HR w ρ H h) : ∀ a ∈ feet H ρ, ∃ ob, h.get? a = some ob := fun a ha => by
 refine oz33 (qAw ha) fun i o p h1 h2 h3 => ?_
 exact (r.obj i o p h1 h2).there a h3
theorem HR.rho {w : World} {ρ : Rho} {H : List AO} {h : Heap} (r : HR w ρ H h) {i : Nat} {o : AO} (e : H[i]? = some o) : ∃ p, ρ[i]? = some p ∧ ORel ρ o p h := by
 have lt := (List.getElem?_eq_some_iff.mp e).1
 have : ∃ p, ρ[i]? = some p := ⟨ρ[i]'(by rw [r.len]; exact lt), List.getElem?_eq_getElem _⟩
 refine oz11 (this) fun p hp => ?_
 exact ⟨p, hp, r.obj i o p e hp⟩
theorem qNw (P : Params) : (H1 P).objs.size = nS := by kernel_rfl
theorem Kept.lt {w : World} {b : Addr} {o : Obj} (e : (H1 w.params).get? b = some o) : b < nS := by have := Heap.lt_size e; rw [qNw] at this; exact this
theorem Kept.chg {w : World} {Y : List Addr} {h h' : Heap} (k : Kept w h) (c : Chg Y h h') (hY : ∀ a ∈ Y, nS ≤ a) : Kept w h' := fun b o e =>
 have n : b ∉ Y := fun hb => absurd (Kept.lt e) (Nat.not_lt.mpr (hY b hb))
 ⟨fun q => c.keep b o ((k b o e).1 q) n, let ⟨ob, z⟩ := (k b o e).2; ⟨ob, c.keep b ob z n⟩⟩
theorem HR.out {w : World} {ρ : Rho} {H : List AO} {h h' : Heap} {Y : List Addr} (r : HR w ρ H h) (c : Chg Y h h') (hY : ∀ a ∈ Y, nS ≤ a ∧ a ∉ feet H ρ) : HR w ρ H h' :=
 ⟨r.kept.chg c fun a ha => (hY a ha).1, r.len, fun i o p h1 h2 => (r.obj i o p h1 h2).loc (List.prefix_refl _) fun a ha ob e => c.keep a ob e fun hy => (hY a hy).2 (qAo h1 h2 a ha), r.own, r.sep, r.high⟩
theorem qDC {α : Type} {l : List α} {x : α} {i : Nat} {y : α} (h : (l ++ [x])[i]? = some y) : (i < l.length ∧ l[i]? = some y) ∨ (i = l.length ∧ y = x) := by
 by_cases q : i < l.length
 ·rw [List.getElem?_append_left q] at h; exact .inl ⟨q, h⟩
 ·have hi : i = l.length := by
   have := (List.getElem?_eq_some_iff.mp h).1
   simp at this; omega
  subst hi
  simp at h
  exact .inr ⟨rfl, h.symm⟩
theorem HR.new {w : World} {ρ : Rho} {H : List AO} {h h' : Heap} {o : AO} {p : Addr × Addr} (r : HR w ρ H h) (c : Chg [] h h') (ho : ORel (ρ ++ [p]) o p h') (hn : (foot o p).Nodup) (hs : ∀ a ∈ foot o p, h.get? a = none ∧ nS ≤ a) : HR w (ρ ++ [p]) (H ++ [o]) h' := by
 have pre : ρ <+: ρ ++ [p] := List.prefix_append _ _
 have both : ∀ {i : Nat} {o' : AO} {p' : Addr × Addr}, (H ++ [o])[i]? = some o' → (ρ ++ [p])[i]? = some p' → (H[i]? = some o' ∧ ρ[i]? = some p') ∨ (i = H.length ∧ o' = o ∧ p' = p) := by
  intro i o' p' h1 h2
  rcases qDC h1 with ⟨l1, e1⟩ | ⟨l1, e1⟩
  ·rcases qDC h2 with ⟨l2, e2⟩ | ⟨l2, e2⟩
   ·exact .inl ⟨e1, e2⟩
   ·rw [r.len] at l2; omega
  ·rcases qDC h2 with ⟨l2, e2⟩ | ⟨l2, e2⟩
   ·rw [r.len] at l2; omega
   ·exact .inr ⟨l1, e1, e2⟩
 refine ⟨r.kept.chg c (by simp), by simp [r.len], fun i o' p' h1 h2 => ?_, fun i o' p' h1 h2 => ?_, fun i j oi oj pi pj h1 h2 h3 h4 ne a ha => ?_, ?_⟩
 ·rcases both h1 h2 with ⟨e1, e2⟩ | ⟨e0, rfl, rfl⟩
  ·exact (r.obj i o' p' e1 e2).loc pre fun a ha ob e => c.keep a ob e (by simp)
  ·exact ho
 ·rcases both h1 h2 with ⟨e1, e2⟩ | ⟨e0, rfl, rfl⟩
  ·exact r.own i o' p' e1 e2
  ·exact hn
 ·rcases both h1 h2 with ⟨e1, e2⟩ | ⟨e0, rfl, rfl⟩
  ·rcases both h3 h4 with ⟨e3, e4⟩ | ⟨e5, rfl, rfl⟩
   ·exact r.sep i j oi oj pi pj e1 e2 e3 e4 ne a ha
   ·exact fun hb => by obtain ⟨ob, q⟩ := (r.obj i oi pi e1 e2).there a ha; rw [(hs a hb).1] at q; cases q
  ·rcases both h3 h4 with ⟨e3, e4⟩ | ⟨e5, rfl, rfl⟩
   ·exact fun hb => by obtain ⟨ob, q⟩ := (r.obj j oj pj e3 e4).there a hb; rw [(hs a ha).1] at q; cases q
   ·exact absurd (e0.trans e5.symm) ne
 ·intro a ha
  rw [qEf r.len] at ha
  rcases List.mem_append.mp ha with ha | ha
  ·exact r.high a ha
  ·exact (hs a ha).2
theorem qKY {α : Type} {l : List α} {i j : Nat} {x y z : α} (hi : l[i]? = some z) (h : (l.set i x)[j]? = some y) : (i = j ∧ y = x) ∨ (i ≠ j ∧ l[j]? = some y) := by
 have lt := (List.getElem?_eq_some_iff.mp hi).1
 by_cases e : i = j
 ·subst e
  rw [List.getElem?_set_self lt] at h
  exact .inl ⟨rfl, (Option.some.inj h).symm⟩
 ·rw [List.getElem?_set_ne e] at h
  exact .inr ⟨e, h⟩
theorem HR.updZ {w : World} {ρ : Rho} {H : List AO} {h h' : Heap} {i : Nat} {o o' : AO} {p : Addr × Addr} {Z : List Addr} (r : HR w ρ H h) (hi : H[i]? = some o) (hp : ρ[i]? = some p) (hf : ∀ p, foot o' p = foot o p) (c : Chg Z h h') (hZ : ∀ a ∈ Z, a ∈ foot o p ∨ (nS ≤ a ∧ a ∉ feet H ρ)) (ho : ORel ρ o' p h') : HR w ρ (H.set i o') h' := by
 have kf : ∀ {j : Nat} {q : AO} {pj : Addr × Addr}, (H.set i o')[j]? = some q → ρ[j]? = some pj → ∃ q0, H[j]? = some q0 ∧ foot q pj = foot q0 pj := by
  intro j q pj h1 h2
  rcases qKY hi h1 with ⟨rfl, rfl⟩ | ⟨_, e⟩
  ·exact ⟨o, hi, hf pj⟩
  ·exact ⟨q, e, rfl⟩
 refine ⟨r.kept.chg c fun a ha => ?_, by simp [r.len], fun j q pj h1 h2 => ?_, fun j q pj h1 h2 => ?_, fun j k oj ok pj pk h1 h2 h3 h4 ne a ha => ?_, by rw [qDG hi hf]; exact r.high⟩
 ·rcases hZ a ha with q | q
  ·exact r.high a (qAo hi hp a q)
  ·exact q.1
 ·rcases qKY hi h1 with ⟨rfl, rfl⟩ | ⟨e, h1⟩
  ·rw [hp] at h2; cases h2
   exact ho
  ·refine (r.obj j q pj h1 h2).loc (List.prefix_refl _) fun a ha ob g => c.keep a ob g fun hz => ?_
   rcases hZ a hz with q' | q'
   ·exact r.sep j i q o pj p h1 h2 hi hp (Ne.symm e) a ha q'
   ·exact q'.2 (qAo h1 h2 a ha)
 ·refine oz12 (kf h1 h2) fun q0 e0 e1 => ?_
  rw [e1]; exact r.own j q0 pj e0 h2
 ·refine oz12 (kf h1 h2) fun q0 e0 e1 => ?_
  refine oz12 (kf h3 h4) fun q2 e2 e3 => ?_
  rw [e3]; rw [e1] at ha
  exact r.sep j k q0 q2 pj pk e0 h2 e2 h4 ne a ha
theorem HR.upd {w : World} {ρ : Rho} {H : List AO} {h h' : Heap} {i : Nat} {o o' : AO} {p : Addr × Addr} (r : HR w ρ H h) (hi : H[i]? = some o) (hp : ρ[i]? = some p) (hf : ∀ p, foot o' p = foot o p) (c : Chg (foot o p) h h') (ho : ORel ρ o' p h') : HR w ρ (H.set i o') h' :=
 r.updZ hi hp hf c (fun a ha => .inl ha) ho
section
structure Cx where
 w : World
 L : Addr
 h₀ : Heap
 X : List Addr
 F : List Addr
 g : Array GenState
 dr : Drawn
 os : OsState
structure Rel (cx : Cx) (ρ : Rho) (S : Sta) (s : Shared) : Prop where
 hr : HR cx.w ρ S.H s.heap
 ns : ∃ m, s.heap.Ns cx.L m ∧ ∀ x a, S.loc.lookup x = some a → ∃ v, m x = some v ∧ vrel ρ a v
 ft : ∀ a ∈ feet S.H ρ, a ≠ cx.L ∧ (a ∈ cx.X ∨ cx.h₀.get? a = none)
 lo : nS ≤ cx.L ∧ (cx.L ∈ cx.X ∨ cx.h₀.get? cx.L = none)
 kp : Kp cx.X cx.F cx.h₀ s.heap
 rest : s.gens = cx.g ∧ s.drawn = cx.dr ∧ s.os = cx.os
def Room (A : Around) (d : Nat) : Prop := (A.depth + d ≤ 900 ∧ A.units + 20 * d ≤ 9000) ∧ A.handled = none
noncomputable def qAa (A : Around) : List Addr := (A.frames.getD []).filterMap (·.frame)
structure AOK (cx : Cx) (A : Around) (d : Nat) : Prop where
 room : Room A d
 fr : ∀ a ∈ qAa A, a ∈ cx.F ∨ a = cx.L
 cxF : ∀ a ∈ cx.F, (∃ o, cx.h₀.get? a = some o) ∧ a ∉ cx.X
noncomputable abbrev back (Q : VP) (E : VP) : RP := fun r s' => match r with | .ok (.ret v) => Q v s' | .ok _ => False | .error e => E e s'
def Fn (w : World) (f : Addr) (d : Nat) (sp : Spec) : Prop :=
 ∀ (A : Around) (s : Shared) (ρ : Rho) (H : List AO) (args : List AV) (r : AV) (H' : List AO) (o : List Prop) (vals : List Value),
  sp args H = some (r, H', o) → (∀ p ∈ o, p) → Room A d → HR w ρ H s.heap → (∀ a ∈ qAa A, (∃ ob, s.heap.get? a = some ob) ∧ a ∉ feet H ρ) → vrels ρ args vals →
  ∀ (Q E : VP), (∀ v s' ρ', ρ <+: ρ' → vrel ρ' r v → HR w ρ' H' s'.heap → Kp (feet H ρ) (qAa A) s.heap s'.heap → (∀ a ∈ feet H' ρ', a ∈ feet H ρ ∨ s.heap.get? a = none) →
   s'.gens = s.gens ∧ s'.drawn = s.drawn ∧ s'.os = s.os → Q v s') → codeAny (model pw w) A (.call (.ref f) ⟨vals, []⟩) (back Q E) s
theorem Room.le {A : Around} {d d' : Nat} (r : Room A d) (h : d' ≤ d) : Room A d' := ⟨⟨by have := r.1.1; omega, by have := r.1.2; omega⟩, r.2⟩
theorem Fn.le {w : World} {f : Addr} {d d' : Nat} {sp : Spec} (h : Fn w f d sp) (l : d ≤ d') : Fn w f d' sp := fun A s ρ H args r H' o vals e ho hr => h A s ρ H args r H' o vals e ho (hr.le l)
noncomputable abbrev MM (w : World) : Model := model pw w
noncomputable abbrev PE (cx : Cx) (ρ : Rho) (v : AV) (S' : Sta) : VP := fun c s' => ∃ ρ', ρ <+: ρ' ∧ vrel ρ' v c ∧ Rel cx ρ' S' s'
noncomputable abbrev PEs (cx : Cx) (ρ : Rho) (v : List AV) (S' : Sta) : List Value → Shared → Prop := fun c s' => ∃ ρ', ρ <+: ρ' ∧ vrels ρ' v c ∧ Rel cx ρ' S' s'
noncomputable abbrev PT (cx : Cx) (ρ : Rho) (b : Bool) (S' : Sta) : Bool → Shared → Prop := fun c s' => c = b ∧ ∃ ρ', ρ <+: ρ' ∧ Rel cx ρ' S' s'
theorem qIM {α β : Type} {x : R α} {f : α → Sta → R β} {b : β} {S' : Sta} {o : List Prop} (h : bnd x f = some (b, S', o)) : ∃ a S o1 o2, x = some (a, S, o1) ∧ f a S = some (b, S', o2) ∧ o = o1 ++ o2 := by
 unfold bnd at h
 split at h
 ·cases h
 ·rename_i a S o1
  split at h
  ·cases h
  ·rename_i b' S'' o2 e
   cases h
   exact ⟨a, S, o1, o2, rfl, e, rfl⟩
theorem both {o1 o2 : List Prop} (h : ∀ p ∈ o1 ++ o2, p) : (∀ p ∈ o1, p) ∧ ∀ p ∈ o2, p := ⟨fun p hp => h p (List.mem_append_left _ hp), fun p hp => h p (List.mem_append_right _ hp)⟩
theorem qA9 {α β : Type} {x : R α} {f : α → Sta → R β} {b : β} {S' : Sta} {o : List Prop} {C : Prop} (h : bnd x f = some (b, S', o)) (ho : ∀ p ∈ o, p)
  (k : ∀ a S o1 o2, x = some (a, S, o1) → (∀ p ∈ o1, p) → f a S = some (b, S', o2) → (∀ p ∈ o2, p) → C) : C :=
 oz43 (qIM h) fun a S o1 o2 h1 h2 e => by subst e; exact k a S o1 o2 h1 (both ho).1 h2 (both ho).2
theorem bn2 {α β : Type} {x : R α} {f : α → Sta → R β} {b : β} {S' : Sta} {o : List Prop} {C : Prop} (h : bnd x f = some (b, S', o)) (k : ∀ a S o1 o2, x = some (a, S, o1) → f a S = some (b, S', o2) → C) : C :=
 oz43 (qIM h) fun a S o1 o2 h1 h2 e => k a S o1 o2 h1 h2
theorem qAJ {α : Type} {x y : Option α} {r : α} {C : Prop} (h : alt x y = some r) (k1 : x = some r → C) (k2 : y = some r → C) : C := by
 cases x with
 | none => exact k2 h
 | some a => exact k1 h
theorem bd {α β : Type} {x : Option α} {f : α → Option β} {r : β} {C : Prop} (h : x.bind f = some r) (k : ∀ a, x = some a → f a = some r → C) : C := by
 cases x with
 | none => exact nos h
 | some a => exact k a rfl h
theorem mp {α β : Type} {x : Option α} {f : α → β} {r : β} {C : Prop} (h : x.map f = some r) (k : ∀ a, x = some a → f a = r → C) : C := by
 cases x with
 | none => exact nos h
 | some a => exact k a rfl (Option.some.inj h)
theorem itF {α : Type} {c : Prop} [Decidable c] {x : Option α} {r : α} {C : Prop} (h : (if c then none else x) = some r) (k : ¬c → x = some r → C) : C := by
 by_cases hc : c
 ·rw [if_pos hc] at h; exact nos h
 ·rw [if_neg hc] at h; exact k hc h
theorem itT {α : Type} {c : Prop} [Decidable c] {x : Option α} {r : α} {C : Prop} (h : (if c then x else none) = some r) (k : c → x = some r → C) : C := by
 by_cases hc : c
 ·rw [if_pos hc] at h; exact k hc h
 ·rw [if_neg hc] at h; exact nos h
theorem ite2 {α : Type} {c : Prop} [Decidable c] {x y : Option α} {r : α} {C : Prop} (h : (if c then x else y) = some r) (k : c → x = some r → C) (k2 : ¬c → y = some r → C) : C := by
 by_cases hc : c
 ·rw [if_pos hc] at h; exact k hc h
 ·rw [if_neg hc] at h; exact k2 hc h
theorem duty {α : Type} {a b : α} {S S' : Sta} {p : Prop} {l o : List Prop} (h : some (a, S, p :: l) = some (b, S', o)) (ho : ∀ q ∈ o, q) : p := by cases h; exact ho _ (.head _)
theorem qVl {α : Type} {a b : α} {S S' : Sta} {q p : Prop} {l o : List Prop} (h : some (a, S, q :: p :: l) = some (b, S', o)) (ho : ∀ q ∈ o, q) : p := by cases h; exact ho _ (.tail _ (.head _))
theorem PE.sm {cx : Cx} {ρ : Rho} {a v : AV} {S S' : Sta} {l o : List Prop} {c : Value} {s : Shared} (h : some (a, S, l) = some (v, S', o)) (q : PE cx ρ a S c s) : PE cx ρ v S' c s := by cases h; exact q
theorem PT.sm {cx : Cx} {ρ : Rho} {a v : Bool} {S S' : Sta} {l o : List Prop} {c : Bool} {s : Shared} (h : some (a, S, l) = some (v, S', o)) (q : PT cx ρ a S c s) : PT cx ρ v S' c s := by cases h; exact q
theorem PEs.sm {cx : Cx} {ρ : Rho} {a v : List AV} {S S' : Sta} {l o : List Prop} {c : List Value} {s : Shared} (h : some (a, S, l) = some (v, S', o)) (q : PEs cx ρ a S c s) : PEs cx ρ v S' c s := by cases h; exact q
theorem PE.pre {cx : Cx} {ρ ρ0 : Rho} {v : AV} {S' : Sta} {c : Value} {s' : Shared} (h : ρ0 <+: ρ) (z : PE cx ρ v S' c s') : PE cx ρ0 v S' c s' := oz13 z fun ρ' a b c => ⟨ρ', h.trans a, b, c⟩
theorem PT.pre {cx : Cx} {ρ ρ0 : Rho} {v : Bool} {S' : Sta} {c : Bool} {s' : Shared} (h : ρ0 <+: ρ) (z : PT cx ρ v S' c s') : PT cx ρ0 v S' c s' := ⟨z.1, oz12 z.2 fun ρ' a c => ⟨ρ', h.trans a, c⟩⟩
section
variable {cx : Cx} {ρ : Rho} {s : Shared} {A : Around} {E : VP} {M : Model}
theorem wpre {m : Sem Value} {ρ0 : Rho} {v : AV} {S' : Sta} (p : ρ0 <+: ρ) (h : wpAny M A m (PE cx ρ v S') E s) : wpAny M A m (PE cx ρ0 v S') E s := wpAny_mono h (fun _ _ z => z.pre p) fun _ _ x => x
theorem qIY {m : Sem Bool} {ρ0 : Rho} {v : Bool} {S' : Sta} (p : ρ0 <+: ρ) (h : wpAny M A m (PT cx ρ v S') E s) : wpAny M A m (PT cx ρ0 v S') E s := wpAny_mono h (fun _ _ z => z.pre p) fun _ _ x => x
variable {β : Type} {b : β} {S' : Sta} {o : List Prop}
theorem bwE {x : R AV} {f : AV → Sta → R β} {m : Sem Value} {Q : VP} (h : bnd x f = some (b, S', o)) (ho : ∀ p ∈ o, p) (hx : ∀ u S1 o1, x = some (u, S1, o1) → (∀ p ∈ o1, p) → wpAny M A m (PE cx ρ u S1) E s)
  (k : ∀ u S1 o2, f u S1 = some (b, S', o2) → (∀ p ∈ o2, p) → ∀ ρ1 c s1, ρ <+: ρ1 → vrel ρ1 u c → Rel cx ρ1 S1 s1 → Q c s1) : wpAny M A m Q E s :=
 qA9 h ho fun a S1 o1 o2 h1 ho1 h2 ho2 => wm (hx a S1 o1 h1 ho1) (fun c s1 z => oz13 z fun ρ1 p v r => k a S1 o2 h2 ho2 ρ1 c s1 p v r)
theorem bwT {x : R Bool} {f : Bool → Sta → R β} {m : Sem Bool} {Q : Bool → Shared → Prop} (h : bnd x f = some (b, S', o)) (ho : ∀ p ∈ o, p) (hx : ∀ u S1 o1, x = some (u, S1, o1) → (∀ p ∈ o1, p) → wpAny M A m (PT cx ρ u S1) E s)
  (k : ∀ u S1 o2, f u S1 = some (b, S', o2) → (∀ p ∈ o2, p) → ∀ ρ1 s1, ρ <+: ρ1 → Rel cx ρ1 S1 s1 → Q u s1) : wpAny M A m Q E s :=
 qA9 h ho fun a S1 o1 o2 h1 ho1 h2 ho2 => wm (hx a S1 o1 h1 ho1) (fun c s1 z => oz02 z fun e y => by subst e; exact oz12 y fun ρ1 p r => k c S1 o2 h2 ho2 ρ1 s1 p r)
theorem bwL {x : R (List AV)} {f : List AV → Sta → R β} {m : Sem (List Value)} {Q : List Value → Shared → Prop} (h : bnd x f = some (b, S', o)) (ho : ∀ p ∈ o, p) (hx : ∀ u S1 o1, x = some (u, S1, o1) → (∀ p ∈ o1, p) → wpAny M A m (PEs cx ρ u S1) E s)
  (k : ∀ u S1 o2, f u S1 = some (b, S', o2) → (∀ p ∈ o2, p) → ∀ ρ1 c s1, ρ <+: ρ1 → vrels ρ1 u c → Rel cx ρ1 S1 s1 → Q c s1) : wpAny M A m Q E s :=
 qA9 h ho fun a S1 o1 o2 h1 ho1 h2 ho2 => wm (hx a S1 o1 h1 ho1) (fun c s1 z => oz13 z fun ρ1 p v r => k a S1 o2 h2 ho2 ρ1 c s1 p v r)
end
theorem Rel.toks {cx : Cx} {ρ : Rho} {S : Sta} {s : Shared} (r : Rel cx ρ S s) (k : Nat) : Rel cx ρ S { s with toks := k } := ⟨r.hr, r.ns, r.ft, r.lo, r.kp, r.rest⟩
theorem Rel.orc {cx : Cx} {ρ : Rho} {S : Sta} {s : Shared} (r : Rel cx ρ S s) (k : List Bool) : Rel cx ρ { S with orc := k } s := ⟨r.hr, r.ns, r.ft, r.lo, r.kp, r.rest⟩
theorem Rel.X {cx : Cx} {ρ : Rho} {S : Sta} {s : Shared} (r : Rel cx ρ S s) : (KK cx.w.params).In s.heap := r.hr.kept.kk
theorem qEM (x y : Str) (v : AV) : ∀ l : LV, (qBm x v l).lookup y = if y = x then some v else l.lookup y
 | [] => by
  simp only [qBm, List.lookup_cons, List.lookup_nil]
  by_cases e : y = x
  ·subst e; simp
  ·simp [e, beq_eq_false_iff_ne.mpr e]
 | (z, u) :: r => by
  unfold qBm
  by_cases q : z = x
  ·subst q
   rw [if_pos (beq_self_eq_true _)]
   simp only [List.lookup_cons]
   by_cases e : y = z
   ·subst e; simp
   ·simp [e, beq_eq_false_iff_ne.mpr e]
  ·rw [if_neg (by simpa using q)]
   simp only [List.lookup_cons]
   by_cases e : y = z
   ·subst e; simp [q]
   ·rw [beq_eq_false_iff_ne.mpr e]
    exact qEM x y v r
theorem Rel.put {cx : Cx} {ρ : Rho} {S : Sta} {s : Shared} {x : Str} {a : AV} {v : Value} {h' : Heap} {m : Str → Option Value} (r : Rel cx ρ S s) (hm : ∀ x a, S.loc.lookup x = some a → ∃ v, m x = some v ∧ vrel ρ a v) (hv : vrel ρ a v)
  (hn : h'.Ns cx.L fun y => if y = x then some v else m y) (hs : Heap.SameBut cx.L s.heap h') (k : Nat) : Rel cx ρ { S with loc := qBm x a S.loc } { s with heap := h', toks := k } := by
 have c := Chg.same hs
 refine ⟨r.hr.out c fun b hb => ?_, ⟨_, hn, fun y b hy => ?_⟩, r.ft, r.lo, r.kp.step c fun b hb => ?_, r.rest⟩
 ·rw [ls hb]; exact ⟨r.lo.1, fun q => (r.ft _ q).1 rfl⟩
 ·dsimp only at hy
  rw [qEM] at hy
  by_cases e : y = x
  ·rw [if_pos e] at hy ⊢; cases hy; exact ⟨v, rfl, hv⟩
  ·rw [if_neg e] at hy ⊢; exact hm y b hy
 ·rw [ls hb]; exact r.lo.2
theorem Rel.size {cx : Cx} {ρ : Rho} {S : Sta} {s : Shared} (r : Rel cx ρ S s) : nS ≤ s.heap.objs.size := by
 refine oz12 (r.ns) fun m n _ => ?_
 exact Nat.le_trans r.lo.1 (Nat.le_of_lt n.lt)
theorem Rel.ns' {cx : Cx} {ρ ρ' : Rho} {S : Sta} {s : Shared} {h' : Heap} (r : Rel cx ρ S s) (hp : ρ <+: ρ') (hk : ∀ m, s.heap.Ns cx.L m → h'.Ns cx.L m) : ∃ m, h'.Ns cx.L m ∧ ∀ x a, S.loc.lookup x = some a → ∃ v, m x = some v ∧ vrel ρ' a v := by
 refine oz12 (r.ns) fun m n q => ?_
 exact ⟨m, hk m n, fun x a e => let ⟨v, e1, e2⟩ := q x a e; ⟨v, e1, e2.mono hp⟩⟩
theorem Rel.new {cx : Cx} {ρ : Rho} {S : Sta} {s : Shared} {o : AO} {p : Addr × Addr} {h' : Heap} {k : Nat} (r : Rel cx ρ S s) (c : Chg [] s.heap h') (ho : ORel (ρ ++ [p]) o p h') (hn : (foot o p).Nodup) (hs : ∀ a ∈ foot o p, s.heap.objs.size ≤ a) :
  Rel cx (ρ ++ [p]) { S with H := S.H ++ [o] } { s with heap := h', toks := k } := by
 refine oz12 (r.ns) fun m n q => ?_
 have hs' : ∀ a ∈ foot o p, s.heap.get? a = none ∧ nS ≤ a := fun a ha => ⟨qEW (hs a ha), Nat.le_trans r.size (hs a ha)⟩
 refine ⟨r.hr.new c ho hn hs', r.ns' (List.prefix_append _ _) fun m n => n.keeps fun b o e => c.keep b o e (by simp), fun a ha => ?_, r.lo, r.kp.step c (by simp), r.rest⟩
 dsimp only at ha
 rw [qEf r.hr.len] at ha
 rcases List.mem_append.mp ha with ha | ha
 ·exact r.ft a ha
 ·exact ⟨Nat.ne_of_gt (Nat.lt_of_lt_of_le n.lt (hs a ha)), r.kp.fresh (hs' a ha).1⟩
theorem Rel.upd {cx : Cx} {ρ : Rho} {S : Sta} {s : Shared} {i : Nat} {o o' : AO} {p : Addr × Addr} {h' : Heap} {k : Nat} (r : Rel cx ρ S s) (hi : S.H[i]? = some o) (hp : ρ[i]? = some p) (hf : ∀ p, foot o' p = foot o p) (c : Chg (foot o p) s.heap h') (ho : ORel ρ o' p h') :
  Rel cx ρ { S with H := S.H.set i o' } { s with heap := h', toks := k } := by
 refine oz12 (r.ns) fun m n q => ?_
 refine ⟨r.hr.upd hi hp hf c ho, r.ns' (List.prefix_refl _) fun m n => ?_, fun a ha => ?_, r.lo, r.kp.step c fun a ha => (r.ft a (qAo hi hp a ha)).2, r.rest⟩
 ·refine oz32 (n) fun ob es ep h1 h2 => ?_
  exact ⟨ob, es, ep, c.keep _ _ h1 fun hL => (r.ft _ (qAo hi hp _ hL)).1 rfl, h2⟩
 ·dsimp only at ha
  rw [qDG hi hf] at ha
  exact r.ft a ha
theorem Rel.updL {cx : Cx} {ρ : Rho} {S : Sta} {s : Shared} {i : Nat} {o o' : AO} {p : Addr × Addr} {h' : Heap} {k : Nat} (r : Rel cx ρ S s) (hi : S.H[i]? = some o) (hp : ρ[i]? = some p) (hf : ∀ p, foot o' p = foot o p) (c : Chg (cx.L :: foot o p) s.heap h') (hn : ∀ m, s.heap.Ns cx.L m → h'.Ns cx.L m) (ho : ORel ρ o' p h') :
  Rel cx ρ { S with H := S.H.set i o' } { s with heap := h', toks := k } := by
 refine oz12 (r.ns) fun m n q => ?_
 refine ⟨r.hr.updZ hi hp hf c (fun a ha => ?_) ho, r.ns' (List.prefix_refl _) hn, fun a ha => ?_, r.lo, r.kp.step c fun a ha => ?_, r.rest⟩
 ·rcases lc ha with rfl | ha
  ·exact .inr ⟨r.lo.1, fun q => (r.ft _ q).1 rfl⟩
  ·exact .inl ha
 ·dsimp only at ha
  rw [qDG hi hf] at ha
  exact r.ft a ha
 ·rcases lc ha with rfl | ha
  ·exact r.lo.2
  ·exact (r.ft a (qAo hi hp a ha)).2
theorem Rel.called {cx : Cx} {ρ ρ' : Rho} {S : Sta} {s s' : Shared} {H' : List AO} {A : Around} {d : Nat} (r : Rel cx ρ S s) (a : AOK cx A d) (hp : ρ <+: ρ') (hr : HR cx.w ρ' H' s'.heap) (kp : Kp (feet S.H ρ) (qAa A) s.heap s'.heap) (hf : ∀ a ∈ feet H' ρ', a ∈ feet S.H ρ ∨ s.heap.get? a = none)
  (hs : s'.gens = s.gens ∧ s'.drawn = s.drawn ∧ s'.os = s.os) : Rel cx ρ' { S with H := H' } s' := by
 refine oz12 (r.ns) fun m n q => ?_
 refine ⟨hr, r.ns' hp fun m n => kp.ns n fun hL => (r.ft _ hL).1 rfl, fun b hb => ?_, r.lo, r.kp.trans kp (fun b hb => (r.ft b hb).2) (fun b hb => (a.fr b hb).imp id fun (e : b = cx.L) => by rw [e]; exact r.lo.2), ⟨hs.1.trans r.rest.1, hs.2.1.trans r.rest.2.1, hs.2.2.trans r.rest.2.2⟩⟩
 rcases hf b hb with h | h
 ·exact r.ft b h
 ·refine ⟨fun e => ?_, r.kp.fresh h⟩
  subst e
  refine oz32 (n) fun ob _ _ e1 _ => ?_
  rw [h] at e1; cases e1
theorem AOK.disj {cx : Cx} {ρ : Rho} {S : Sta} {s : Shared} {A : Around} {d : Nat} (a : AOK cx A d) (r : Rel cx ρ S s) : ∀ b ∈ qAa A, (∃ ob, s.heap.get? b = some ob) ∧ b ∉ feet S.H ρ := by
 intro b hb
 refine oz12 (r.ns) fun m n _ => ?_
 rcases a.fr b hb with h | rfl
 ·refine oz02 (a.cxF b h) fun zr1 h2 => ?_
  obtain ⟨ob, h1⟩ := zr1
  refine oz12 (r.kp.keep b ob h1 h2) fun sl e _ => ?_
  refine ⟨⟨_, e⟩, fun q => ?_⟩
  rcases (r.ft b q).2 with z | z
  ·exact h2 z
  ·rw [h1] at z; cases z
 ·refine oz32 (n) fun ob _ _ e1 _ => ?_
  exact ⟨⟨ob, e1⟩, fun q => (r.ft _ q).1 rfl⟩
end
section
theorem qJy : typeLookup (.type "collections.deque") "__bool__" = pure none := by rw [typeLookup_type, builtinLookup_eq_fast]; kernel_rfl
theorem slot_deq_len : Slot "collections.deque" "__len__" "collections.deque.__len__" :=
 .of (owner := "collections.deque") (n := "__len__") (by rw [typeLookup_type, builtinLookup_eq_fast]; kernel_rfl) (by decide +kernel) (by decide +kernel) (by decide +kernel)
  (by first | exact .inl (by decide +kernel) | exact .inr (by decide +kernel)) (by rw [isSubtype_type]; kernel_rfl)
theorem qFp : entryFor table "collections.deque.__len__" = some Builtin.«collections.deque.__len__» := entryFor_of_tree (by kernel_rfl)
theorem qGB (a : Value) : argsOk "collections.deque.__len__" ⟨[a], []⟩ := by unfold argsOk; kernel_rfl
theorem qI2 {w : World} {A : Around} {E : VP} {s : Shared} {l : Addr} {Q : Bool → Shared → Prop} (hl : s.heap.get? l = some qGp) (h : Q false { s with toks := s.toks + 1 + 1 }) : wpAny (MM w) A (truthy (.ref l)) Q E s := by
 have hT : s.TypeIs (.ref l) "collections.deque" := ⟨_, hl, rfl⟩
 have body : ∀ A', wpAny (MM w) A' (Builtin.«len» ⟨[.ref l], []⟩) (fun fin s' => ∃ r, fin = .done (.ret r) ∧ (r = .int 0 (s.toks + 1) ∧ s' = { s with toks := s.toks + 1 + 1 })) E s := by
  intro A'
  unfold Builtin.«len»
  refine wpAny_bind (m := oneArg "len" _) (wpAny_pure ?_)
  refine wpAny_bind (m := callSpecial? (.ref l) (Str.ofString "__len__")) (wpAny_callSpecial?_slot (name := Str.ofString "__len__") hT slot_deq_len
   (wpAny_call_entry slot_deq_len hT qFp ?_ (qGB _)))
  unfold Builtin.«collections.deque.__len__»
  refine wpAny_bind (m := slotArgs "__len__" 0 _) (wpAny_pure ?_)
  unfold Builtin.Deque.size
  refine wpAny_bind (wpAny_bind (wpAny_fieldsOf hl rfl (wpAny_pure ?_)))
  refine wpAny_bind (wpAny_mkInt (wpAny_pure ⟨_, rfl, ?_⟩))
  refine wpAny_bind (wpAny_holding (wpAny_pure ?_))
  refine wpAny_bind (wpAny_letGo ?_)
  exact wpAny_bind (wpAny_mkInt (wpAny_pure ⟨_, rfl, rfl, rfl⟩))
 unfold truthy
 refine wpAny_bind (wpAny_callSpecial?_none (name := Str.ofString "__bool__") hT qJy ?_)
 refine wpAny_bind (wpAny_specialOf (name := Str.ofString "__len__") hT slot_deq_len.lookup ?_)
 dsimp only [Option.isNone]
 rw [if_neg (by decide)]
 refine wpAny_bind (wpAny_runValue (codeAny_builtin entry_len ?_))
 rw [Around.under_plainId plain_len _]
 refine wpAny_mono (body _) (fun fin s' h' => ?_) fun _ _ e => ?_
 ·refine oz13 (h') fun r zr1 zr2 zr3 => ?_
  subst zr1
  subst zr2
  subst zr3
  exact wpAny_pure h
 ·exact e
section
variable {cx : Cx} {ρ : Rho} {S S' : Sta} {s : Shared} {A : Around} {E : VP} {v : AV} {o : List Prop}
theorem vrel.i {n : Int} {t : Tok} : vrel ρ (.int n) (.int n t) := ⟨t, rfl⟩
theorem vrel.st {x : Str} {t : Tok} : vrel ρ (.str x) (.str x t) := ⟨t, rfl⟩
theorem vrel.c {x : Nat} {t : Tok} : vrel ρ (.chr x) (.str (ch x) t) := ⟨t, rfl⟩
theorem PE.here {c : Value} (r : Rel cx ρ S s) (hv : vrel ρ v c) (k : Nat) : PE cx ρ v S c { s with toks := k } := ⟨ρ, List.prefix_refl _, hv, r.toks k⟩
theorem PE.now {c : Value} (r : Rel cx ρ S s) (hv : vrel ρ v c) : PE cx ρ v S c s := ⟨ρ, List.prefix_refl _, hv, r⟩
def Rd {α : Type} (p : AV → Option α) (mk : α → Tok → Value) : Prop := ∀ {ρ : Rho} {a : AV} {x : α} {va : Value}, p a = some x → vrel ρ a va → ∃ t, va = mk x t
theorem rI : Rd i? Value.int := fun {ρ a x va} h r => by cases a <;> first | exact nos h | (cases h; exact r)
theorem rS : Rd s? Value.str := fun {ρ a x va} h r => by cases a <;> first | exact nos h | (cases h; exact r)
theorem rC : Rd c? (fun c t => .str (ch c) t) := fun {ρ a x va} h r => by cases a <;> first | exact nos h | (cases h; exact r)
theorem rN : Rd n? (fun _ _ => .none) := fun {ρ a x va} h r => by cases a <;> first | exact nos h | exact ⟨0, r⟩
theorem lR {a : AV} {u va : Value} (h : l? a = some u) (r : vrel ρ a va) : va = u := by cases a <;> first | exact nos h | (cases h; exact r)
theorem oR {a : AV} {i : Nat} {va : Value} (h : o? a = some i) (r : vrel ρ a va) : ∃ p, ρ[i]? = some p ∧ va = .ref p.1 := by cases a <;> first | exact nos h | (cases h; exact r)
theorem qDR {u : Value} {a : Addr} (h : qNC u = some a) : u = .ref a := by cases u <;> first | exact nos h | (cases h; rfl)
theorem qNB {u : Value} {a : String} (h : vty? u = some a) : u = .type a := by cases u <;> first | exact nos h | (cases h; rfl)
theorem rR : Rd rf? (fun x _ => .ref x) := fun {ρ a x va} h r => bd h fun u h1 h2 => ⟨0, (lR h1 r).trans (qDR h2)⟩
theorem rT : Rd ty? (fun x _ => .type x) := fun {ρ a x va} h r => bd h fun u h1 h2 => ⟨0, (lR h1 r).trans (qNB h2)⟩
theorem tw {α β γ δ : Type} {p : AV → Option α} {q : AV → Option β} {mk : α → Tok → Value} {mk' : β → Tok → Value} (hp : Rd p mk) (hq : Rd q mk') {f : α → β → Option γ} {r : γ} {a b : AV} {va vb : Value} (h : two p q a b f = some r) (ra : vrel ρ a va) (rb : vrel ρ b vb)
  {M : Model} {m : Value → Value → Sem δ} {Q : δ → Shared → Prop} (k : ∀ x y t u, f x y = some r → wpAny M A (m (mk x t) (mk' y u)) Q E s) : wpAny M A (m va vb) Q E s :=
 bd h fun x e1 h => bd h fun y e2 h => oz11 (hp e1 ra) fun t e3 => oz11 (hq e2 rb) fun u e4 => by subst e3 e4; exact k x y t u h
theorem qHI {op : Operator} {a b : AV} {va vb : Value} (h : qVq op a b S = some (v, S', o)) (ho : ∀ p ∈ o, p) (ra : vrel ρ a va) (rb : vrel ρ b vb) (r : Rel cx ρ S s) : wpAny (MM cx.w) A (binaryOp op va vb) (PE cx ρ v S') E s := by
 cases op <;> try exact nos h
 ·exact qAJ h (fun h => tw rI rI h ra rb fun x y t u h => add_int (PE.sm h (PE.here r vrel.i _))) fun h => tw rS rS h ra rb fun x y t u h => SB.add (fun t' k => PE.sm h (PE.here r vrel.st _)) (duty h ho)
 ·exact tw rI rI h ra rb fun x y t u h => mul_int (PE.sm h (PE.here r vrel.i _)) (duty h ho)
 ·exact tw rI rI h ra rb fun x y t u h => itF h fun ne h => mod_int' ne (PE.sm h (PE.here r vrel.i _))
 ·exact tw rI rI h ra rb fun x y t u h => floordiv_int (duty h ho) (PE.sm h (PE.here r vrel.i _)) (.inl (qVl h ho))
theorem qE3 : seqSlot? (.type "list") (dunderI "add") = pure (some (.builtin "list.__iadd__")) := PySem.seqSlot_of F.slot_list_iadd.lookup (by decide +kernel)
theorem qMn {M : Model} {a b : Value} {Q : VP} (ha : s.TypeIs a "list") (hb : s.TypeIs b "list") (hc : wpAny M A (call (.builtin "list.__iadd__") [a, b]) Q E s) : wpAny M A (inplaceOp .Add a b) Q E s := by
 unfold inplaceOp
 refine wpAny_holding ?_
 have hfi : fillsInplaceSlot (.type "list") "add" (Operator.Add == .Add) = pure false := by
  unfold fillsInplaceSlot
  show (typeLookup (.type "list") (dunderI "add") >>= fun fi => pure (fi.isSome && !isSeqSlot fi)) = pure false
  rw [F.slot_list_iadd.lookup]; rfl
 refine wpAny_bind (wpAny_typeOf ha (wpAny_bind (wpAny_of_eq hfi ?_)))
 show wpAny M A (if false = true then _ else _) Q E s
 rw [if_neg Bool.false_ne_true]
 refine wpAny_bind (wpAny_binaryOp1_none (nm := "add") ha hb noFill_list_add ?_)
 refine wpAny_bind (wpAny_of_eq qE3 ?_)
 exact wpAny_bind (wpAny_rule hc)
theorem qCr {H : List AO} {i : Nat} {xs : List AV} (h : (H[i]?.bind lst?) = some xs) : H[i]? = some (.lst xs) := bd h fun o e h => by rw [e]; cases o <;> first | exact nos h | (cases h; rfl)
theorem qHT {H : List AO} {i : Nat} {xs : List AV} (h : (H[i]?.bind tup?) = some xs) : H[i]? = some (.tup xs) := bd h fun o e h => by rw [e]; cases o <;> first | exact nos h | (cases h; rfl)
theorem qCh {H : List AO} {i : Nat} {q : Addr × LV} (h : (H[i]?.bind qMm) = some q) : H[i]? = some (.inst q.1 q.2) := bd h fun o e h => by rw [e]; cases o <;> first | exact nos h | (cases h; rfl)
theorem qN6 {H : List AO} {i : Nat} {q : List Nat} (h : (H[i]?.bind sio?) = some q) : H[i]? = some (.sio q) := bd h fun o e h => by rw [e]; cases o <;> first | exact nos h | (cases h; rfl)
theorem qQn {H : List AO} {i : Nat} {q : Unit} (h : (H[i]?.bind deq?) = some q) : H[i]? = some .deq := bd h fun o e h => by rw [e]; cases o <;> first | exact nos h | rfl
theorem qMo {a b : AV} {va vb : Value} (h : two o? o? a b (fun i j => inpL i j S) = some (v, S', o)) (ho : ∀ p ∈ o, p) (ra : vrel ρ a va) (rb : vrel ρ b vb) (r : Rel cx ρ S s) : wpAny (MM cx.w) A (inplaceOp .Add va vb) (PE cx ρ v S') E s := by
 refine bd h fun i ei h => bd h fun j ej h => itF h fun _ h => bd h fun xs hi h => bd h fun ys hj h => ?_
 ·replace hi := qCr hi
  replace hj := qCr hj
  refine oz12 (oR ei ra) fun p hp zr1 => ?_
  subst zr1
  refine oz12 (oR ej rb) fun q hq zr1 => ?_
  subst zr1
  refine oz22 (r.hr.obj _ _ _ hi hp) fun vs n e1 e2 => ?_
  refine oz22 (r.hr.obj _ _ _ hj hq) fun ws k e3 e4 => ?_
  have hz := duty h ho
  have l1 := e2.length
  have l2 := e4.length
  have hT : s.TypeIs (.ref p.1) "list" := ⟨_, e1, rfl⟩
  have ex : (vs.toArray ++ ws.toArray) = (vs ++ ws).toArray := by simp
  have hT2 : s.TypeIs (.ref q.1) "list" := ⟨_, e3, rfl⟩
  refine qMn hT hT2 (call_meets F.slot_list_iadd hT F.entry_list_iadd (F.args_list_iadd_2 _ _) (AutoSeq1.list___iadd___list_list_0 p.1 vs.toArray n q.1 ws.toArray k ?_ ?_ ?_) ⟨e1, e3, ?_⟩)
  ·unfold Builtin.List.listTooLong
   simp only [List.size_toArray]
   rw [← l1, ← l2]
   rw [sizeLine_eq] at hz
   simp; intro _; rw [sizeLine_eq]; omega
  ·simp only [List.size_toArray]; omega
  ·simp only [List.size_toArray]; omega
  ·refine PE.sm h ⟨ρ, List.prefix_refl _, ⟨p, hp, rfl⟩, ?_⟩
   refine r.upd hi hp (fun p => rfl) (Chg.same (Heap.SameBut.update ..)) (k := s.toks) ?_
   have z := Heap.get?_update_self (Obj.mapSeq fun x => x ++ ws.toArray) e1 rfl
   refine ⟨vs ++ ws, if (vs.toArray ++ ws.toArray).size == vs.toArray.size then n else n + 1, ?_, e2.append e4⟩
   show _ = some ({ cls := .type "list", data := .seq (vs ++ ws).toArray _ } : Obj)
   rw [← ex]; exact z
theorem qEa {op : Operator} {a b : AV} {va vb : Value} (h : qPB op a b S = some (v, S', o)) (ho : ∀ p ∈ o, p) (ra : vrel ρ a va) (rb : vrel ρ b vb) (r : Rel cx ρ S s) : wpAny (MM cx.w) A (inplaceOp op va vb) (PE cx ρ v S') E s := by
 cases op <;> try exact nos h
 exact qAJ h (fun h => tw rI rI h ra rb fun x y t u h => iadd_int (PE.sm h (PE.here r vrel.i _))) fun h =>
  qAJ h (fun h => tw rS rS h ra rb fun x y t u h => SB.iadd (fun t' k => PE.sm h (PE.here r vrel.st _)) (duty h ho)) fun h =>
  qAJ h (fun h => tw rS rC h ra rb fun x y t u h => SB.iadd (fun t' k => PE.sm h (PE.here r vrel.st _)) (duty h ho)) fun h => qMo h ho ra rb r
theorem qGq {b c : Bool} (h : qHF b S = some (c, S', o)) (ho : ∀ p ∈ o, p) (r : Rel cx ρ S s) : c = b ∧ Rel cx ρ S' s := by
 unfold qHF at h
 split at h
 ·cases h; exact ⟨rfl, r⟩
 ·cases h; exact ⟨(ho _ (.head _)).symm, r.orc _⟩
theorem qDp {b c : Bool} (h : qEi b S = some (c, S', o)) (ho : ∀ p ∈ o, p) (r : Rel cx ρ S s) : c = b ∧ Rel cx ρ S' s := by
 unfold qEi at h
 split at h
 ·cases h; exact ⟨rfl, r⟩
 ·cases h; exact ⟨(ho _ (.head _)).symm, ⟨r.hr, r.ns, r.ft, r.lo, r.kp, r.rest⟩⟩
theorem qGb {a : AV} {c : Bool} {va : Value} (h : isNone a = some c) (ra : vrel ρ a va) : plainIs va .none = true ∧ (va == .none) = c := by
 cases a <;> first | exact nos h | (cases ra; cases h; exact ⟨rfl, rfl⟩) | (refine oz11 ra fun t e => ?_; subst e; cases h; exact ⟨rfl, rfl⟩) | (refine oz12 ra fun t _ e => ?_; subst e; cases h; exact ⟨rfl, rfl⟩)
theorem qTj (x y : String) : (Value.type x == Value.type y) = (x == y) := by rw [Bool.eq_iff_iff, beq_iff_eq, beq_iff_eq]; exact ⟨fun e => by cases e; rfl, fun e => by rw [e]⟩
theorem qPz {a b : AV} {c : Bool} {va vb : Value} (h : qQS a b = some c) (ra : vrel ρ a va) (rb : vrel ρ b vb) : plainIs va vb = true ∧ (va == vb) = c := by
 refine qAJ h (fun h => bd h fun _ e h => ?_) fun h => bd h fun x e1 h => bd h fun y e2 h => ?_
 ·refine oz11 (rN e rb) fun t e => ?_
  rw [e]; exact qGb h ra
 ·refine oz11 (rT e1 ra) fun t e1 => oz11 (rT e2 rb) fun t e2 => ?_
  rw [e1, e2]; exact ⟨rfl, (qTj x y).trans (Option.some.inj h)⟩
theorem qK7 {x y : Addr} {M : Model} {Q : Bool → Shared → Prop} (k : Kept cx.w s.heap) (hx : qEv x) (hy : qEv y) (h : Q (x == y) s) : wpAny M A (isSame (.ref x) (.ref y)) Q E s := by
 refine oz02 (hx) fun nx hx => ?_
 refine oz02 (hy) fun ny hy => ?_
 have hx := hx cx.w.params
 have hy := hy cx.w.params
 unfold qUn at hx hy
 split at hx
 rotate_left
 ·cases hx
 rename_i ox e1
 split at hy
 rotate_left
 ·cases hy
 rename_i oy e2
 show wpAny M A (if x == y then pure true else _) Q E s
 by_cases e : x = y
 ·subst e
  rw [if_pos (by simp)]
  exact wpAny_pure (by simpa using h)
 ·rw [if_neg (by simpa using e)]
  refine wpAny_bind (wpAny_load ((k _ _ e1).1 nx) (wpAny_bind (wpAny_load ((k _ _ e2).1 ny) ?_)))
  have : (x == y) = false := by simpa using e
  rw [this] at h
  split
  ·rename_i q _ _ _
   rw [q] at hx; cases hx
  ·exact wpAny_pure h
theorem qER {neg : Bool} {a b : AV} {va vb : Value} (h : isAV neg a b S = some (v, S', o)) (ho : ∀ p ∈ o, p) (ra : vrel ρ a va) (rb : vrel ρ b vb) (r : Rel cx ρ S s) : wpAny (MM cx.w) A (isSame va vb) (fun b s => PE cx ρ v S' (.bool (xor neg b)) s) E s := by
 refine qAJ h (fun h => tw rR rR h ra rb fun x y _ _ h => qK7 (cx := cx) r.hr.kept (duty h ho) (qVl h ho) (PE.sm h (PE.now r rfl))) fun h => bd h fun c h1 h2 => ?_
 refine oz02 (qPz h1 ra rb) fun q1 q2 => ?_
 exact wpAny_isSame_plain q1 (by rw [q2]; exact PE.sm h2 (PE.now r rfl))
theorem qCw {b : Bool} (h : bI b S = some (v, S', o)) (ho : ∀ p ∈ o, p) (r : Rel cx ρ S s) : PE cx ρ v S' (.bool b) s :=
 qA9 h ho fun c S1 o1 o2 h1 ho1 h2 _ => oz02 (qDp h1 ho1 r) fun e r1 => by subst e; exact PE.sm h2 (PE.now r1 rfl)
theorem qCW {b : Bool} (h : bB b S = some (v, S', o)) (ho : ∀ p ∈ o, p) (r : Rel cx ρ S s) : PE cx ρ v S' (.bool b) s :=
 qA9 h ho fun c S1 o1 o2 h1 ho1 h2 _ => oz02 (qGq h1 ho1 r) fun e r1 => by subst e; exact PE.sm h2 (PE.now r1 rfl)
theorem qP8 {a b : AV} {va vb : Value} (h : qQq .Eq a b S = some (v, S', o)) (ho : ∀ p ∈ o, p) (ra : vrel ρ a va) (rb : vrel ρ b vb) (r : Rel cx ρ S s) : wpAny (MM cx.w) A (compareOp .Eq va vb) (PE cx ρ v S') E s :=
 qAJ h (fun h => tw rS rS h ra rb fun x y t u h => P.eq_str (qCw h ho r)) fun h => qAJ h (fun h => tw rC rS h ra rb fun x y t u h => P.eq_str (qCW h ho r)) fun h =>
 qAJ h (fun h => tw rS rC h ra rb fun x y t u h => P.eq_str (qCW h ho r)) fun h => qAJ h (fun h => tw rN rN h ra rb fun x y t u h => PySem.EqNone.eq_none_none (PE.sm h (PE.now r rfl))) fun h =>
 qAJ h (fun h => tw rS rN h ra rb fun x y t u h => PySem.EqNone.eq_str_none (PE.sm h (PE.now r rfl))) fun h => tw rI rI h ra rb fun x y t u h => eq_int (qCw h ho r)
theorem is2 {neg : Bool} {va vb : Value} {m : Sem Value} (e : m = (do return Value.bool (xor neg (← isSame va vb)))) (h : wpAny (MM cx.w) A (isSame va vb) (fun b s => PE cx ρ v S' (.bool (xor neg b)) s) E s) : wpAny (MM cx.w) A m (PE cx ρ v S') E s := by
 rw [e]; exact wpAny_bind (wpAny_mono h (fun b s z => wpAny_pure z) fun _ _ x => x)
theorem qEl {op : CmpOp} {a b : AV} {va vb : Value} (h : qQq op a b S = some (v, S', o)) (ho : ∀ p ∈ o, p) (ra : vrel ρ a va) (rb : vrel ρ b vb) (r : Rel cx ρ S s) : wpAny (MM cx.w) A (compareOp op va vb) (PE cx ρ v S') E s := by
 cases op <;> try exact nos h
 ·exact qP8 h ho ra rb r
 ·exact qAJ h (fun h => tw rS rS h ra rb fun x y t u h => P.ne_str (PE.sm h (PE.now r rfl))) fun h => qAJ h (fun h => tw rC rS h ra rb fun x y t u h => P.ne_str (qCW h ho r)) fun h => tw rI rI h ra rb fun x y t u h => ne_int (qCw h ho r)
 ·exact tw rI rI h ra rb fun x y t u h => lt_int (qCw h ho r)
 ·exact tw rI rI h ra rb fun x y t u h => gt_int (qCw h ho r)
 ·exact tw rI rI h ra rb fun x y t u h => ge_int (qCw h ho r)
 ·exact is2 (neg := false) (by show (do return Value.bool (← isSame va vb)) = _; simp only [Bool.false_xor]) (qER (neg := false) h ho ra rb r)
 ·exact is2 (neg := true) (by show (do return Value.bool (!(← isSame va vb))) = _; simp only [Bool.true_xor]) (qER (neg := true) h ho ra rb r)
 ·exact qAJ h (fun h => tw rS rS h ra rb fun x y t u h => SB.contains (PE.sm h (PE.now r rfl))) fun h => tw rC rS h ra rb fun x y t u h => SB.contains (qCW h ho r)
 ·exact qAJ h (fun h => tw rS rS h ra rb fun x y t u h => SB.notContains (PE.sm h (PE.now r rfl))) fun h => tw rC rS h ra rb fun x y t u h => SB.notContains (qCW h ho r)
theorem qSR {n : Nat} (h : n ≤ sizeLine) : ¬ (n : Int) ≥ 2 ^ 63 := by rw [sizeLine_eq] at h; omega
theorem qBo {a : AV} {c : Bool} {va : Value} (h : qDT a S = some (c, S', o)) (ho : ∀ p ∈ o, p) (ra : vrel ρ a va) (r : Rel cx ρ S s) : wpAny (MM cx.w) A (truthy va) (PT cx ρ c S') E s := by
 cases a <;> try exact nos h
 ·rw [show va = .none from ra]; exact truthy_none (PT.sm h ⟨rfl, ρ, List.prefix_refl _, r⟩)
 ·rw [show va = _ from ra]; exact wpAny_truthy_bool (PT.sm h ⟨rfl, ρ, List.prefix_refl _, r⟩)
 ·refine oz11 ra fun t e => ?_
  rw [e]; exact P.truthy_int (PT.sm h ⟨rfl, ρ, List.prefix_refl _, r⟩)
 ·rename_i x
  refine oz11 ra fun t e => qA9 (x := some ((), S, [x.length ≤ sizeLine])) (f := fun _ S => qEi ((x.length : Int) != 0) S) h ho fun u S1 o1 o2 h1 ho1 h2 ho2 => ?_
  rw [e]
  refine oz02 (qDp h2 ho2 (show Rel cx ρ S1 s by cases h1; exact r)) fun e r1 => ?_
  rw [e]
  exact P.truthy_str (qSR (duty h1 ho1)) ⟨rfl, ρ, List.prefix_refl _, r1.toks _⟩
 ·refine oz11 ra fun t e => ?_
  rw [e]; exact P.truthy_str (qSR (by show 1 ≤ sizeLine; decide)) (PT.sm h ⟨rfl, ρ, List.prefix_refl _, r.toks _⟩)
 ·refine oz12 ra fun p hp e => bd h fun _ hi h => ?_
  rw [e]
  exact qI2 (r.hr.obj _ _ _ (qQn hi) hp) (PT.sm h ⟨rfl, ρ, List.prefix_refl _, r.toks _⟩)
end
end
section
abbrev Csv (w : World) (cs : Cs) (d : Nat) : Prop := ∀ f sp, cs f = some sp → Fn w f d sp
section
variable {cx : Cx} {ρ : Rho} {S S' : Sta} {s : Shared} {A : Around} {E : VP} {v : AV} {o : List Prop}
noncomputable abbrev Kx (cx : Cx) : Frag := KK cx.w.params
theorem qLy {P : Params} {C : Addr} {a : Str} (h : pg C = true) : plainGet (KK P) C a = true := by
 rcases (Bool.or_eq_true _ _).mp h with e | e
 all_goals
  rw [beq_iff_eq.mp e]
  kernel_rfl
theorem Rel.fr (r : Rel cx ρ S s) : ∃ m, Fr (Hx cx.w.params) cx.L s.heap m := by
 refine oz12 (r.ns) fun m n _ => ?_
 exact ⟨m, n, r.hr.kept.hx, by rw [qNv]; exact r.lo.1⟩
theorem qMu {sc : Scope} {q0 : Str} {a : Addr} {cd : Value} {x : Str} {u : AV} (h : qUW (Kx cx) x = some u) (r : Rel cx ρ S s) {Q : VP} (k : ∀ c, vrel ρ u c → Q c s) : wpAny (MM cx.w) A (loadGlobal (envOf q0 sc cx.L a cd) x) Q E s := by
 refine bd h fun q g h => ?_
 unfold loadGlobal
 refine wpAny_bind ((looks_nsIn r.X g).here ?_)
 cases q with
 | some v => exact wpAny_pure (k v (by cases h; rfl))
 | none =>
  refine mp h fun v g2 h => bd g2 fun w g2 e => ?_
  refine wpAny_bind ((looks_nsIn (ns := builtinsNs) r.X g2).here ?_)
  rw [show w = some v from e]
  exact wpAny_pure (k v (by cases h; rfl))
theorem qCA {sc : Scope} {q : Str} {a : Addr} {cd : Value} {x : Str} (hk : sc.kind = .function) (h : qAi (Kx cx) sc x S = some (v, S', o)) (r : Rel cx ρ S s) :
  wpAny (MM cx.w) A (loadName (envOf q sc cx.L a cd) x) (PE cx ρ v S') E s ∧ (x == ("__debug__" : Str)) = false := by
 refine itF h fun hd h => ⟨?_, by simpa using hd⟩
 split at h
 ·rename_i hl
  refine bd h fun u h1 h2 => ?_
  refine oz12 (r.ns) fun m n q' => ?_
  refine oz12 (q' _ _ h1) fun c e1 e2 => ?_
  exact wpAny_loadName_local (env := envOf q sc cx.L a cd) hk hl n e1 (PE.sm h2 (PE.now r e2))
 ·rename_i hl
  refine bd h fun u h1 h2 => ?_
  have e : loadName (envOf q sc cx.L a cd) x = loadGlobal (envOf q sc cx.L a cd) x := by
   have hl' : (envOf q sc cx.L a cd).kindOf x = some .globalImplicit := hl
   have hk' : (envOf q sc cx.L a cd).scope.kind = .function := hk
   unfold loadName
   simp only [Env.blockKind, hk', hl', ScopeKind.isAnnotationScope, Bool.false_and, Bool.false_eq_true, if_false]
  rw [e]
  exact qMu h1 r fun c rc => PE.sm h2 (PE.now r rc)
 ·exact nos h
theorem qAD {sc : Scope} {q : Str} {a : Addr} {cd : Value} {x : Str} {pos : Pos} (hk : sc.kind = .function) (h : qAi (Kx cx) sc x S = some (v, S', o)) (r : Rel cx ρ S s) :
  wpAny (MM cx.w) A (eval (.Name x pos) (envOf q sc cx.L a cd)) (PE cx ρ v S') E s :=
 have z := qCA (q := q) (a := a) (cd := cd) (A := A) (E := E) hk h r
 wpAny_Name z.1 z.2
theorem qFo {y x : Str} {b : AV} {e : DictEntry} (he : erel ρ (y, b) e) : e.key.isStr x = (y == x) := oz11 he.1 fun t hk => by rw [hk]; rfl
theorem qMC {x : Str} {es : List DictEntry} {en : DictEntry} (h : es.find? (·.key.isStr x) = some en) : getL x es = some (some en.val) := by unfold getL; rw [h]
theorem qM2 {x : Str} {fs : LV} {es : List DictEntry} (hr : All2 (erel ρ) fs es) {w : AV} (h : fs.lookup x = some w) : ∃ en, es.find? (·.key.isStr x) = some en ∧ vrel ρ w en.val := by
 induction hr with
 | nil => exact nos h
 | @cons a e fs es he r ih =>
  obtain ⟨y, b⟩ := a
  rw [List.lookup_cons] at h
  rw [List.find?_cons, qFo he]
  by_cases z : x = y
  ·rw [z, beq_self_eq_true] at h ⊢
   exact ⟨e, rfl, by rw [← Option.some.inj h]; exact he.2⟩
  ·rw [beq_eq_false_iff_ne.mpr z] at h
   rw [beq_eq_false_iff_ne.mpr (Ne.symm z)]
   exact ih h
theorem qIF {x : Str} {fs : LV} {es : List DictEntry} (hr : All2 (erel ρ) fs es) {w : AV} (h : fs.lookup x = some w) : ∃ u, getL x es = some (some u) ∧ vrel ρ w u :=
 oz12 (qM2 hr h) fun en e1 e2 => ⟨en.val, qMC e1, e2⟩
theorem qJW {fs : LV} {es : List DictEntry} (hr : All2 (erel ρ) fs es) : es.any (·.refKey) = false := by
 induction hr with
 | nil => rfl
 | @cons a e fs es he r ih =>
  rw [List.any_cons, ih, Bool.or_false]
  refine oz11 he.1 fun t hk => ?_
  unfold DictEntry.refKey
  rw [hk]
theorem qM1 {x : Str} {fs : LV} {es : List DictEntry} (hr : All2 (erel ρ) fs es) (h : fs.lookup x = none) : es.find? (·.key.isStr x) = none := by
 induction hr with
 | nil => rfl
 | @cons a e fs es he r ih =>
  obtain ⟨y, b⟩ := a
  rw [List.lookup_cons] at h
  rw [List.find?_cons, qFo he]
  by_cases z : x = y
  ·rw [z, beq_self_eq_true] at h; exact nos h.symm
  ·rw [beq_eq_false_iff_ne.mpr z] at h
   rw [beq_eq_false_iff_ne.mpr (Ne.symm z)]
   exact ih h
theorem qCT {x : Str} {fs : LV} {es : List DictEntry} (r : All2 (erel ρ) fs es) (h : fs.lookup x = none) : getL x es = some none := by
 unfold getL
 rw [qM1 r h, qJW r]; rfl
theorem qGd {w : AV} {u : Value} (h : qL0 w = true) (r : vrel ρ w u) : handedIn u = true := by
 cases w <;> first | (rw [show u = _ from r]; first | rfl | exact h) | (refine oz12 r fun p _ e => ?_; rw [e]; rfl) | exact oz11 r fun t e => by rw [e]; rfl
theorem qBO {cs : Cs} {d : Nat} {f : Addr} {args : List AV} {vals : List Value} (hcs : Csv cx.w cs d) (h : qCV cs f args S = some (v, S', o)) (ho : ∀ p ∈ o, p) (ra : vrels ρ args vals) (r : Rel cx ρ S s) (ok : AOK cx A d) :
  codeAny (MM cx.w) A (.call (.ref f) ⟨vals, []⟩) (back (PE cx ρ v S') E) s := by
 refine bd h fun sp h1 h2 => bd h2 fun q h3 h4 => ?_
 obtain ⟨rv, H', ob⟩ := q
 exact hcs f sp h1 A s ρ S.H args _ _ _ vals h3 (by cases h4; exact ho) ok.room r.hr (ok.disj r) ra _ _ fun u s' ρ' hp hv hr kp hf hs => PE.sm h4 ⟨ρ', hp, hv, r.called ok hp hr kp hf hs⟩
theorem AOK.in1 {d : Nat} (ok : AOK cx A (d + 1)) : AOK cx A.in1 d := ⟨⟨⟨by have := ok.room.1.1; show A.depth + d ≤ 900; omega, by have := ok.room.1.2; show A.units + 1 + 20 * d ≤ 9000; omega⟩, ok.room.2⟩, ok.fr, ok.cxF⟩
theorem AOK.le {d d' : Nat} (ok : AOK cx A d) (h : d' ≤ d) : AOK cx A d' := ⟨ok.room.le h, ok.fr, ok.cxF⟩
theorem qGc {C : Addr} {fs : LV} {p : Addr × Addr} {h : Heap} {es : List DictEntry} {n : Nat} (h1 : h.get? p.1 = some (instObj C p.2)) (h2 : h.get? p.2 = some (dictOf es n)) : InstAt h p.1 (instObj C p.2) C (some (dictOf es n)) := ⟨h1, rfl, rfl, h2⟩
theorem qPO {q : Option (Option Value)} (h : fno? q = true) : q = some none := by
 cases q with
 | none => cases h
 | some q => cases q with
  | none => rfl
  | some _ => cases h
theorem qGe {q : Option (Option Value)} {a : Addr} (h : qSN q = some a) : q = some (some (.ref a)) := bd h fun q e h => bd h fun u e2 h => by rw [e, e2, qDR h]
theorem qSI {q : Option (List Value)} {a : Addr} (h : hd? q = some a) : ∃ rest, q = some (.ref a :: rest) := bd h fun u e h => bd e fun l e2 e3 => by
 cases l with
 | nil => cases e3
 | cons w l => exact ⟨l, by rw [e2, ← qDR h, Option.some.inj e3]⟩
theorem qUk {α : Type} {a v : α} {S S' : Sta} {l o : List Prop} (h : some (a, S, l) = some (v, S', o)) : a = v := by cases h; rfl
theorem qHm {i : Nat} {q : Addr × LV} {p : Addr × Addr} {C : Prop} (r : Rel cx ρ S s) (hi : (S.H[i]?.bind qMm) = some q) (hp : ρ[i]? = some p)
  (k : ∀ m es n, Fr (Hx cx.w.params) cx.L s.heap m → s.heap.get? p.1 = some (instObj q.1 p.2) → s.heap.get? p.2 = some (dictOf es n) → All2 (erel ρ) q.2 es → C) : C :=
 oz02 (r.hr.obj _ _ _ (qCh hi) hp) fun h1 z => oz22 z fun es n h2 hes => oz11 r.fr fun m F => k m es n F h1 h2 hes
theorem qEV {cs : Cs} {d : Nat} {x : AV} {a : Str} {xv : Value} {ex : Bool} (hcs : Csv cx.w cs d) (h : qNp (Kx cx) cs x a S = some (v, S', o)) (hl : qL0 v = true) (ho : ∀ p ∈ o, p) (rx : vrel ρ x xv) (r : Rel cx ρ S s) (ok : AOK cx A (d + 1)) :
  wpAny (MM cx.w) A (getAttr xv a ex) (PE cx ρ v S') E s := by
 refine bd h fun i ei h => bd h fun q hi h => itT h fun hg h => oz12 (oR ei rx) fun p hp zr1 => qHm r hi hp fun m es n F h1 h2 hes => ?_
 subst zr1
 have I := qGc (C := q.1) (fs := q.2) h1 h2
 have X := qHk cx.w.params
 refine oz02 (Bool.and_eq_true_iff.mp hg) fun hg hh => ?_
 refine ite2 h (fun hno h => bd h fun w e1 e2 => oz12 (qIF hes e1) fun u e3 e4 => get_own F X I (qLy hg) hh (qPO hno) rfl e3 (qGd ((congrArg qL0 (qUk e2)).trans hl) e4) (PE.sm e2 (PE.here r e4 _)))
  fun _ h => bd h fun pa hfi h => itT h fun hpr h => bd h fun fget hrec h => oz11 (qSI hrec) fun rest hrec => ?_
 refine oz02 (Bool.and_eq_true_iff.mp hpr) fun hp1 hp2 => ?_
 refine get_prop F X I (qLy hg) hh (qGe hfi) (beq_iff_eq.mp hp1) (beq_iff_eq.mp hp2) hrec ?_
 refine codeAny_mono (qBO (E := fun e s' => wpAny (MM cx.w) A (noteIf true (.ref p.1) (.str a s.toks) e) (fun _ s'' => E e s'') E s') hcs h ho (.cons rx .nil) (r.toks _) ok.in1) fun rr s' z => ?_
 rcases rr with e | (_ | _ | _ | u) <;> first | exact z | skip
 refine oz13 (z) fun ρ' z1 z2 z3 => ?_
 show wpAny _ _ (handedOut u) _ _ _
 rw [handedOut_of (qGd hl z2)]
 exact wpAny_pure ⟨ρ', z1, z2, z3⟩
end
end
section
theorem qAy {e : PySem.Expr} {rest : List PySem.Expr} {env : Env} (h : qBG e = true) : starEach (e :: rest) env = (false, eval e env) :: starEach rest env := by
 cases e <;> first | rfl | cases h
noncomputable def qA4 : List PySem.Expr → Bool := fun l => l.all qBG
theorem qBg {e : PySem.Expr} {es : List PySem.Expr} (h : qA4 (e :: es) = true) : qBG e = true ∧ qA4 es = true := Bool.and_eq_true_iff.mp h
theorem qJV {f : PySem.Expr → Sta → R AV} {es : List PySem.Expr} {S S' : Sta} {vs : List AV} {o : List Prop} (h : evL f es S = some (vs, S', o)) : qA4 es = true := by
 induction es generalizing S S' vs o with
 | nil => rfl
 | cons e es ih =>
  exact itT h fun q h => bn2 h fun v S1 o1 o2 h1 h2 => bn2 h2 fun ws S2 o3 o4 h3 h4 => Bool.and_eq_true_iff.mpr ⟨q, ih h3⟩
theorem qM0 {f : PySem.Expr → Sta → R AV} {es : List PySem.Expr} {S S' : Sta} {vs : List AV} {o : List Prop} (h : evL f es S = some (vs, S', o)) : vs.length = es.length := by
 induction es generalizing S S' vs o with
 | nil => cases h; rfl
 | cons e es ih => exact itT h fun _ h => bn2 h fun v S1 o1 o2 _ h2 => bn2 h2 fun ws S2 o3 o4 h3 h4 => by cases h4; exact congrArg Nat.succ (ih h3)
theorem qBU {e : PySem.Expr} {rest : List PySem.Expr} {env : Env} {pos : Pos} (h : qBG e = true) : backTo pos (starEach (e :: rest) env) = (false, eval e env) :: backTo pos (starEach rest env) := by
 rw [qAy h]; rfl
theorem qCv {env : Env} {pos : Pos} {es : List PySem.Expr} (h : qA4 es = true) : (backTo pos (starEach es env)).any (·.1) = false := by
 induction es with
 | nil => rfl
 | cons e es ih => rw [qBU (qBg h).1, List.any_cons, ih (qBg h).2]; rfl
theorem qQy {env : Env} {pos : Pos} {es : List PySem.Expr} (h : qA4 es = true) : (backTo pos (starEach es env)).all (fun x => !x.1) = true := by
 induction es with
 | nil => rfl
 | cons e es ih => rw [qBU (qBg h).1, List.all_cons, ih (qBg h).2]; rfl
section
variable {M : Model} {A : Around} {E : VP} {s : Shared} {env : Env} {pos : Pos}
theorem qB1 {f : Value} {Q : Args → Shared → Prop} {es : List PySem.Expr} (hs : qA4 es = true) (h : wpAny M A (spliced (backTo pos (starEach es env))) (fun vs s' => Q ⟨vs, []⟩ s') E s) : wpAny M A (evalArgs f true (backTo pos (starEach es env)) []) Q E s := by
 cases es with
 | nil =>
  unfold evalArgs
  show wpAny M A (spliced [] >>= _) Q E s
  refine wpAny_bind (wpAny_mono h (fun vs s' h' => ?_) fun _ _ x => x)
  refine wpAny_bind (wpAny_pure (wpAny_holding ?_))
  exact wpAny_bind (wpAny_pure (wpAny_bind (wpAny_pure (wpAny_pure h'))))
 | cons e es =>
  rw [qBU (qBg hs).1] at h ⊢
  exact Calls.evalArgs_plain h
theorem qAx {K : Frag} {f : Value} {first : List Value} {Q : VP} {es : List PySem.Expr} (hs : qA4 es = true) (hk : keepIn K f = true)
  (h : wpAny M A (spliced (backTo pos (starEach es env))) (fun vs s1 => K.In s1.heap ∧ wpAny M A (call f (first ++ vs)) Q E s1) E s) : wpAny M A (callWith pos f first (backTo pos (starEach es env)) []) Q E s :=
 callWith_of (by rw [qCv hs]; rfl) (keeps_K hk) (qB1 hs h)
theorem qAT {i : String} {first : List Value} {Q : VP} {es : List PySem.Expr} (hs : qA4 es = true)
  (h : wpAny M A (spliced (backTo pos (starEach es env))) (fun vs s1 => wpAny M A (call (.builtin i) (first ++ vs)) Q E s1) E s) : wpAny M A (callWith pos (.builtin i) first (backTo pos (starEach es env)) []) Q E s :=
 Calls.callWith_builtin (qCv hs) (qB1 hs h)
theorem qB4 {i : String} {first : List Value} {Q : VP} {es : List PySem.Expr} (hs : qA4 es = true)
  (h : wpAny M A (spliced (backTo pos (starEach es env))) (fun vs s1 => wpAny M A (call (.type i) (first ++ vs)) Q E s1) E s) : wpAny M A (callWith pos (.type i) first (backTo pos (starEach es env)) []) Q E s :=
 PySem.callWith_type (qCv hs) (qB1 hs h)
end
def qAY (cx : Cx) (env : Env) (d : Nat) (f : PySem.Expr → Sta → R AV) : Prop :=
 ∀ e S v S' o, f e S = some (v, S', o) → (∀ p ∈ o, p) → ∀ A ρ s E, AOK cx A d → Rel cx ρ S s → wpAny (MM cx.w) A (eval e env) (PE cx ρ v S') E s
def qEY (cx : Cx) (env : Env) (d : Nat) (f : PySem.Expr → Sta → R Bool) : Prop :=
 ∀ e S b S' o, f e S = some (b, S', o) → (∀ p ∈ o, p) → ∀ A ρ s E, AOK cx A d → Rel cx ρ S s → wpAny (MM cx.w) A (isTrue e env (eval e env)) (PT cx ρ b S') E s
section
variable {cx : Cx} {ρ : Rho} {S S' : Sta} {s : Shared} {A : Around} {E : VP} {v : AV} {o : List Prop} {env : Env} {d : Nat}
theorem qGj {f : PySem.Expr → Sta → R AV} (hf : qAY cx env d f) {pos : Pos} {es : List PySem.Expr} {vs : List AV} (h : evL f es S = some (vs, S', o)) (ho : ∀ p ∈ o, p) (ok : AOK cx A d) (r : Rel cx ρ S s) :
  wpAny (MM cx.w) A (spliced (backTo pos (starEach es env))) (PEs cx ρ vs S') E s := by
 induction es generalizing S S' vs o ρ s with
 | nil => exact Calls.spliced_nil (PEs.sm h ⟨ρ, List.prefix_refl _, .nil, r⟩)
 | cons e es ih =>
  refine itT h fun q h => ?_
  rw [qBU q]
  refine Calls.spliced_cons (bwE h ho (fun u S1 o1 h1 ho1 => hf _ _ _ _ _ h1 ho1 A ρ s E ok r) fun u S1 o2 h2 ho2 ρ1 c s1 p1 v1 r1 => ?_)
  exact bwL h2 ho2 (fun us S2 o3 h3 ho3 => ih h3 ho3 r1) fun us S2 o4 h4 _ ρ2 cs s2 p2 v2 r2 => PEs.sm h4 ⟨ρ2, p1.trans p2, .cons (v1.mono p2) v2, r2⟩
variable {β : Type} {b : β}
theorem be {f : PySem.Expr → Sta → R AV} (hf : qAY cx env d f) {e : PySem.Expr} {g : AV → Sta → R β} (h : bnd (f e S) g = some (b, S', o)) (ho : ∀ p ∈ o, p) (ok : AOK cx A d) (r : Rel cx ρ S s) {Q : VP}
  (k : ∀ u S1 o2, g u S1 = some (b, S', o2) → (∀ p ∈ o2, p) → ∀ ρ1 c s1, ρ <+: ρ1 → vrel ρ1 u c → Rel cx ρ1 S1 s1 → Q c s1) : wpAny (MM cx.w) A (eval e env) Q E s :=
 bwE h ho (fun _ _ _ h1 ho1 => hf _ _ _ _ _ h1 ho1 A ρ s E ok r) k
theorem bt {f : PySem.Expr → Sta → R Bool} (hf : qEY cx env d f) {e : PySem.Expr} {g : Bool → Sta → R β} (h : bnd (f e S) g = some (b, S', o)) (ho : ∀ p ∈ o, p) (ok : AOK cx A d) (r : Rel cx ρ S s) {Q : Bool → Shared → Prop}
  (k : ∀ u S1 o2, g u S1 = some (b, S', o2) → (∀ p ∈ o2, p) → ∀ ρ1 s1, ρ <+: ρ1 → Rel cx ρ1 S1 s1 → Q u s1) : wpAny (MM cx.w) A (isTrue e env (eval e env)) Q E s :=
 bwT h ho (fun _ _ _ h1 ho1 => hf _ _ _ _ _ h1 ho1 A ρ s E ok r) k
theorem bl {f : PySem.Expr → Sta → R AV} (hf : qAY cx env d f) {es : List PySem.Expr} {pos : Pos} {g : List AV → Sta → R β} (h : bnd (evL f es S) g = some (b, S', o)) (ho : ∀ p ∈ o, p) (ok : AOK cx A d) (r : Rel cx ρ S s) {Q : List Value → Shared → Prop}
  (k : ∀ u S1 o2, g u S1 = some (b, S', o2) → (∀ p ∈ o2, p) → ∀ ρ1 c s1, ρ <+: ρ1 → vrels ρ1 u c → Rel cx ρ1 S1 s1 → Q c s1) : wpAny (MM cx.w) A (spliced (backTo pos (starEach es env))) Q E s :=
 bwL h ho (fun _ _ _ h1 ho1 => qGj hf h1 ho1 ok r) k
theorem bn {sc : Scope} {q : Str} {a : Addr} {cd : Value} (hk : sc.kind = .function) {y : Str} {yp : Pos} {g : AV → Sta → R β} (h : bnd (qAi (Kx cx) sc y S) g = some (b, S', o)) (ho : ∀ p ∈ o, p) (r : Rel cx ρ S s) {Q : VP}
  (k : ∀ u S1 o2, g u S1 = some (b, S', o2) → (∀ p ∈ o2, p) → ∀ ρ1 c s1, ρ <+: ρ1 → vrel ρ1 u c → Rel cx ρ1 S1 s1 → Q c s1) : wpAny (MM cx.w) A (eval (.Name y yp) (envOf q sc cx.L a cd)) Q E s :=
 bwE h ho (fun _ _ _ h1 _ => qAD hk h1 r) k
theorem qCk {f : PySem.Expr → Sta → R AV} {es : List PySem.Expr} {g : List AV → Sta → R β} (h : bnd (evL f es S) g = some (b, S', o)) : qA4 es = true := bn2 h fun _ _ _ _ h1 _ => qJV h1
end
end
section
theorem qCo {i : PySem.Expr} {ov iv : Value} (h : qHl i = false) : subscripted i false ov iv = operate [ov, iv] (getItem ov iv) := by
 cases i <;> first | rfl | cases h
section
variable {cx : Cx} {ρ : Rho} {S S' : Sta} {s : Shared} {A : Around} {E : VP} {v : AV} {o : List Prop} {env : Env} {d : Nat}
theorem qHp {xs : List AV} {vs : List Value} (r : vrels ρ xs vs) {k : Nat} (h : k < xs.length) : ∃ u, vs[k]? = some u ∧ vrel ρ (xs.getD k .none) u := by
 have e : xs[k]? = some (xs.getD k .none) := by
  rw [List.getD_eq_getElem?_getD, List.getElem?_eq_getElem h]; rfl
 exact r.get e
theorem qLQ {k : Int} {n : Nat} (h0 : 0 ≤ k) (h1 : k < n) : k.toNat < n := by omega
theorem qUx {k : Int} (h0 : 0 ≤ k) : -(2 ^ 63) ≤ k := by omega
theorem qNj {x : Str} {k : Int} (h0 : 0 ≤ k) (h1 : k < x.length) : (Txt.charAt x k).isSome = true := by
 unfold Txt.charAt
 rw [seqIndex_of h0 h1, Option.bind_some, Array.getElem?_eq_getElem (qLQ h0 h1)]; rfl
theorem qMG {x : Str} {k : Int} (h0 : 0 ≤ k) (h1 : k < x.length) (h2 : x.length ≤ sizeLine) : fitsSsize k = true := by
 rw [sizeLine_eq] at h2
 unfold fitsSsize
 simp; omega
theorem qJI {q i : PySem.Expr} {a b : AV} {av bv : Value} (hsl : qHl i = false) (h : qQR a b S = some (v, S', o)) (ho : ∀ p ∈ o, p) (ra : vrel ρ a av) (rb : vrel ρ b bv) (r : Rel cx ρ S s) :
  wpAny (MM cx.w) A (subscriptTail q i av bv) (PE cx ρ v S') E s := by
 refine qAJ h (fun h => tw rS rI h ra rb fun x k t u h => ?_) fun h => bd h fun j ej h => bd h fun k ek h => oz12 (oR ej ra) fun p hp e1 => oz11 (rI ek rb) fun u e2 => ?_
 ·refine oz03 (duty h ho) fun h0 h1 h2 => ?_
  exact tail_any (typeIs_str _ _ _) F.slot_str_getitem.lookup (SB.getItem (qMG h0 h1 h2) (qNj h0 h1) (PE.sm h (PE.here r vrel.st _))) (qCo hsl)
 ·subst e1; subst e2
  refine qAJ h (fun h => bd h fun xs hi h => ?_) fun h => bd h fun xs hi h => ?_
  ·refine oz03 (duty h ho) fun h0 h1 h2 => ?_
   refine oz22 (r.hr.obj _ _ _ (qCr hi) hp) fun vs n e rv => ?_
   refine oz12 (qHp rv (qLQ h0 h1)) fun y hy ry => ?_
   have hL : s.heap.IsList p.1 vs.toArray := ⟨_, e, rfl, n, rfl⟩
   exact tail_any hL.typeIs slot_list_getitem.lookup (wpAny_getItem_list hL h0 h2 (by simpa using hy) (PE.sm h (PE.now r ry))) (qCo hsl)
  ·refine oz03 (duty h ho) fun h0 h1 h2 => ?_
   refine oz22 (r.hr.obj _ _ _ (qHT hi) hp) fun vs n e rv => ?_
   refine oz12 (qHp rv (qLQ h0 h1)) fun y hy ry => ?_
   have hT : IsTup s.heap p.1 vs.toArray := ⟨_, e, rfl, n, rfl⟩
   refine tail_any hT.typeIs slot_tuple_getitem.lookup (getItem_tuple hT (qUx h0) h2 (seqIndex_of h0 ?_) (by simpa using hy) (PE.sm h (PE.now r ry))) (qCo hsl)
   rw [List.size_toArray, ← rv.length]; exact h1
theorem qCY {M : Model} {q : PySem.Expr} {m : Str} {ap pos : Pos} {args : List PySem.Expr} {Q : VP} (hb : qEQ q = true) (hline : (ap.endLine == pos.line) = true) (hn : args.length < 20) (hs : qA4 args = true)
  (h : wpAny M A (eval q env) (fun ov s1 => ∀ pl, wpAny M A (getMethod ov m pl) (fun fx s2 => wpAny M A (callWith pos fx.1 fx.2 (backTo pos (starEach args env)) []) Q E s2) E s1) E s) :
  wpAny M A (eval (.Call (.Attribute q m ap) args [] pos) env) Q E s := by
 have hbase : attributeBase q m env (eval q env) = eval q env := by cases q <;> first | rfl | cases hb
 rw [arm_eval_Call, hbase]
 refine wpAny_bind (wpAny_mono h (fun ov s1 h1 => ?_) fun _ _ e => e)
 refine wpAny_bind (wpAny_standAt ?_)
 have hform : methodCallForm (args.length + ([] : List Keyword).length) (backTo pos (starEach args env)) (backToKw pos (keywordEach [] env)) = true := by
  unfold methodCallForm
  rw [qQy hs]
  simp only [List.length_nil, Nat.add_zero, Bool.true_and]
  show (true && decide (args.length + 0 < 30)) = true
  simp; omega
 have hpos : methodCallPos true q env ap pos = pure pos := by unfold methodCallPos; simp [hline]
 unfold methodCall
 rw [hform]
 refine wpAny_bind (wpAny_holding (wpAny_mono (h1 _) (fun fx s2 h2 => ?_) fun _ _ e => e))
 exact wpAny_bind (wpAny_of_eq hpos h2)
end
end
section
open PySem.Calls Builtin Builtin.ObjectAttr Builtin.Getset_descriptor
section
variable {w : World} {h : Heap}
theorem qSi (X : (KK w.params).In h) : Looks (MM w) h (Bind.madeBy (.ref 604)) none := Looks.of_peek X (by kernel_rfl)
theorem qSk (X : (KK w.params).In h) : Looks (MM w) h (Bind.madeHere "object.__new__" (.ref 604)) () := Looks.of_peek X (by kernel_rfl)
theorem qSm (X : (KK w.params).In h) : Looks (MM w) h (Bind.staticBase (.ref 604)) (.type "object") := Looks.of_peek X (by kernel_rfl)
theorem qO8 (X : (KK w.params).In h) : Looks (MM w) h (Bind.madeBy (.type "object")) (some "object.__new__") := Looks.of_peek X (by kernel_rfl)
theorem qUJ (X : (KK w.params).In h) : Looks (MM w) h (mroOf (.ref 604)) [.ref 604, .ref 127, .ref 100, .type "object"] := Looks.of_peek X (by kernel_rfl)
theorem qSl (P : Params) : specialIn (KK P) (.ref 604) "__call__" = some (some (.builtin "type.__call__")) := by kernel_rfl
theorem qLZ (P : Params) : instIn (KK P) (.ref 604) (.type "type") = some true := by kernel_rfl
theorem qUI (P : Params) : findCls (KK P) (.ref 604) (.type "type") "__new__" = some (.get (.builtin "staticmethod.__get__") (.ref 101) .none (.ref 604)) := by kernel_rfl
theorem qWG (P : Params) : recIn (KK P) 101 "staticmethod" = some [.ref 97] := by kernel_rfl
theorem qO7 (P : Params) : readsIn (KK P) 604 (.type "type") = true := by kernel_rfl
theorem qSh (P : Params) : findCls (KK P) (.type "object") (.type "type") "__new__" = some (.val (.builtin "object.__new__")) := by kernel_rfl
theorem qKl : typeOf (.type "object") = pure (.type "type") := by kernel_rfl
theorem qGQ : Manifest.isStub "object" = false := by kernel_rfl
theorem qHn : handedIn (.builtin "object.__new__") = true := by kernel_rfl
theorem qLY (P : Params) : mroIn (KK P) 604 (.ref 604) = some true := by kernel_rfl
theorem qSg (P : Params) : mroIn (KK P) 604 (.type "object") = some true := by kernel_rfl
theorem qSj (P : Params) : findIn (KK P) (.ref 604) "__init__" = some (some (.ref 374)) := by kernel_rfl
noncomputable def qNi (o : Obj) : ClassData := match o.data with
 | .cls cd => cd
 | _ => default
theorem qVw (P : Params) : (KK P).lookup 604 = some ⟨(o604 P).cls, (o604 P).dict, .cls (qNi (o604 P)), (o604 P).slots⟩ := by kernel_rfl
theorem qWT (P : Params) : (qNi (o604 P)).abstract = false := by kernel_rfl
theorem qVn (P : Params) : (qNi (o604 P)).hasDel = false := by kernel_rfl
end
section
variable {w : World} {A : Around} {R : RP} {h : Heap} {g : Array GenState} {d : Drawn} {t : Nat} {os : OsState}
theorem qUw (X : (KK w.params).In h) (hq : R (.ok (.ret (.ref (h.objs.size + 1)))) ⟨(h.push emptyDict).push (instObj 604 h.objs.size), g, d, t, os⟩) :
  codeAny (MM w) A (.call (.builtin "object.__new__") ⟨[.ref 604], []⟩) R ⟨h, g, d, t, os⟩ := by
 have F := PySem.F.objNew
 have hC := X _ _ (qVw w.params)
 have here := qSk X
 have base := qSm X
 have omade := qO8 X
 have self := looks_mroIn (M := MM w) X (qLY w.params)
 have top := looks_mroIn (M := MM w) X (qSg w.params)
 have typ := looks_instIn (M := MM w) X (qLZ w.params)
 have e1 := qWT w.params
 have e2 := qVn w.params
 refine codeAny_call_builtin_code (Code.quiet_builtin _ F.quiet) ?_
 simp only [checkBuiltinCall, F.kind, F.split, F.row]
 have args : Bind.checkArgs "object.__new__" ⟨.hand, "object.__new__", "__new__", .cls, []⟩ ⟨[.ref 604], []⟩ = pure () := by kernel_rfl
 rw [args]
 repeat (first | simp only [bne_self_eq_false, Bool.false_eq_true, if_false] | lk)
 refine codeAny_builtin F.entry ?_
 unfold Builtin.«object.__new__»
 have fin : ∀ A', wpAny (MM w) A' (do
   let d ← if typeHasDict (.ref 604) then some <$> alloc { cls := .type "dict", data := .dict #[] } else pure none
   ret (← newObj (.ref 604) .plain d)) (fun fin s' => match fin with | .done f => R (.ok f) s' | .again c' => c'.quiet = true ∧ codeAny (MM w) A c' R s') (fun e s' => R (.error e) s') ⟨h, g, d, t, os⟩ := by
  intro A'
  show wpAny _ _ ((alloc emptyDict >>= fun x => pure (some x)) >>= _) _ _ _
  refine wpAny_bind (wpAny_bind (wpAny_alloc (wpAny_pure (wpAny_bind ?_))))
  show wpAny _ _ (newObjAsIs _ _ _) _ _ _
  unfold newObjAsIs classHasDel
  refine wpAny_bind (wpAny_alloc (wpAny_bind (wpAny_bind (wpAny_load (Heap.get?_push_of_some _ (Heap.get?_push_of_some _ hC)) (wpAny_pure ?_)))))
  rw [e2]
  refine wpAny_pure (wpAny_pure ?_)
  show R _ _
  rw [Heap.size_push]
  exact hq
 repeat (first | simp only [e1, Bool.false_eq_true, if_false] | exact fin _ | lk)
end
theorem qU3 {w : World} {A : Around} {E : VP} {s : Shared} {L : Addr} {m : Str → Option Value} {pl : Sem Bool} {Q : Value × List Value → Shared → Prop} (F : Fr (Hx w.params) L s.heap m) (h : Q (.builtin "object.__new__", []) { s with toks := s.toks + 1 }) :
  wpAny (MM w) A (getMethod (.type "object") (Str.ofString "__new__") pl) Q E s :=
 method_type (K := KK w.params) (T := "object") (name := Str.ofString "__new__") (v := .builtin "object.__new__") F (qHk w.params) qKl qGQ (qSh w.params) qHn h
end
section
section
variable {cx : Cx} {ρ : Rho} {S S' : Sta} {s : Shared} {A : Around} {E : VP} {v : AV} {o : List Prop} {env : Env} {d : Nat}
theorem rSt : Rd qTz Value.str := fun {ρ a x va} h r => qAJ h (fun h => rS h r) fun h => mp h fun c e1 e2 => by subst e2; exact rC e1 r
theorem qIP {ρ0 : Rho} (p : ρ0 <+: ρ) {rr : Result} {s' : Shared} (z : back (PE cx ρ v S') E rr s') : back (PE cx ρ0 v S') E rr s' := by
 rcases rr with e | (_ | _ | _ | w) <;> first | exact z | exact PE.pre p z
theorem oneR {vs : List AV} {ws : List Value} {y : AV} (h : one? vs = some y) (r : vrels ρ vs ws) : ∃ yv, ws = [yv] ∧ vrel ρ y yv := by
 cases r with
 | nil => exact nos h
 | cons a r => cases r with
  | nil => exact ⟨_, rfl, by rw [← Option.some.inj h]; exact a⟩
  | cons _ _ => exact nos h
theorem qBX {α : Type} {l : List α} {y : α} (h : one? l = some y) : l = [y] := by
 cases l with
 | nil => exact nos h
 | cons a l => cases l with
  | nil => rw [← Option.some.inj h]
  | cons _ _ => exact nos h
theorem qSY {f : PySem.Expr → Sta → R AV} {es : List PySem.Expr} {vs : List AV} {y : AV} {C : Prop} (h : evL f es S = some (vs, S', o)) (ho : ∀ p ∈ o, p) (h1 : one? vs = some y)
  (k : ∀ e o1, es = [e] → qBG e = true → f e S = some (y, S', o1) → (∀ p ∈ o1, p) → C) : C := by
 have l := qM0 h
 rw [qBX h1] at h l
 cases es with
 | nil => exact nomatch l
 | cons e es =>
  cases es with
  | cons _ _ => exact nomatch l
  | nil => exact itT h fun q h => qA9 h ho fun w S1 o1 o2 h2 ho1 h ho2 => bn2 h fun ws S2 o3 o4 h3 h4 => by cases h3; cases h4; exact k e o1 rfl q h2 ho1
section
variable {cs : Cs} {f : PySem.Expr → Sta → R AV} {q : PySem.Expr} {m : Str} {ap pos : Pos} {args : List PySem.Expr} {u : AV} {S1 : Sta} {mt : Mt}
theorem qD6 (hf : qAY cx env (d + 1) f) (hcs : Csv cx.w cs d) {C : Addr} (hb : qEQ q = true) (hline : (ap.endLine == pos.line) = true) (hn : args.length < 20) (hq : wpAny (MM cx.w) A (eval q env) (PE cx ρ u S1) E s)
  (hu : ∀ ρ1 s1 uv, vrel ρ1 u uv → Rel cx ρ1 S1 s1 → ∃ p es n, uv = .ref (Prod.fst p) ∧ s1.heap.get? p.1 = some (instObj C p.2) ∧ s1.heap.get? p.2 = some (dictOf es n) ∧ getL m es = some none)
  (hg : pg C = true) (hm : fnOf (Kx cx) C m = some mt) (h : (bnd (evL f args S1) fun vs S => qEI cs u mt vs S) = some (v, S', o)) (ho : ∀ p ∈ o, p) (ok : AOK cx A (d + 1)) :
  wpAny (MM cx.w) A (eval (.Call (.Attribute q m ap) args [] pos) env) (PE cx ρ v S') E s := by
 refine bd hm fun g hfi hm => itT hm fun hfk hm => ?_
 have e := Option.some.inj hm
 subst e
 have hs := qCk h
 refine oz02 (Bool.and_eq_true_iff.mp hfk) fun hfn hk => ?_
 refine qCY hb hline hn hs (wpAny_mono hq (fun uv s1 z => oz13 z fun ρ1 p1 v1 r1 => ?_) fun _ _ x => x)
 intro pl
 refine oz34 (hu ρ1 s1 uv v1 r1) fun p es n e h1 h2 h3 => ?_
 subst e
 refine oz11 (r1.fr) fun mm Fm => ?_
 refine method_inst Fm (qHk cx.w.params) (qGc (C := C) (fs := []) h1 h2) (qLy hg) (qGe hfi) hfn h3 ?_
 refine qAx (K := Kx cx) hs hk (bl hf h ho ok r1 fun vs S2 o4 h4 ho4 ρ2 ws s2 p2 v2 r2 => ⟨r2.X, ?_⟩)
 exact wpAny_call (codeAny_mono (qBO (E := E) hcs h4 ho4 (.cons (v1.mono p2) v2) r2 (ok.le (Nat.le_succ d))) fun rr s' z => qIP (p1.trans p2) z)
theorem qHb (hf : qAY cx env (d + 1) f) (hbase : attributeBase q (Str.ofString "find") env (eval q env) = eval q env) (hline : (ap.endLine == pos.line) = true) (hq : wpAny (MM cx.w) A (eval q env) (PE cx ρ u S1) E s)
  (h : (bnd (evL f args S1) fun vs S => qEI cs u .find vs S) = some (v, S', o)) (ho : ∀ p ∈ o, p) (ok : AOK cx A (d + 1)) :
  wpAny (MM cx.w) A (eval (.Call (.Attribute q (Str.ofString "find") ap) args [] pos) env) (PE cx ρ v S') E s := by
 refine qA9 h ho fun vs S2 o3 o4 h4 ho3 h5 _ => bd h5 fun x ex h5 => bd h5 fun y ey h5 => bd h5 fun ys eys h5 => qSY h4 ho3 ey fun e o5 ea q1 h6 ho5 => ?_
 subst ea
 refine Call_method1 hbase (qAy q1) hline (wpAny_mono hq (fun uv s1 z => oz13 z fun ρ1 p1 v1 r1 => ?_) fun _ _ x => x)
 refine oz11 (rS ex v1) fun t zr1 => ?_
 subst zr1
 refine SB.find (wm (hf e S1 _ _ o5 h6 ho5 A ρ1 s1 E ok r1) (fun wv s2 z => oz13 z fun ρ2 p2 v2 r2 => ?_))
 refine oz11 (rSt eys v2) fun t2 zr1 => ?_
 subst zr1
 exact ⟨_, _, rfl, PE.sm h5 ⟨ρ2, p1.trans p2, vrel.i, r2.toks _⟩⟩
theorem qHc (hf : qAY cx env (d + 1) f) (hb : qEQ q = true) (hline : (ap.endLine == pos.line) = true) (hn : args.length < 20) (hq : wpAny (MM cx.w) A (eval q env) (PE cx ρ u S1) E s) {i : Nat} {xs : List AV} (ei : o? u = some i) (hi : S1.H[i]?.bind lst? = some xs)
  (h : (bnd (evL f args S1) fun vs S => qEI cs u .append vs S) = some (v, S', o)) (ho : ∀ p ∈ o, p) (ok : AOK cx A (d + 1)) :
  wpAny (MM cx.w) A (eval (.Call (.Attribute q (Str.ofString "append") ap) args [] pos) env) (PE cx ρ v S') E s := by
 have hs := qCk h
 refine qCY hb hline hn hs (wpAny_mono hq (fun uv s1 z => oz13 z fun ρ1 p1 v1 r1 => ?_) fun _ _ x => x)
 intro pl
 refine oz12 (oR ei v1) fun p hp zr1 => ?_
 subst zr1
 refine oz22 (r1.hr.obj _ _ _ (qCr hi) hp) fun vs1 n1 e1 rv1 => ?_
 refine Calls.getMethod_list_append e1 rfl rfl ?_
 refine qAT hs (bl hf h ho ok r1 fun vs S2 o4 h4 ho4 ρ2 ws s2 p2 v2 r2 => ?_)
 refine bd (show qIS u vs S2 = _ from h4) fun j ej h4 => bd h4 fun y ey h4 => bd h4 fun ys hys h4 => oz12 (oneR ey v2) fun yv e vy => ?_
 have ej := Option.some.inj (ei.symm.trans ej)
 subst ej e
 have hp2 := qBi p2 hp
 refine oz22 (r2.hr.obj _ _ _ (qCr hys) hp2) fun vs2 n2 e2 rv2 => ?_
 refine append_at e2 (fun h' hsb hq => ?_) (by rw [List.size_toArray, ← rv2.length]; exact Nat.le_of_lt (duty h4 ho4))
 refine PE.sm h4 ⟨ρ2, p1.trans p2, rfl, ?_⟩
 refine r2.upd (qCr hys) hp2 (fun p => rfl) (Chg.same hsb) (k := s2.toks) ?_
 exact ⟨vs2 ++ [yv], n2 + 1, by show h'.get? p.1 = _; rw [hq, List.push_toArray], rv2.append (.cons vy .nil)⟩
theorem qHa (hf : qAY cx env (d + 1) f) (hb : qEQ q = true) (hline : (ap.endLine == pos.line) = true) (hn : args.length < 20) (hq : wpAny (MM cx.w) A (eval q env) (PE cx ρ u S1) E s) (eu : ty? u = some "object")
  (h : (bnd (evL f args S1) fun vs S => qEI cs u .onew vs S) = some (v, S', o)) (ho : ∀ p ∈ o, p) (ok : AOK cx A (d + 1)) :
  wpAny (MM cx.w) A (eval (.Call (.Attribute q (Str.ofString "__new__") ap) args [] pos) env) (PE cx ρ v S') E s := by
 have hs := qCk h
 with_reducible refine qCY hb hline hn hs (wpAny_mono hq (fun uv s1 z => oz13 z fun ρ1 p1 v1 r1 => ?_) fun _ _ x => x)
 intro pl
 refine oz11 (rT eu v1) fun t zr1 => ?_
 subst zr1
 with_reducible refine oz11 (r1.fr) fun mm Fm => ?_
 with_reducible refine qU3 Fm ?_
 with_reducible refine qAT hs (bl hf h ho ok (r1.toks _) fun vs S2 o4 h4 ho4 ρ2 ws s2 p2 v2 r2 => ?_)
 refine bd (show qQL vs S2 = _ from h4) fun y ey h4 => bd h4 fun w ew h4 => itT h4 fun e h4 => oz12 (oneR ey v2) fun yv ez vy => oz11 (rR ew vy) fun t et => ?_
 subst e ez et
 obtain ⟨hh, g, dd, tk, os⟩ := s2
 with_reducible refine wpAny_call (qUw r2.X ?_)
 refine PE.sm h4 ⟨ρ2 ++ [(hh.objs.size + 1, hh.objs.size)], (p1.trans p2).trans (List.prefix_append _ _), ⟨(hh.objs.size + 1, hh.objs.size), by rw [← r2.hr.len]; simp, rfl⟩, ?_⟩
 refine r2.new (k := tk) ⟨fun b o e _ => Heap.get?_push_of_some _ (Heap.get?_push_of_some _ e)⟩ ⟨by heap_get, [], 0, Heap.get?_push_of_some _ (Heap.get?_push_size _ rfl), .nil⟩ (by simp [foot]) ?_
 intro a ha
 simp [foot] at ha
 show hh.objs.size ≤ a
 rcases ha with rfl | rfl
 ·with_reducible exact Nat.le_succ _
 ·with_reducible exact Nat.le_refl _
theorem qN7 {m : Str} {buf : Str} {k : Nat} {es : List DictEntry} (hl : (!([sNl, sBuf, sPos].contains m)) = true) (hes : All2 (erel ρ) (qBV buf k) es) : getL m es = some none := by
 refine qCT hes ?_
 have hl' : [sNl, sBuf, sPos].contains m = false := by simpa using hl
 simp only [List.contains_cons, List.contains_nil, Bool.or_false, Bool.or_eq_false_iff] at hl'
 refine oz03 (hl') fun a1 a2 a3 => ?_
 simp only [qBV, List.lookup_cons, a1, a2, a3, List.lookup_nil]
theorem qJA (hf : qAY cx env (d + 1) f) (hcs : Csv cx.w cs d) (hb : qEQ q = true) (hline : (ap.endLine == pos.line) = true) (hn : args.length < 20)
  (h : (bnd (f q S) fun v S => (qQO (Kx cx) v m S).bind fun mt => bnd (evL f args S) fun vs S => qEI cs v mt vs S) = some (v, S', o)) (ho : ∀ p ∈ o, p)
  (ok : AOK cx A (d + 1)) (r : Rel cx ρ S s) : wpAny (MM cx.w) A (eval (.Call (.Attribute q m ap) args [] pos) env) (PE cx ρ v S') E s := by
 refine qA9 h ho fun u S1 o1 o2 h1 ho1 h2 ho2 => bd h2 fun mt hmt h3 => ?_
 have hq : wpAny (MM cx.w) A (eval q env) (PE cx ρ u S1) E s := hf q S u S1 o1 h1 ho1 A ρ s E ok r
 refine qAJ hmt (fun hm => bd hm fun i ei hm => bd hm fun qq hi hm => itT hm fun hg hm => oz02 (Bool.and_eq_true_iff.mp hg) fun hg hl => qD6 hf hcs hb hline hn hq (fun ρ1 s1 uv v1 r1 => oz12 (oR ei v1) fun p hp e => qHm r1 hi hp fun _ es n _ h1 h2 hes => ⟨p, es, n, e, h1, h2, qCT hes (Option.isNone_iff_eq_none.mp hl)⟩) hg hm h3 ho2 ok)
  fun hmt => qAJ hmt (fun hm => bd hm fun i ei hm => bd hm fun qq hi hm => itT hm fun hg hm => oz02 (Bool.and_eq_true_iff.mp hg) fun hg hl => qD6 hf hcs hb hline hn hq (fun ρ1 s1 uv v1 r1 => oz12 (oR ei v1) fun p hp e => oz22 (r1.hr.obj _ _ _ (qN6 hi) hp) fun buf k z _ => oz02 z fun h1 z => oz22 z fun es n h2 hes => ⟨p, es, n, e, h1, h2, qN7 hl hes⟩) hg hm h3 ho2 ok)
  fun hmt => qAJ hmt (fun hm => bd hm fun x ex hm => itT hm fun hm1 hm => ?_)
  fun hmt => qAJ hmt (fun hm => bd hm fun i ei hm => bd hm fun xs hi hm => itT hm fun hm1 hm => ?_)
  fun hm => bd hm fun x ex hm => itT hm fun hg hm => oz02 (Bool.and_eq_true_iff.mp hg) fun hx hm1 => ?_
 all_goals (have e := Option.some.inj hm; have e2 := beq_iff_eq.mp hm1; subst e e2)
 ·exact qHb hf (by cases q <;> first | rfl | cases hb) hline hq h3 ho2 ok
 ·exact qHc hf hb hline hn hq ei hi h3 ho2 ok
 ·exact qHa hf hb hline hn hq (by rw [ex, beq_iff_eq.mp hx]) h3 ho2 ok
end
end
end
section
noncomputable abbrev dqT : String := "collections.deque"
noncomputable abbrev dqN : String := "collections.deque.__new__"
noncomputable abbrev dqI : String := "collections.deque.__init__"
theorem qQY : mroOf (.type dqT) = pure [.type dqT, .type "object"] := by rw [mroOf_type]; kernel_rfl
theorem qVm : typeLookup (.type dqT) "__new__" = pure (some (.builtin dqN)) := by rw [typeLookup_type, builtinLookup_eq_fast]; kernel_rfl
theorem qS5 : Slot dqT "__init__" dqI :=
 .of (owner := dqT) (n := "__init__") (by rw [typeLookup_type, builtinLookup_eq_fast]; kernel_rfl) (by decide +kernel) (by decide +kernel) (by decide +kernel)
  (by first | exact .inl (by decide +kernel) | exact .inr (by decide +kernel)) (by rw [isSubtype_type]; kernel_rfl)
theorem qQX : isSubtype (.type dqT) (.type dqT) = pure true := by rw [isSubtype_type]; kernel_rfl
theorem qM8 : TypeCalled dqT dqN dqI :=
 ⟨by decide +kernel, by decide +kernel, ⟨_, _, qQY⟩, madeBy_type qQY qVm (by decide +kernel), by decide +kernel, qQX, qS5⟩
theorem qHD : checkTypeCall dqT ⟨[], []⟩ = pure () := by kernel_rfl
theorem qJY : checkBuiltinCall dqN ⟨[.type dqT], []⟩ = pure () := by kernel_rfl
theorem qM6 : entryFor table dqN = some Builtin.«collections.deque.__new__» := entryFor_of_tree (by kernel_rfl)
theorem qM7 : entryFor table dqI = some Builtin.«collections.deque.__init__» := entryFor_of_tree (by kernel_rfl)
theorem qGn : plainId dqN = true := by decide +kernel
theorem qQk (a : Value) : argsOk dqI ⟨[a], []⟩ := by unfold argsOk; kernel_rfl
section
variable {prog : Program} {w : World} {A : Around} {E : VP} {s : Shared}
theorem qS6 {Q1 : VP} (h : Q1 (.ref s.heap.objs.size) { s with heap := s.heap.push qGp }) :
  codeAny (model prog w) A (.call (.builtin dqN) ⟨[.type dqT], []⟩) (wants Q1 E) s := by
 refine codeAny_of_tree ?_
 show wpAny _ A.in1 (do checkBuiltinCall dqN ⟨[.type dqT], []⟩; again (.builtin dqN ⟨[.type dqT], []⟩)) _ _ s
 refine wpAny_bind (wpAny_of_eq qJY (wpAny_pure ⟨plainId_quiet qGn _, codeAny_builtin qM6 ?_⟩))
 rw [Around.under_plainId qGn _]
 unfold Builtin.«collections.deque.__new__» Builtin.Deque.newArgs Builtin.Deque.new
 have hsub : isSubtype (.type dqT) (.type Builtin.Deque.ty) = pure true := qQX
 have hty : isType (.type dqT) = pure true := by kernel_rfl
 have hdict : typeHasDict (.type dqT) = false := by kernel_rfl
 obtain ⟨hp, g, d, tk, os⟩ := s
 dsimp only
 with_reducible refine wpAny_bind (wpAny_bind (wpAny_of_eq hty ?_))
 with_reducible refine wpAny_ite_false (by decide) ?_
 with_reducible refine wpAny_bind (wpAny_of_eq hsub ?_)
 with_reducible refine wpAny_ite_false (by decide) ?_
 with_reducible refine wpAny_pure ?_
 with_reducible refine wpAny_bind (wpAny_ite_false (by decide) ?_)
 with_reducible refine wpAny_ite_false (by rw [hdict]; decide) ?_
 with_reducible refine wpAny_bind (wpAny_pure ?_)
 refine wpAny_newObj_type ?_ (by unfold sizeOk; rw [sizeLine_eq]; decide)
 exact wpAny_pure h
theorem qJ0 {Q : VP} (h : ∀ h', (∀ b o, s.heap.get? b = some o → h'.get? b = some o) → h'.get? s.heap.objs.size = some qGp → Q (.ref s.heap.objs.size) { s with heap := h' }) :
  wpAny (model prog w) A (call (.type dqT) []) Q E s := by
 refine callType_codes (Q₁ := fun obj s1 => obj = .ref s.heap.objs.size ∧ s1 = { s with heap := s.heap.push qGp }) qM8 qHD qM7 (qS6 ⟨rfl, rfl⟩) fun obj s1 h₁ => ?_
 obtain ⟨rfl, rfl⟩ := h₁
 have hS : (s.heap.push qGp).get? s.heap.objs.size = some qGp := Heap.get?_push_size _ rfl
 refine ⟨⟨_, hS, rfl⟩, qQk _, ?_⟩
 unfold Builtin.«collections.deque.__init__»
 dsimp only
 simp only [List.length_nil, List.take_zero, List.zipIdx_nil, List.forIn_nil, List.lookup_nil, Nat.add_zero, gt_iff_lt, Nat.not_lt_zero, if_false, pure_bind, bind_pure_comp]
 have h1 := Heap.get?_update_self (Obj.mapFields (·.setIfInBounds 0 .none)) hS (by rfl)
 refine wpAny_bind (wpAny_setField hS rfl (by simp) ?_)
 unfold Builtin.Deque.clear Builtin.Deque.items
 refine wpAny_bind (wpAny_bind (wpAny_bind (wpAny_fieldsOf h1 rfl (wpAny_pure ?_))))
 rw [if_neg (by decide)]
 refine wpAny_pure (wpAny_pure ⟨rfl, h _ (fun b o e => ?_) h1⟩)
 have hb := Heap.get?_push_of_some qGp e
 exact (Heap.get?_update_other _ _ (Nat.ne_of_gt (Heap.lt_size e))).trans hb
end
end
section
section
variable {cx : Cx} {ρ : Rho} {S S' : Sta} {s : Shared} {A : Around} {E : VP} {v : AV} {o : List Prop} {env : Env} {d : Nat}
theorem qFw {cs : Cs} {f : PySem.Expr → Sta → R AV} (hf : qAY cx env (d + 1) f) (hcs : Csv cx.w cs d) {ga : Addr} {pos : Pos} {args : List PySem.Expr}
  (h : (bnd (evL f args S) fun vs S => qCV cs ga vs S) = some (v, S', o)) (hk : keepIn (Kx cx) (.ref ga) = true) (ho : ∀ p ∈ o, p) (ok : AOK cx A (d + 1)) (r : Rel cx ρ S s) :
  wpAny (MM cx.w) A (callWith pos (.ref ga) [] (backTo pos (starEach args env)) []) (PE cx ρ v S') E s :=
 qAx (K := Kx cx) (qCk h) hk (bl hf h ho ok r fun vs S2 o4 h4 ho4 ρ2 ws s2 p2 v2 r2 => ⟨r2.X, wpAny_call (codeAny_mono (qBO (E := E) hcs h4 ho4 v2 r2 (ok.le (Nat.le_succ d))) fun rr s' z => qIP p2 z)⟩)
theorem qWe {vs : List AV} {ws : List Value} {y : AV × AV} (h : qUu vs = some y) (r : vrels ρ vs ws) : ∃ a b, ws = [a, b] ∧ vrel ρ y.1 a ∧ vrel ρ y.2 b := by
 cases r with
 | nil => exact nos h
 | cons a r => exact mp h fun w e1 e2 => oz12 (oneR e1 r) fun b e3 rb => by subst e2 e3; exact ⟨_, _, rfl, a, rb⟩
theorem qFx {i : String} {vs : List AV} {ws : List Value} (h0 : qNm i vs S = some (v, S', o)) (ho : ∀ p ∈ o, p) (v2 : vrels ρ vs ws) (r : Rel cx ρ S s) :
  wpAny (MM cx.w) A (call (.builtin i) ws) (PE cx ρ v S') E s := by
 refine ite2 h0 (fun e h => bd h fun y ey h => bd h fun x ex h => oz12 (oneR ey v2) fun w ew rw => oz11 (rS ex rw) fun t et => ?_)
  fun _ h1 => itT h1 fun e h => bd h fun y ey h => bd h fun x ex h => bd h fun t et h => itT h fun e2 h => oz23 (qWe ey v2) fun w1 w2 ew r1 r2 => oz11 (rS ex r1) fun t1 et1 => oz11 (rT et r2) fun t2 et2 => ?_
 ·subst e ew et
  exact P.len_str (qSR (duty h ho)) (PE.sm h (PE.here r vrel.i _))
 ·subst e e2 ew et1 et2
  exact IsiPair.str_str (PE.sm h (PE.now r rfl))
theorem qHE {vs : List AV} {ws : List Value} (h : (if vs.isEmpty then qOY .deq S else none) = some (v, S', o)) (v2 : vrels ρ vs ws) (r : Rel cx ρ S s) :
  wpAny (MM cx.w) A (call (.type "collections.deque") ws) (PE cx ρ v S') E s := by
 refine itT h fun e h => ?_
 cases v2 with
 | cons _ _ => exact nomatch e
 | nil =>
  refine qJ0 fun h' hk hd => PE.sm h ?_
  refine ⟨ρ ++ [(s.heap.objs.size, 0)], List.prefix_append _ _, ⟨(s.heap.objs.size, 0), by rw [← r.hr.len]; simp, rfl⟩, ?_⟩
  refine r.new (k := s.toks) ⟨fun b o e _ => hk b o e⟩ hd (by simp [foot]) ?_
  intro a ha
  simp [foot] at ha; subst ha; exact Nat.le_refl _
theorem qI1 {i : String} {vs : List AV} {ws : List Value} (h0 : qQA i vs S = some (v, S', o)) (v2 : vrels ρ vs ws) (r : Rel cx ρ S s) :
  wpAny (MM cx.w) A (call (.type i) ws) (PE cx ρ v S') E s := by
 refine ite2 h0 (fun e h => by subst e; exact qHE h v2 r) fun _ h1 => bd h1 fun y ey h2 => oz12 (oneR ey v2) fun w ew rw => ite2 h2
  (fun e h => qAJ h (fun h => bd h fun x ex h => oz11 (rI ex rw) fun t et => ?_) fun h => bd h fun x ex h => oz11 (rS ex rw) fun t et => ?_) fun _ h3 => itT h3 fun e h => bd h fun x ex h => oz11 (rI ex rw) fun t et => ?_
 all_goals subst e ew et
 ·exact call_type_of (Tx := "int") rfl (by decide +kernel) (PE.sm h (PE.now r rfl))
 ·exact call_type_of (Tx := "str") rfl (by decide +kernel) (PE.sm h (PE.now r rfl))
 ·exact call_int_int (PE.sm h (PE.now r vrel.i))
theorem qGu {cs : Cs} {f : PySem.Expr → Sta → R AV} (hf : qAY cx env (d + 1) f) (hcs : Csv cx.w cs d) {g : AV} {gv : Value} {pos : Pos} {args : List PySem.Expr}
  (hg : vrel ρ g gv) (h : (bnd (evL f args S) fun vs S => qQ1 (Kx cx) cs g vs S) = some (v, S', o)) (ho : ∀ p ∈ o, p) (ok : AOK cx A (d + 1)) (r : Rel cx ρ S s) :
  wpAny (MM cx.w) A (callWith pos gv [] (backTo pos (starEach args env)) []) (PE cx ρ v S') E s := by
 have hs := qCk h
 have eg : l? g = some gv := bn2 h fun vs S1 o1 o2 _ h2 => bd h2 fun u eu _ => by rw [eu, lR eu hg]
 replace h : (bnd (evL f args S) fun vs S => qTb (Kx cx) cs gv vs S) = some (v, S', o) := (congrArg (fun z : Option Value => bnd (evL f args S) fun vs S => z.bind fun u => qTb (Kx cx) cs u vs S) eg).symm.trans h
 cases gv <;> try exact bn2 h fun _ _ _ _ _ h => nos h
 ·exact qB4 hs (bl hf h ho ok r fun vs S2 o4 h4 ho4 ρ2 ws s2 p2 v2 r2 => wpre p2 (qI1 h4 v2 r2))
 ·exact qAT hs (bl hf h ho ok r fun vs S2 o4 h4 ho4 ρ2 ws s2 p2 v2 r2 => wpre p2 (qFx h4 ho4 v2 r2))
 ·rename_i ga
  have hk : keepIn (Kx cx) (.ref ga) = true := bn2 h fun vs S1 o1 o2 _ h2 => itT h2 fun e _ => e
  refine qFw hf hcs (ga := ga) ?_ hk ho ok r
  exact (congrArg (fun z : List AV → Sta → R AV => bnd (evL f args S) z) (funext fun vs => funext fun S => (if_pos hk).symm)).trans h
theorem qF2 {vs : List AV} {ws : List Value} (rv : vrels ρ vs ws) (r : Rel cx ρ S s) (hz : vs.length ≤ 1000) (b : Bool) : wpAny (MM cx.w) A (if b then newTuple ws else newList ws) (PE cx ρ (.obj S.H.length) { S with H := S.H ++ [if b then .tup vs else .lst vs] }) E s := by
 have l : ws.toArray.size ≤ sizeLine := by rw [List.size_toArray, ← rv.length]; exact Nat.le_trans hz (by decide +kernel)
 have n : ∀ (o : AO) (ob : Obj), ORel (ρ ++ [(s.heap.objs.size, 0)]) o (s.heap.objs.size, 0) (s.heap.push ob) → foot o (s.heap.objs.size, 0) = [s.heap.objs.size] → PE cx ρ (.obj S.H.length) { S with H := S.H ++ [o] } (.ref s.heap.objs.size) { s with heap := s.heap.push ob } := by
  intro o ob ho hf
  refine ⟨ρ ++ [(s.heap.objs.size, 0)], List.prefix_append _ _, ⟨(s.heap.objs.size, 0), by rw [← r.hr.len]; simp, rfl⟩, ?_⟩
  refine r.new (k := s.toks) (Chg.push [] _ _) ho (by rw [hf]; simp) ?_
  intro a ha
  rw [hf] at ha
  rw [ls ha]; exact Nat.le_refl _
 cases b
 ·exact wpAny_newObj_type (n (.lst vs) _ ⟨ws, 0, Heap.get?_push_size _ rfl, qBP (List.prefix_append _ _) rv⟩ rfl) l
 ·exact wpAny_newObj_type (n (.tup vs) _ ⟨ws, 0, Heap.get?_push_size _ rfl, qBP (List.prefix_append _ _) rv⟩ rfl) l
theorem Rel.push (r : Rel cx ρ S s) (ob : Obj) (k : Nat) : Rel cx ρ S { s with heap := s.heap.push ob, toks := k } := by
 refine oz12 (r.ns) fun m n q => ?_
 have c := Chg.push [] s.heap ob
 have n' := n.keeps fun b o e => c.keep b o e (by simp)
 exact ⟨r.hr.out c (by simp), ⟨m, n', q⟩, r.ft, r.lo, r.kp.step c (by simp), r.rest⟩
theorem qQp {e : PySem.Expr} {x : Str} (h : csE? e = some x) : ∃ a b, e = .Constant (.str x) a b := by
 cases e <;> try exact nos h
 rename_i c _ _
 cases c <;> try exact nos h
 exact ⟨_, _, by rw [← Option.some.inj h]⟩
theorem qF3 {e : PySem.Expr} {x : List PySem.Expr} (h : qUB e = some x) : ∃ a, e = .List x a := by
 cases e <;> try exact nos h
 exact ⟨_, by rw [← Option.some.inj h]⟩
theorem qDS {e : PySem.Expr} {x : List PySem.Expr} (h : qRb e = some x) : ∃ a b, e = .Tuple x a b := by
 cases e <;> try exact nos h
 exact ⟨_, _, by rw [← Option.some.inj h]⟩
theorem qAS {e : PySem.Expr} {x : Str} (h : qCz e = some x) : ∃ a, e = .Name x a := by
 cases e <;> try exact nos h
 exact ⟨_, by rw [← Option.some.inj h]⟩
theorem qDg {e : PySem.Expr} {x : PySem.Expr × Str × Pos} (h : qIQ e = some x) : e = .Attribute x.1 x.2.1 x.2.2 := by
 cases e <;> try exact nos h
 rw [← Option.some.inj h]
theorem qFR {e : PySem.Expr} {x : Option PySem.Expr × Option PySem.Expr × Option PySem.Expr} (h : qE2 e = some x) : ∃ a, e = .Slice x.1 x.2.1 x.2.2 a := by
 cases e <;> try exact nos h
 exact ⟨_, by rw [← Option.some.inj h]⟩
theorem qJ1 {e : PySem.Expr} {x : PySem.Expr × List PySem.Expr × List Keyword} (h : qQ0 e = some x) : ∃ a, e = .Call x.1 x.2.1 x.2.2 a := by
 cases e <;> try exact nos h
 exact ⟨_, by rw [← Option.some.inj h]⟩
theorem qEs {pos : Pos} {es : List PySem.Expr} {zs : List Str} (h : qCm es = some zs) (r : Rel cx ρ S s) : wpAny (MM cx.w) A (spliced (backTo pos (starEach es env))) (fun vs s' => StrsAre vs zs ∧ Rel cx ρ S s') E s := by
 induction es generalizing zs s with
 | nil => cases h; exact Calls.spliced_nil ⟨.nil, r⟩
 | cons e es ih =>
  refine bd h fun x ex h => mp h fun ys ey e => oz21 (qQp ex) fun a b e2 => ?_
  subst e e2
  rw [qBU rfl]
  exact Calls.spliced_cons (Calls.Constant_str (wm (ih ey (r.toks _)) (fun vs s' z => ⟨.cons _ _ z.1, z.2⟩)))
theorem qDU {vs : List Value} {zs : List Str} (h : StrsAre vs zs) : vs.length = zs.length := by
 induction h with
 | nil => rfl
 | cons _ _ _ ih => exact congrArg Nat.succ ih
theorem qIq {op : CmpOp} {q : PySem.Expr} {k : InC} (h : qCt op q = some k) : behindInMarks op q = false := by
 refine bd h fun b eb h => qAJ h (fun h => bd h fun es ee _ => oz11 (qF3 ee) fun _ e => ?_) fun h => itF h fun hb h => bd h fun es ee _ => oz21 (qDS ee) fun _ _ e => ?_
 all_goals subst e
 all_goals (cases op <;> first | exact nos eb | rfl)
theorem qLS {es : List PySem.Expr} {zs : List Str} {pos : Pos} {Q : List Value → Shared → Prop} (h1 : qCm es = some zs) (hz : zs.length ≤ 1000) (r : Rel cx ρ S s) (k : ∀ vs s1, vs.toArray.size ≤ sizeLine → StrsAre vs zs → Rel cx ρ S s1 → Q vs s1) :
  wpAny (MM cx.w) A (spliced (backTo pos (starEach es env))) Q E s :=
 wm (qEs h1 r) (fun vs s1 z => k vs s1 (by rw [List.size_toArray, qDU z.1]; exact Nat.le_trans hz (by decide +kernel)) z.1 z.2)
theorem qIp {op : CmpOp} {q : PySem.Expr} {k : InC} {a : AV} {av : Value} (hk : qCt op q = some k) (h : inDo k a S = some (v, S', o)) (ra : vrel ρ a av) (r : Rel cx ρ S s) :
  wpAny (MM cx.w) A (eval q env) (fun b s2 => wpAny (MM cx.w) A (compareOp op av b) (PE cx ρ v S') E s2) E s := by
 refine bd h fun x ex h => itT h fun hl h => oz11 (rS ex ra) fun t et => ?_
 subst et
 refine bd hk fun b eb hk => qAJ hk (fun hk => bd hk fun es ee hk => mp hk fun zs h1 e => oz11 (qF3 ee) fun _ e2 => ?_) fun hk => itF hk fun hb hk => bd hk fun es ee hk => mp hk fun zs h1 e => oz21 (qDS ee) fun _ _ e2 => ?_
 all_goals subst e e2
 ·refine List_ (qLS h1 hl r fun vs s1 lz z1 z2 => wpAny_newObj_type ?_ lz)
  cases op <;> try exact nos eb
  ·cases eb
   exact in_list_strs ⟨_, Heap.get?_push_size _ rfl, rfl, 0, rfl⟩ z1 (PE.sm h (PE.now (z2.push _ _) (by rw [Bool.false_xor]; rfl)))
  ·cases eb
   exact notin_list_strs ⟨_, Heap.get?_push_size _ rfl, rfl, 0, rfl⟩ z1 (PE.sm h (PE.now (z2.push _ _) (by rw [Bool.true_xor]; rfl)))
 ·refine Tuple_ (qLS h1 hl r fun vs s1 lz z1 z2 => wpAny_newObj_type ?_ lz)
  cases op <;> try exact nos eb
  ·cases eb
   exact in_tuple_strs ⟨_, Heap.get?_push_size _ rfl, rfl, 0, rfl⟩ (by simpa using z1) (PE.sm h (PE.now (z2.push _ _) (by rw [Bool.false_xor]; rfl)))
  ·exact absurd (Option.some.inj eb).symm hb
structure Soundness (cx : Cx) (env : Env) (d : Nat) (r : Evs) : Prop where
 e : qAY cx env d r.e
 t : qEY cx env d r.t
theorem qEH {f : PySem.Expr → Sta → R AV} (hf : qAY cx env d f) {e : Option PySem.Expr} {n : Option Int} (h : optE f e S = some (n, S', o)) (ho : ∀ p ∈ o, p) (ok : AOK cx A d) (r : Rel cx ρ S s) :
  wpAny (MM cx.w) A (evalPart e env) (fun v s' => ∃ l : Option (Int × Tok), v = partValue l ∧ l.map (·.1) = n ∧ ∃ ρ', ρ <+: ρ' ∧ Rel cx ρ' S' s') E s := by
 cases e with
 | none => cases h; exact evalPart_none_step ⟨none, rfl, rfl, ρ, List.prefix_refl _, r⟩
 | some e =>
  refine evalPart_some_step (be hf h ho ok r fun u S1 o2 h ho2 ρ1 c s1 p1 v1 r1 => bd h fun m em h => oz11 (rI em v1) fun t et => ?_)
  subst et
  cases h
  exact ⟨some (_, t), rfl, rfl, ρ1, p1, r1⟩
theorem qNR {q : PySem.Expr} {x : Str} {t : Tok} {r : Value} : letTemporaryGo q (.str x t) r = pure () := by cases q <;> rfl
theorem qKC {M : Model} {value : PySem.Expr} {lower upper : Option PySem.Expr} {p pos : Pos} {Q : VP}
    (h : wpAny M A (eval value env) (fun o s1 => wpAny M A (eval (.Slice lower upper none p) env) (fun i s2 => ∃ x t, o = .str x t ∧ wpAny M A (getItem o i) Q E s2) E s1) E s) :
    wpAny M A (eval (.Subscript value (.Slice lower upper none p) pos) env) Q E s := by
  rw [eval_Subscript]
  refine wpAny_bind (wpAny_mono h (fun ov s1 h1 => wpAny_bind (wpAny_holding (wpAny_mono h1 (fun i s2 h2 => wpAny_bind (wpAny_standAt ?_)) fun _ _ x => x))) fun _ _ x => x)
  refine oz22 (h2) fun x t zr1 hg => ?_
  subst zr1
  have hT : s2.TypeIs (.str x t) "str" := typeIs_str _ _ _
  have fin : wpAny M A (operate [i, .str x t] (getItem (.str x t) i)) (fun r s3 => wpAny M A (letTemporaryGo value (.str x t) r >>= fun _ => pure r) Q E s3) E s2 :=
    wpAny_operating (wpAny_mono hg (fun r s3 h3 => wpAny_bind (wpAny_of_eq qNR (wpAny_pure h3))) fun _ _ x => x)
  first
    | (refine wpAny_bind ?_
       rw [getitemInPython_of_ne hT.not_modules]
       refine wpAny_bind (wpAny_specialOf hT F.slot_str_getitem.lookup ?_)
       first
         | exact wpAny_pure (wpAny_bind fin)
         | exact wpAny_bind (wpAny_pure (wpAny_bind fin))
         | exact wpAny_bind fin)
    | (refine wpAny_bind (wpAny_specialOf hT F.slot_str_getitem.lookup ?_)
       first
         | exact wpAny_bind (wpAny_pure (wpAny_bind fin))
         | exact wpAny_bind fin)
theorem qI4 {x : Evs} {q : PySem.Expr} {lo hi : Option PySem.Expr} {p sp : Pos} (hx : qAY cx env d x.e) (h : (bnd (x.e q S) fun a S => bnd (optE x.e lo S) fun l S => bnd (optE x.e hi S) fun h S => qKV a l h S) = some (v, S', o)) (ho : ∀ p ∈ o, p) (ok : AOK cx A d) (r : Rel cx ρ S s) :
  wpAny (MM cx.w) A (eval (.Subscript q (.Slice lo hi none sp) p) env) (PE cx ρ v S') E s := by
 refine qKC (be hx h ho ok r fun u S1 o2 h ho ρ1 c s1 p1 v1 r1 => wpAny_Slice (qA9 h ho fun l S2 o3 o4 h3 ho3 h ho => wpAny_mono (qEH hx h3 ho3 ok r1) (fun vl s2 z => oz13 z fun l' e2 e3 z => oz12 z fun ρ2 p2 r2 => ?_) fun _ _ x => x))
 refine qA9 h ho fun u' S3 o5 o6 h5 ho5 h ho => wm (qEH hx h5 ho5 ok r2) (fun vu s3 z => oz13 z fun u'' e4 e5 z => oz12 z fun ρ3 p3 r3 => bd h fun y ey h => oz11 (rS ey v1) fun t e1 => wpAny_pure ?_)
 subst e1 e2 e3 e4 e5
 refine ⟨y, t, rfl, ?_⟩
 refine wpAny_getItem_str_slice (l := l') (u := u'') (st := none) ⟨_, Heap.get?_push_size _ rfl, rfl, rfl⟩ rfl ?_
 exact post_val_or_str ⟨Nat.le_trans (Txt.slice_le y _ _) (duty h ho), fun t' k => PE.sm h ⟨ρ3, (p1.trans p2).trans p3, ⟨t', rfl⟩, r3.push _ _⟩⟩
theorem qKM {x : Evs} {q i : PySem.Expr} {p : Pos} (hx : qAY cx env d x.e) (h : subE x q i S = some (v, S', o)) (ho : ∀ p ∈ o, p) (ok : AOK cx A d) (r : Rel cx ρ S s) : wpAny (MM cx.w) A (eval (.Subscript q i p) env) (PE cx ρ v S') E s := by
 unfold subE at h
 cases hs : qE2 i with
 | some t =>
  rw [hs] at h
  refine itT h fun hn h => oz11 (qFR hs) fun sp e => ?_
  obtain ⟨lo, hi, st⟩ := t
  cases st with
  | some _ => exact nomatch hn
  | none =>
   subst e
   exact qI4 hx h ho ok r
 | none =>
  rw [hs] at h
  exact Subscript_ (be hx h ho ok r fun u S1 o2 h ho ρ1 c s1 p1 v1 r1 => be hx h ho ok r1 fun u' S2 o3 h ho ρ2 c2 s2 p2 v2 r2 => wpre (p1.trans p2) (qJI (by unfold qHl; rw [hs]; rfl) h ho (v1.mono p2) v2 r2))
theorem qKN {x : Evs} {l q : PySem.Expr} {op : CmpOp} {p : Pos} (hx : qAY cx env d x.e) (h : cmpE x l op q S = some (v, S', o)) (ho : ∀ p ∈ o, p) (ok : AOK cx A d) (r : Rel cx ρ S s) :
  wpAny (MM cx.w) A (eval (.Compare l [op] [q] p) env) (PE cx ρ v S') E s := by
 unfold cmpE at h
 cases hk : qCt op q with
 | some k =>
  rw [hk] at h
  exact wpAny_Compare1 (be hx h ho ok r fun u S1 o2 h ho ρ1 c s1 p1 v1 r1 => wpAny_mono (qIp hk h v1 r1) (fun _ _ z => wpre p1 z) fun _ _ x => x) (qIq hk)
 | none =>
  rw [hk] at h
  exact itF h fun hm h => wpAny_Compare1 (be hx h ho ok r fun u S1 o2 h ho ρ1 c s1 p1 v1 r1 => be hx h ho ok r1 fun u' S2 o3 h ho ρ2 c2 s2 p2 v2 r2 => wpre (p1.trans p2) (qEl h ho (v1.mono p2) v2 r2)) (by simpa using hm)
theorem qN0 {x : Evs} {op : UnaryOp} {y : PySem.Expr} {p : Pos} (hx : qAY cx env d x.e) (h : unAV x op y S = some (v, S', o)) (ho : ∀ p ∈ o, p) (ok : AOK cx A d) (r : Rel cx ρ S s) : wpAny (MM cx.w) A (eval (.UnaryOp op y p) env) (PE cx ρ v S') E s := by
 cases op <;> try exact nos h
 ·exact UnaryOp_ (be hx h ho ok r fun u S1 o2 h ho ρ1 c s1 p1 v1 r1 => not_of (bwT h ho (fun _ _ _ h1 ho1 => qBo h1 ho1 v1 r1) fun b S2 o3 h ho ρ2 s2 p2 r2 => PE.sm h ⟨ρ2, p1.trans p2, rfl, r2⟩))
 ·exact UnaryOp_ (be hx h ho ok r fun u S1 o2 h ho ρ1 c s1 p1 v1 r1 => bd h fun n en h => oz11 (rI en v1) fun t et => by subst et; exact P.neg_int (PE.pre p1 (PE.sm h (PE.here r1 vrel.i _))))
theorem qFP {x : Evs} {b : Bool} {es : List PySem.Expr} {pos : Pos} (hx : qAY cx env d x.e) (h : newE b x es S = some (v, S', o)) (ho : ∀ p ∈ o, p) (ok : AOK cx A d) (r : Rel cx ρ S s) :
  wpAny (MM cx.w) A (spliced (backTo pos (starEach es env))) (fun ws s => wpAny (MM cx.w) A (if b then newTuple ws else newList ws) (PE cx ρ v S') E s) E s :=
 qA9 h ho fun vs S1 o1 o2 h1 ho1 h ho => itT h fun hz h => wm (qGj hx h1 ho1 ok r) (fun ws s1 z => oz13 z fun ρ1 p1 v1 r1 => wpAny_mono (qF2 v1 r1 (by rw [qM0 h1]; exact hz) b) (fun _ _ z => PE.pre p1 (PE.sm h z)) fun _ _ x => x)
theorem qGT {c : Const} {a p} (h : ((qNg c).bind fun v => rt v S) = some (v, S', o)) (r : Rel cx ρ S s) : wpAny (MM cx.w) A (eval (.Constant c a p) env) (PE cx ρ v S') E s := by
 cases c <;> try exact nos h
 ·exact Constant_none (PE.sm h (PE.now r rfl))
 ·exact Constant_bool (PE.sm h (PE.now r rfl))
 ·exact wpAny_Constant_int (PE.sm h (PE.here r vrel.i _))
 ·exact Calls.Constant_str (PE.sm h (PE.here r vrel.st _))
theorem qI8 {cs : Cs} {sc : Scope} {q : Str} {a : Addr} {cd : Value} {x : Evs} {f : PySem.Expr} {args : List PySem.Expr} {p : Pos} (hk : sc.kind = .function) (hcs : Csv cx.w cs d) (hx : qAY cx (envOf q sc cx.L a cd) (d + 1) x.e)
  (h : qVp (Kx cx) cs sc x f args p S = some (v, S', o)) (ho : ∀ p ∈ o, p) (ok : AOK cx A (d + 1)) (r : Rel cx ρ S s) : wpAny (MM cx.w) A (eval (.Call f args [] p) (envOf q sc cx.L a cd)) (PE cx ρ v S') E s := by
 refine qAJ h (fun h => bd h fun n en h => oz11 (qAS en) fun np e => ?_) fun h => bd h fun t et h => itT h fun hc h => ?_
 ·subst e
  exact Call_Name rfl (bn hk h ho r fun u S1 o2 h ho ρ1 c s1 p1 v1 r1 => wpre p1 (qGu hx hcs v1 h ho ok r1))
 ·rw [qDg et]
  simp only [Bool.and_eq_true, decide_eq_true_eq] at hc
  exact qJA hx hcs hc.1.1 hc.1.2 hc.2 h ho ok r
theorem qDX {cs : Cs} {sc : Scope} {q : Str} {a : Addr} {cd : Value} {x : Evs} (hk : sc.kind = .function) (hcs : Csv cx.w cs d) (hx : Soundness cx (envOf q sc cx.L a cd) (d + 1) x) : qAY cx (envOf q sc cx.L a cd) (d + 1) (qRp (Kx cx) cs sc x) := by
 intro e S v S' o h ho A ρ s E ok r
 cases e <;> try exact nos h
 ·exact wpAny_BinOp (be hx.e h ho ok r fun u S1 o2 h ho ρ1 c s1 p1 v1 r1 => be hx.e h ho ok r1 fun u' S2 o3 h ho ρ2 c2 s2 p2 v2 r2 => wpre (p1.trans p2) (qHI h ho (v1.mono p2) v2 r2))
 ·exact qN0 hx.e h ho ok r
 ·refine IfExp_ (bt hx.t h ho ok r fun c S1 o2 h ho ρ1 s1 p1 r1 => ?_)
  cases c
  ·exact wpre p1 (hx.e _ _ _ _ _ h ho A ρ1 s1 E ok r1)
  ·exact wpre p1 (hx.e _ _ _ _ _ h ho A ρ1 s1 E ok r1)
 ·refine bd h fun op e1 h => bd h fun q' e2 h => ?_
  rw [qBX e1, qBX e2]
  exact qKN hx.e h ho ok r
 ·refine itT h fun e h => ?_
  rw [List.isEmpty_iff.mp e]
  exact qI8 hk hcs hx.e h ho ok r
 ·exact qGT h r
 ·refine bd h fun n en h => oz11 (qAS en) fun np e => ?_
  rw [e]
  exact Attribute_Name_ (bn hk h ho r fun u S1 o2 h ho ρ1 c s1 p1 v1 r1 => qA9 h ho fun w S2 o3 o4 h3 ho3 h ho => itT h fun hl h => wpAny_mono (qEV hcs h3 hl ho3 v1 r1 ok) (fun _ _ z => PE.pre p1 (PE.sm h z)) fun _ _ x => x)
 ·exact qKM hx.e h ho ok r
 ·exact qAD hk h r
 ·exact List_ (qFP hx.e h ho ok r)
 ·exact Tuple_ (qFP hx.e h ho ok r)
end
end
section
noncomputable def qLv : PySem.Expr → Bool
 | .UnaryOp op _ _ => !qUT op
 | .BoolOp .. => false
 | .IfExp .. => false
 | .Compare .. => false
 | _ => true
theorem qMj {e : PySem.Expr} {env : Env} {whole : Sem Value} (h : qLv e = true) : isTrue e env whole = (do let v ← whole; standAt e.pos; holding [v] (truthy v)) := by
 cases e <;> first | rfl | cases h | (rename_i op _ _; cases op <;> first | rfl | cases h)
theorem qGS {K : Frag} {cs : Cs} {sc : Scope} {r : Evs} {e : PySem.Expr} {S : Sta} (h : qLv e = true) : Mine.stepT K cs sc r e S = qLw K cs sc r e S := by
 cases e <;> first | rfl | cases h | (rename_i op _ _; cases op <;> first | rfl | cases h)
section
variable {cx : Cx} {ρ : Rho} {S S' : Sta} {s : Shared} {A : Around} {E : VP} {v : AV} {o : List Prop} {env : Env} {d : Nat}
theorem qJ8 {x : Evs} (hx : qEY cx env d x.t) {op : BoolOp} {vs : List PySem.Expr} {b : Bool} (h : allT x op vs S = some (b, S', o)) (ho : ∀ p ∈ o, p) (ok : AOK cx A d) (r : Rel cx ρ S s) : wpAny (MM cx.w) A (allTrue op vs env) (PT cx ρ b S') E s := by
 induction vs generalizing S S' o ρ s with
 | nil => exact wpAny_pure (PT.sm h ⟨rfl, ρ, List.prefix_refl _, r⟩)
 | cons e vs ih =>
  show wpAny _ _ (do match op, ← isTrue e env (eval e env) with | .And, false => pure false | .Or, true => pure true | _, _ => allTrue op vs env) _ _ _
  refine wpAny_bind (bt hx h ho ok r fun c S1 o2 h ho ρ1 s1 p1 r1 => ?_)
  cases op <;> cases c <;> first | exact wpAny_pure (PT.sm h ⟨rfl, ρ1, p1, r1⟩) | exact qIY p1 (ih h ho r1)
theorem qKL {x : Evs} {l q : PySem.Expr} {op : CmpOp} {p : Pos} {b : Bool} (hx : qAY cx env d x.e) (h : cmpT x l op q S = some (b, S', o)) (ho : ∀ p ∈ o, p) (ok : AOK cx A d) (r : Rel cx ρ S s) :
  wpAny (MM cx.w) A (isTrue (.Compare l [op] [q] p) env (eval (.Compare l [op] [q] p) env)) (PT cx ρ b S') E s := by
 unfold cmpT at h
 cases hk : qCt op q with
 | some k =>
  rw [hk] at h
  exact wpAny_isTrue_Compare1 (be hx h ho ok r fun u S1 o2 h ho ρ1 c s1 p1 v1 r1 => qA9 h ho fun w S2 o3 o4 h3 ho3 h ho => wpAny_mono (qIp hk h3 v1 r1) (fun _ _ z => wpAny_mono z (fun c3 s3 z => oz13 z fun ρ3 p3 v3 r3 => qIY (p1.trans p3) (qBo h ho v3 r3)) fun _ _ x => x) fun _ _ x => x) (qIq hk)
 | none =>
  rw [hk] at h
  exact itF h fun hm h => wpAny_isTrue_Compare1 (be hx h ho ok r fun u S1 o2 h ho ρ1 c s1 p1 v1 r1 => be hx h ho ok r1 fun u' S2 o3 h ho ρ2 c2 s2 p2 v2 r2 => bwE h ho (fun _ _ _ h1 ho1 => qEl h1 ho1 (v1.mono p2) v2 r2) fun w S3 o4 h ho ρ3 c3 s3 p3 v3 r3 => qIY ((p1.trans p2).trans p3) (qBo h ho v3 r3)) (by simpa using hm)
theorem qGR {cs : Cs} {sc : Scope} {q : Str} {a : Addr} {cd : Value} {x : Evs} (hk : sc.kind = .function) (hcs : Csv cx.w cs d) (hx : Soundness cx (envOf q sc cx.L a cd) (d + 1) x) : qEY cx (envOf q sc cx.L a cd) (d + 1) (Mine.stepT (Kx cx) cs sc x) := by
 intro e S b S' o h ho A ρ s E ok r
 cases hp : qLv e with
 | true =>
  rw [qGS hp] at h
  exact isTrue_plain (be (qDX hk hcs hx) h ho ok r fun u S1 o2 h ho ρ1 c s1 p1 v1 r1 => qIY p1 (qBo h ho v1 r1)) (qMj hp)
 | false =>
  cases e <;> try exact Bool.noConfusion hp
  ·exact qJ8 hx.t h ho ok r
  ·rename_i op y p
   cases op <;> try exact Bool.noConfusion hp
   exact isTrue_not (bt hx.t (show (bnd (x.t y S) fun b S => rt (!b) S) = _ from h) ho ok r fun c S1 o2 h ho ρ1 s1 p1 r1 => PT.sm h ⟨rfl, ρ1, p1, r1⟩)
  ·refine isTrue_IfExp (bt hx.t h ho ok r fun c S1 o2 h ho ρ1 s1 p1 r1 => ?_)
   cases c
   ·exact qIY p1 (hx.t _ _ _ _ _ h ho A ρ1 s1 E ok r1)
   ·exact qIY p1 (hx.t _ _ _ _ _ h ho A ρ1 s1 E ok r1)
  ·refine bd h fun op e1 h => bd h fun q' e2 h => ?_
   rw [qBX e1, qBX e2]
   exact qKL hx.e h ho ok r
theorem qAt {cs : Cs} {sc : Scope} {q : Str} {a : Addr} {cd : Value} (hk : sc.kind = .function) (hcs : Csv cx.w cs d) : ∀ n, Soundness cx (envOf q sc cx.L a cd) (d + 1) (evs (Kx cx) cs sc n)
 | 0 => ⟨fun _ _ _ _ _ h => (nomatch h), fun _ _ _ _ _ h => (nomatch h)⟩
 | n + 1 => ⟨qDX hk hcs (qAt hk hcs n), qGR hk hcs (qAt hk hcs n)⟩
noncomputable def frel (ρ : Rho) : Fl → Flow → Prop
 | .next, f => f = .next
 | .brk, f => f = .brk
 | .cont, f => f = .cont
 | .ret v, f => ∃ c, f = .ret c ∧ vrel ρ v c
 | .exc _, _ => False
def EX (cx : Cx) (ρ : Rho) (fl : Fl) (S' : Sta) (v : Value) (s' : Shared) : Prop := match fl with
 | .exc m => ∃ e t s1 h' ρ', v = .ref e ∧ ρ <+: ρ' ∧ Rel cx ρ' S' s1 ∧ Heap.MadeExc s1.heap h' e "ValueError" [.str m t] ∧ s' = { s1 with heap := h' }
 | _ => False
theorem EX.pre {ρ0 : Rho} {fl : Fl} (h : ρ0 <+: ρ) {v : Value} {s' : Shared} (x : EX cx ρ fl S' v s') : EX cx ρ0 fl S' v s' := by
 cases fl <;> try exact x.elim
 refine oz53 (x) fun e t s1 h' ρ' h1 h2 h3 => ?_
 exact ⟨e, t, s1, h', ρ', h1, h.trans h2, h3⟩
noncomputable abbrev PS (cx : Cx) (ρ : Rho) (fl : Fl) (S' : Sta) : FP := fun f s' => ∃ ρ', ρ <+: ρ' ∧ frel ρ' fl f ∧ Rel cx ρ' S' s'
theorem PS.pre {ρ0 : Rho} {fl : Fl} (h : ρ0 <+: ρ) {c : Flow} {s' : Shared} (z : PS cx ρ fl S' c s') : PS cx ρ0 fl S' c s' := oz13 z fun ρ' a b c => ⟨ρ', h.trans a, b, c⟩
theorem PS.sm {a fl : Fl} {l : List Prop} {c : Flow} (h : some (a, S, l) = some (fl, S', o)) (q : PS cx ρ a S c s) : PS cx ρ fl S' c s := by cases h; exact q
theorem EX.sm {a fl : Fl} {l : List Prop} {v : Value} (h : some (a, S, l) = some (fl, S', o)) (q : EX cx ρ a S v s) : EX cx ρ fl S' v s := by cases h; exact q
theorem Rel.sm {α : Type} {a b : α} {l : List Prop} (h : some (a, S, l) = some (b, S', o)) (q : Rel cx ρ S s) : Rel cx ρ S' s := by cases h; exact q
theorem qQ9 {m : Sem Flow} {ρ0 : Rho} {fl : Fl} (p : ρ0 <+: ρ) (h : wpAny (MM cx.w) A m (PS cx ρ fl S') E s) : wpAny (MM cx.w) A m (PS cx ρ0 fl S') E s := wpAny_mono h (fun _ _ z => z.pre p) fun _ _ x => x
def qNt (cx : Cx) (env : Env) (d : Nat) (f : Stmt → Sta → R Fl) : Prop :=
 ∀ st S fl S' o, f st S = some (fl, S', o) → (∀ p ∈ o, p) → ∀ A ρ s E, AOK cx A d → Rel cx ρ S s → (∀ v s', EX cx ρ fl S' v s' → E v s') → wpAny (MM cx.w) A (exec st env) (PS cx ρ fl S') E s
def qNu (cx : Cx) (env : Env) (d : Nat) (f : List Stmt → Sta → R Fl) : Prop :=
 ∀ st S fl S' o, f st S = some (fl, S', o) → (∀ p ∈ o, p) → ∀ A ρ s E, AOK cx A d → Rel cx ρ S s → (∀ v s', EX cx ρ fl S' v s' → E v s') → wpAny (MM cx.w) A (execs st env) (PS cx ρ fl S') E s
theorem qJz {g : Sta → R Fl} {u fl : Fl} {S1 : Sta} {ρ1 : Rho} {c : Flow} {m : Sem Flow} (h : (if qMk u then g S1 else rt u S1) = some (fl, S', o)) (p1 : ρ <+: ρ1) (v1 : frel ρ1 u c) (r1 : Rel cx ρ1 S1 s)
  (k : g S1 = some (fl, S', o) → wpAny (MM cx.w) A m (PS cx ρ fl S') E s) : match (generalizing := false) c with | .next => wpAny (MM cx.w) A m (PS cx ρ fl S') E s | f => PS cx ρ fl S' f s := by
 cases u with
 | next => rw [show c = .next from v1]; exact k h
 | brk => rw [show c = .brk from v1]; exact PS.sm h ⟨ρ1, p1, rfl, r1⟩
 | cont => rw [show c = .cont from v1]; exact PS.sm h ⟨ρ1, p1, rfl, r1⟩
 | ret w => exact oz12 v1 fun cc e v1 => by rw [e]; exact PS.sm h ⟨ρ1, p1, ⟨cc, rfl, v1⟩, r1⟩
 | exc m => exact v1.elim
theorem qSX {g : Sta → R Fl} {u fl : Fl} {S1 : Sta} {v : Value} (h : (if qMk u then g S1 else rt u S1) = some (fl, S', o)) (x : EX cx ρ u S1 v s) : EX cx ρ fl S' v s := by
 cases u <;> first | exact x.elim | exact EX.sm h x
theorem qEg {f : Stmt → Sta → R Fl} (hf : qNt cx env d f) : qNu cx env d (qP4 f) := by
 intro st
 induction st with
 | nil => exact fun S fl S' o h ho A ρ s E ok r hE => wpAny_execs_nil (PS.sm h ⟨ρ, List.prefix_refl _, rfl, r⟩)
 | cons st rest ih =>
  exact fun S fl S' o h ho A ρ s E ok r hE => qA9 h ho fun u S1 o1 o2 h1 ho1 h2 ho2 => wpAny_execs_cons (wpAny_mono (hf _ _ _ _ _ h1 ho1 A ρ s E ok r fun v s' x => hE v s' (qSX h2 x)) (fun c s1 z => oz13 z fun ρ1 p1 v1 r1 =>
   qJz h2 p1 v1 r1 fun h2 => qQ9 p1 (ih S1 fl S' o2 h2 ho2 A ρ1 s1 E ok r1 fun v s' x => hE v s' (x.pre p1))) fun _ _ x => x)
theorem qAu {sc : Scope} {q : Str} {a : Addr} {cd : Value} {x : Str} {w : AV} {c : Value} {u : Unit} (hk : sc.kind = .function) (h : qA0 sc x w S = some (u, S', o)) (rv : vrel ρ w c) (r : Rel cx ρ S s) :
  wpAny (MM cx.w) A (storeName (envOf q sc cx.L a cd) x c) (fun _ s' => Rel cx ρ S' s') E s := by
 unfold qA0 at h
 split at h
 ·rename_i hl
  refine oz12 (r.ns) fun m n hm => ?_
  exact wpAny_storeName_local (env := envOf q sc cx.L a cd) hl n (fun h' hn hs => Rel.sm h (r.put hm rv hn hs _))
   (by show (sc.kind == .class || (sc.kind == .module && cx.L != mainGlobals)) = false; rw [hk]; rfl)
 ·exact nos h
end
end
section
noncomputable def qLD (h : Heap) (xs : List Addr) : List (Addr × Obj) := (List.range h.objs.size).filterMap fun b => if b ∈ xs then none else (h.get? b).map fun o => (b, o)
theorem qEJ {h : Heap} {xs : List Addr} {b : Addr} {ob : Obj} (e : h.get? b = some ob) (n : b ∉ xs) : (b, ob) ∈ qLD h xs := by
 refine List.mem_filterMap.mpr ⟨b, List.mem_range.mpr (Heap.lt_size e), ?_⟩
 rw [if_neg n, e]; rfl
theorem qF1 {h : Heap} {xs : List Addr} {p : Addr × Obj} (m : p ∈ qLD h xs) : h.get? p.1 = some p.2 ∧ p.1 ∉ xs := by
 refine oz12 (List.mem_filterMap.mp m) fun b _ e => ?_
 split at e
 ·cases e
 ·rename_i n
  refine oz12 (Option.map_eq_some_iff.mp e) fun ob e1 zr1 => ?_
  subst zr1
  exact ⟨e1, n⟩
section
variable {cx : Cx} {ρ : Rho} {S S' : Sta} {s : Shared} {A : Around} {E : VP} {v : AV} {o : List Prop} {env : Env} {d : Nat}
theorem qP7 {x : Str} {a : AV} {hs : Int} {k : Tok} {u : Value} (ra : vrel ρ a u) {fs : LV} {es : List DictEntry} (h : All2 (erel ρ) fs es) : All2 (erel ρ) (qBm x a fs) (putL x hs (.str x k) u es) := by
 induction h with
 | nil => exact .cons ⟨⟨k, rfl⟩, ra⟩ .nil
 | @cons a' e fs es he r ih =>
  obtain ⟨y, b⟩ := a'
  unfold qBm putL
  rw [qFo he]
  by_cases z : y = x
  ·rw [show (y == x) = true from beq_iff_eq.mpr z, if_pos rfl, if_pos rfl]
   exact .cons ⟨z ▸ he.1, ra⟩ r
  ·rw [show (y == x) = false from beq_eq_false_iff_ne.mpr z, if_neg Bool.false_ne_true, if_neg Bool.false_ne_true]
   exact .cons he ih
theorem qIc {x : Str} {hs : Int} {k u : Value} : ∀ es : List DictEntry, (putL x hs k u es).length ≤ es.length + 1
 | [] => by simp [putL]
 | e :: es => by
  unfold putL
  split
  ·simp
  ·have := qIc (x := x) (hs := hs) (k := k) (u := u) es
   simp only [List.length_cons]; omega
theorem qCN {x : AV} {a : Str} {w : AV} {xv wv : Value} {u : Unit} (h : qDZ (Kx cx) x a w S = some (u, S', o)) (rx : vrel ρ x xv) (rw' : vrel ρ w wv) (r : Rel cx ρ S s) :
  wpAny (MM cx.w) A (setAttr xv a wv) (fun _ s' => Rel cx ρ S' s') E s := by
 refine bd h fun i ei h => bd h fun q hi h => itT h fun hc h => oz12 (oR ei rx) fun p hp zr1 => qHm r hi hp fun _ es n _ h1 h2 hes => ?_
 subst zr1
 have I := qGc (C := q.1) (fs := q.2) h1 h2
 simp only [Bool.and_eq_true, beq_iff_eq, decide_eq_true_eq] at hc
 refine oz02 (hc) fun zr1 c5 => ?_
 obtain ⟨⟨⟨c1, c2⟩, c3⟩, c4⟩ := zr1
 refine oz12 (r.ns) fun m nn _ => ?_
 have F0 : Fr ({} : Heap) cx.L s.heap m := ⟨nn, fun b ob e => by simp [Heap.get?] at e, Nat.zero_le _⟩
 have hLd : p.2 ≠ cx.L := (r.ft p.2 (qAo (qCh hi) hp _ (by simp [foot]))).1
 have N0 : News ({} : Heap) cx.L s.heap ([] ++ (p.2, dictOf es n) :: qLD s.heap [p.2, cx.L]) := by
  intro q' hq
  rcases lc hq with rfl | hq
  ·exact ⟨h2, hLd, by simp [Heap.get?]⟩
  ·have z := qF1 hq
   simp only [List.mem_cons, List.not_mem_nil, or_false, not_or] at z
   exact ⟨z.1, z.2.2, by simp [Heap.get?]⟩
 have X := r.X
 have hlook : (lookIn a (dictOf es n)).isSome = true := by
  rw [lookIn_dict]
  cases q3 : q.2.lookup a with
  | none => rw [qCT hes q3]; rfl
  | some b => exact oz12 (qIF hes q3) fun u' e1 _ => by rw [e1]; rfl
 have len := hes.length
 refine set_plain X I c1 (osa_dict (es := putL a (PyData.keyHash cx.w.params a) (.str a (s.toks + 1)) wv es) (n := putN a es n) (s := { s with toks := s.toks + 1 }) F0 N0 X I rfl c2 c3 c4 hlook (fun _ hq => nomatch hq) (fun q hq => ?_) (putName_dict _ _ _ _ _ _) rfl ?_ fun h' F' N' => ?_)
 ·have z := qF1 hq
  simp only [List.mem_cons, List.not_mem_nil, or_false, not_or] at z
  exact z.2.1
 ·have := qIc (x := a) (hs := PyData.keyHash cx.w.params a) (k := .str a (s.toks + 1)) (u := wv) es
  omega
 ·refine Rel.sm h (r.updL (qCh hi) hp (fun _ => rfl) ⟨fun b ob e nb => ?_⟩ (fun m' nm => ?_) ⟨?_, _, _, (N' (p.2, _) (.head _)).1, qP7 rw' hes⟩)
  ·simp only [foot, List.mem_cons, List.not_mem_nil, or_false, not_or] at nb
   exact (N' (b, ob) (.tail _ (qEJ e (by simp [nb.2.2, nb.1])))).1
  ·have := F'.ns
   refine oz34 (nn) fun o1 es1 ep1 a1 a2 a3 a4 => ?_
   refine oz34 (nm) fun o2 es2 ep2 b1 b2 b3 b4 => ?_
   rw [a1] at b1; cases b1
   rw [a2] at b2; cases b2
   have : m = m' := funext fun z => (a4 z).symm.trans (b4 z)
   subst this
   exact F'.ns
  ·have hne : p.1 ≠ p.2 := by
    intro q4
    have d1 : (foot (.inst q.1 q.2) p).Nodup := r.hr.own _ _ _ (qCh hi) hp
    simp [foot, q4] at d1
   exact (N' (p.1, _) (.tail _ (qEJ h1 (by simp [hne, (r.ft p.1 (qAo (qCh hi) hp _ (by simp [foot]))).1])))).1
end
end
section
theorem qI3 {e : PySem.Expr} {l : Nat} {env : Env} (h : qEP e = false) : swapsWith e none l env = pure false := by
 cases e <;> first | rfl | cases h
theorem qBj {e : PySem.Expr} {t : PySem.Expr} {l : Nat} {env : Env} (h : qEP e = false) : swapsWith e (some t) l env = pure false := by
 cases e <;> first | rfl | cases h
section
variable {cx : Cx} {ρ : Rho} {S S' : Sta} {s : Shared} {A : Around} {E : VP} {v : AV} {o : List Prop} {env : Env} {d : Nat}
theorem Rel.grow {h' : Heap} (r : Rel cx ρ S s) (c : Chg [] s.heap h') : Rel cx ρ S { s with heap := h' } := by
 refine oz12 (r.ns) fun m n q => ?_
 have n' := n.keeps fun b o e => c.keep b o e (by simp)
 exact ⟨r.hr.out c (by simp), ⟨m, n', q⟩, r.ft, r.lo, r.kp.step c (by simp), r.rest⟩
theorem qCd {sc : Scope} {q : Str} {a : Addr} {cd : Value} (hk : sc.kind = .function) {es : List PySem.Expr} {vs : List AV} {ws : List Value} {u : Unit} (h : qBf sc es vs S = some (u, S', o)) (rv : vrels ρ vs ws) (r : Rel cx ρ S s) :
  wpAny (MM cx.w) A (assignInOrder ((assignEach es (envOf q sc cx.L a cd)).map (·.2)) ws) (fun _ s' => Rel cx ρ S' s') E s := by
 induction es generalizing vs ws S o s with
 | nil =>
  refine itT h fun e h => ?_
  cases rv with
  | nil => exact wpAny_pure (Rel.sm h r)
  | cons _ _ => exact nomatch e
 | cons e es ih =>
  refine bd h fun x ex h => bd h fun v ev h => ?_
  cases rv with
  | nil => exact nos ev
  | @cons v0 w vs ws r1 r2 =>
   refine bn2 h fun u1 S1 o1 o2 h1 h2 => oz11 (qAS ex) fun pos e => ?_
   rw [e, ← Option.some.inj ev] at *
   show wpAny _ _ (do holding ws (assign (.Name x pos) (envOf q sc cx.L a cd) w); assignInOrder ((assignEach es (envOf q sc cx.L a cd)).map (·.2)) ws) _ _ _
   exact wpAny_bind (wpAny_holding (assign_Name (wm (qAu hk h1 r1 r) (fun _ s1 rr => ih h2 r2 rr))))
theorem qI0 {sc : Scope} {es : List PySem.Expr} {vs : List AV} {u : Unit} (h : qBf sc es vs S = some (u, S', o)) : es.length = vs.length ∧ qA4 es = true := by
 induction es generalizing vs S o with
 | nil => exact itT h fun e _ => by rw [List.isEmpty_iff.mp e]; exact ⟨rfl, rfl⟩
 | cons e es ih =>
  refine bd h fun x ex h => bd h fun v ev h => bn2 h fun u1 S1 o1 o2 h1 h2 => oz11 (qAS ex) fun pos e => ?_
  cases vs with
  | nil => exact nos ev
  | cons v vs => exact ⟨congrArg Nat.succ (ih h2).1, by rw [e]; exact (ih h2).2⟩
theorem qB9 {env : Env} {es : List PySem.Expr} (h : qA4 es = true) : (assignEach es env).findIdx? (·.1) = none ∧ (assignEach es env).length = es.length := by
 induction es with
 | nil => exact ⟨rfl, rfl⟩
 | cons e es ih =>
  have z := ih (qBg h).2
  have q : assignEach (e :: es) env = (false, assign e env) :: assignEach es env := by cases e <;> first | rfl | exact nomatch (qBg h).1
  rw [q]
  simp [List.findIdx?_cons, z.1, z.2]
theorem qGJ {t : PySem.Expr} {b : List Stmt} {p : Pos} {tr : Sta → R Bool} {br : Sta → R Fl} (ht : ∀ S b S' o, tr S = some (b, S', o) → (∀ p ∈ o, p) → ∀ A ρ s E, AOK cx A d → Rel cx ρ S s → wpAny (MM cx.w) A (isTrue t env (eval t env)) (PT cx ρ b S') E s)
  (hb : ∀ S fl S' o, br S = some (fl, S', o) → (∀ p ∈ o, p) → ∀ A ρ s E, AOK cx A d → Rel cx ρ S s → (∀ v s', EX cx ρ fl S' v s' → E v s') → wpAny (MM cx.w) A (execs b env) (PS cx ρ fl S') E s) {k : Nat} {fl : Fl}
  (h : qFG tr br k S = some (fl, S', o)) (ho : ∀ p ∈ o, p) (ok : AOK cx A d) (r : Rel cx ρ S s) : wpAny (MM cx.w) A (exec (.While t b [] p) env) (PS cx ρ fl S') E s := by
 refine wpAny_While (codeAny_whileLoop (fun n s => ∃ S ρ1 o, ρ <+: ρ1 ∧ qFG tr br n S = some (fl, S', o) ∧ (∀ p ∈ o, p) ∧ Rel cx ρ1 S s) ?_ k ⟨S, ρ, o, List.prefix_refl _, h, ho, r⟩)
 clear h ho r
 intro n s1 z
 refine oz34 z fun S1 ρ1 o1 p1 h1 ho1 r1 => ?_
 cases n with
 | zero => exact nos h1
 | succ n =>
  refine bwT (ρ := ρ1) h1 ho1 (fun _ _ _ h ho => ht _ _ _ _ h ho A ρ1 s1 _ ok r1) fun c S2 o2 h2 ho2 ρ2 s2 p2 r2 => ?_
  cases c with
  | false => exact wpAny_execs_nil (PS.sm h2 ⟨ρ2, p1.trans p2, rfl, r2⟩)
  | true =>
   refine qA9 (show bnd (br S2) (fun f S => qUF (qFG tr br n) f S) = _ from h2) ho2 fun f S3 o3 o4 h4 ho4 h5 ho5 => wm (hb _ _ _ _ h4 ho4 A ρ2 s2 _ ok r2 fun v s' x => ?_) (fun f' s3 z => oz13 z fun ρ3 p3 v3 r3 => ?_)
   ·cases f <;> first | exact x.elim | exact nos h5
   have pp := (p1.trans p2).trans p3
   cases f with
   | next => rw [show f' = .next from v3]; exact ⟨n, Nat.lt_succ_self n, S3, ρ3, o4, pp, h5, ho5, r3⟩
   | cont => rw [show f' = .cont from v3]; exact ⟨n, Nat.lt_succ_self n, S3, ρ3, o4, pp, h5, ho5, r3⟩
   | brk => rw [show f' = .brk from v3]; exact PS.sm h5 ⟨ρ3, pp, rfl, r3⟩
   | ret w => exact oz12 v3 fun cc e v3 => by rw [e]; exact PS.sm h5 ⟨ρ3, pp, ⟨cc, rfl, v3⟩, r3⟩
   | exc m => exact v3.elim
section
variable {cs : Cs} {sc : Scope} {q : Str} {a : Addr} {cd : Value} {x : Evs} {y : Str} {e : PySem.Expr} {op : Operator} {yp pp : Pos} {fl : Fl}
theorem qKk {es : List PySem.Expr} {kk : Nat} {tp : Pos} (hk : sc.kind = .function) (h : unpS (Kx cx) sc es y S = some (fl, S', o)) (ho : ∀ p ∈ o, p) (ok : AOK cx A d) (r : Rel cx ρ S s) :
  wpAny (MM cx.w) A (exec (.Assign [.Tuple es kk tp] (.Name y yp) pp) (envOf q sc cx.L a cd)) (PS cx ρ fl S') E s := by
 refine Assign_Tuple (bn hk h ho r fun u S1 o2 h ho ρ1 c s1 p1 v1 r1 => bd h fun i ei h => bd h fun xs hi h => oz12 (oR ei v1) fun p hp zr1 => bn2 h fun u2 S2 o3 o4 h3 h4 => ?_)
 subst zr1
 refine oz22 (r1.hr.obj _ _ _ (qHT hi) hp) fun vs n e rv => ?_
 have hT : IsTup s1.heap p.1 vs.toArray := ⟨_, e, rfl, n, rfl⟩
 refine oz02 (qI0 h3) fun l1 l2 => ?_
 show wpAny _ _ (do standAt _; unpack (.ref p.1) (assignEach _ _)) _ _ _
 refine wpAny_bind (wpAny_standAt ?_)
 unfold unpack
 refine oz02 (qB9 (env := envOf q sc cx.L a cd) l2) fun z1 z2 => ?_
 rw [z1, z2]
 have hsz : es.length = vs.toArray.size := by rw [List.size_toArray, l1]; exact rv.length
 rw [hsz]
 refine wpAny_bind (wpAny_holding (unpackItems_tuple ok.room.2 hT fun h' he => ?_))
 have rg := r1.grow (h' := h') ⟨fun b ob e _ => he b ob (Nat.ne_of_lt (Heap.lt_size e)) e⟩
 exact wm (qCd hk h3 rv rg) (fun _ s3 r3 => PS.sm h4 ⟨ρ1, p1, rfl, r3⟩)
theorem qKX {at_ : Str} {ap : Pos} (hk : sc.kind = .function) (hx : Soundness cx (envOf q sc cx.L a cd) d x) (hc : qEP e = false) (h : setS (Kx cx) sc x y at_ e S = some (fl, S', o)) (ho : ∀ p ∈ o, p) (ok : AOK cx A d) (r : Rel cx ρ S s) :
  wpAny (MM cx.w) A (exec (.Assign [.Attribute (.Name y yp) at_ ap] e pp) (envOf q sc cx.L a cd)) (PS cx ρ fl S') E s :=
 plainObj_wpAny_Assign_Attribute (be hx.e h ho ok r fun u S1 o2 h ho ρ1 c s1 p1 v1 r1 => bn hk h ho r1 fun u2 S2 o3 h ho ρ2 c2 s2 p2 v2 r2 => bn2 h fun _ S3 _ _ h5 h6 =>
  wpAny_mono (qCN h5 v2 (v1.mono p2) r2) (fun _ s3 r3 => PS.sm h6 ⟨ρ2, p1.trans p2, rfl, r3⟩) fun _ _ x => x) (qBj hc)
theorem qGA {t : PySem.Expr} (hk : sc.kind = .function) (hx : Soundness cx (envOf q sc cx.L a cd) d x) (h : qNq (Kx cx) sc x t e S = some (fl, S', o)) (ho : ∀ p ∈ o, p) (ok : AOK cx A d) (r : Rel cx ρ S s) :
  wpAny (MM cx.w) A (exec (.Assign [t] e pp) (envOf q sc cx.L a cd)) (PS cx ρ fl S') E s := by
 refine itF h fun hc h => ?_
 replace hc : qEP e = false := by simpa using hc
 refine qAJ h (fun h => bd h fun y ey h => oz11 (qAS ey) fun yp e1 => ?_) fun h => qAJ h (fun h => bd h fun z ez h => bd h fun y ey h => oz11 (qAS ey) fun yp e1 => ?_)
  fun h => bd h fun es ee h => bd h fun y ey h => oz21 (qDS ee) fun kk tp e1 => oz11 (qAS ey) fun yp e2 => ?_
 ·rw [e1]
  exact wpAny_Assign_Name (be hx.e h ho ok r fun u S1 o2 h ho ρ1 c s1 p1 v1 r1 => bn2 h fun _ S2 _ _ h3 h4 => wpAny_mono (qAu hk h3 v1 r1) (fun _ s2 r2 => PS.sm h4 ⟨ρ1, p1, rfl, r2⟩) fun _ _ x => x) (qBj hc)
 ·rw [qDg ez, e1]
  exact qKX hk hx hc h ho ok r
 ·rw [e1, e2]
  exact qKk hk h ho ok r
theorem qG4 (hk : sc.kind = .function) (hx : Soundness cx (envOf q sc cx.L a cd) d x) (h : qQI (Kx cx) sc x e S = some (fl, S', o)) (ho : ∀ p ∈ o, p) (ok : AOK cx A d) (r : Rel cx ρ S s) (hE : ∀ v s', EX cx ρ fl S' v s' → E v s') :
  wpAny (MM cx.w) A (exec (.Raise (some e) none pp) (envOf q sc cx.L a cd)) (PS cx ρ fl S') E s := by
 refine bd h fun t et h => bd h fun y ey h => bd h fun e1 ee h => itT h fun hc h => oz11 (qJ1 et) fun cp e0 => oz11 (qAS ey) fun yp e2 => ?_
 refine oz02 (Bool.and_eq_true_iff.mp hc) fun hkw hns => ?_
 rw [e0, e2, qBX ee, List.isEmpty_iff.mp hkw]
 refine Raise_madeB F.excCall_ValueError F.excRaise_ValueError ok.room.2 (bn hk h ho r fun u S1 o2 h ho ρ1 c s1 p1 v1 r1 => bd h fun i ei h => itT h fun hi h => ⟨oz11 (rT ei v1) fun _ e => by rw [e, hi], ?_⟩) (qAy hns) rfl
 rw [qBU hns]
 refine Calls.spliced_cons (be hx.e h ho ok r1 fun u S2 o3 h ho ρ2 c s2 p2 v2 r2 => bd h fun m em h => oz11 (rS em v2) fun t et => ?_)
 rw [et]
 exact Calls.spliced_nil ⟨by show 1 ≤ sizeLine; decide, fun h' e' hm => hE _ _ (EX.sm h ⟨e', t, s2, h', ρ2, rfl, p1.trans p2, r2, hm, rfl⟩)⟩
theorem qFy (hk : sc.kind = .function) (hx : Soundness cx (envOf q sc cx.L a cd) d x) (h : qVt (Kx cx) sc x y op e S = some (fl, S', o)) (ho : ∀ p ∈ o, p) (ok : AOK cx A d) (r : Rel cx ρ S s) :
  wpAny (MM cx.w) A (exec (.AugAssign (.Name y yp) op e pp) (envOf q sc cx.L a cd)) (PS cx ρ fl S') E s :=
 wpAny_AugAssign_Name (bwE h ho (fun _ _ _ h1 _ => (qCA hk h1 r).1) fun u S1 o2 h ho ρ1 c s1 p1 v1 r1 => be hx.e h ho ok r1 fun u2 S2 o3 h ho ρ2 c2 s2 p2 v2 r2 => bwE h ho (fun _ _ _ h1 ho1 => qEa h1 ho1 (v1.mono p2) v2 r2) fun u3 S3 o4 h ho ρ3 c3 s3 p3 v3 r3 =>
  bn2 h fun _ S4 _ _ h4 h5 => wpAny_mono (qAu hk h4 v3 r3) (fun _ s4 r4 => PS.sm h5 ⟨ρ3, (p1.trans p2).trans p3, rfl, r4⟩) fun _ _ x => x)
theorem qSF {u b : AV} {z : AV × Sta × List Prop} (h : qPB op u b S = some z) : qL0 u = true := by
 cases u <;> first | rfl | (cases op <;> exact nos h)
theorem qFz {at_ : Str} {ap : Pos} (hk : sc.kind = .function) (hcs : Csv cx.w cs d) (hx : Soundness cx (envOf q sc cx.L a cd) (d + 1) x) (h : qVu (Kx cx) cs sc x y at_ op e S = some (fl, S', o)) (ho : ∀ p ∈ o, p) (ok : AOK cx A (d + 1)) (r : Rel cx ρ S s) :
  wpAny (MM cx.w) A (exec (.AugAssign (.Attribute (.Name y yp) at_ ap) op e pp) (envOf q sc cx.L a cd)) (PS cx ρ fl S') E s := by
 refine wpAny_AugAssign_AttributeAny (bn hk h ho r fun u1 S1 o2 h ho ρ1 c s1 p1 v1 r1 => qA9 h ho fun u2 S2 o3 o4 h3 ho3 h ho => qA9 h ho fun u3 S3 o5 o6 h5 ho5 h ho => itT h fun hno h => qA9 h ho fun u4 S4 o7 o8 h7 ho7 h _ => bn2 h fun _ S5 _ _ h9 h10 => ?_)
 clear h
 refine wm (qEV hcs h3 (qSF h7) ho3 v1 r1 ok) (fun c2 s2 z => oz13 z fun ρ2 p2 v2 r2 => ?_)
 refine wm (hx.e _ _ _ _ _ h5 ho5 A ρ2 s2 E ok r2) (fun c3 s3 z => oz13 z fun ρ3 p3 v3 r3 => ?_)
 refine wm (qEa h7 ho7 (v2.mono p3) v3 r3) (fun c4 s4 z => oz13 z fun ρ4 p4 v4 r4 => ?_)
 have pp := (p2.trans p3).trans p4
 exact wm (qCN h9 (v1.mono pp) v4 r4) (fun _ s5 r5 => PS.sm h10 ⟨ρ4, p1.trans pp, rfl, r5⟩)
theorem qLo {e : Option PySem.Expr} (hx : Soundness cx env d x) (h : retS x e S = some (fl, S', o)) (ho : ∀ p ∈ o, p) (ok : AOK cx A d) (r : Rel cx ρ S s) : wpAny (MM cx.w) A (exec (.Return e pp) env) (PS cx ρ fl S') E s := by
 cases e with
 | none => exact wpAny_Return_none (PS.sm h ⟨ρ, List.prefix_refl _, ⟨_, rfl, rfl⟩, r⟩)
 | some e => exact wpAny_Return_some (be hx.e (show (bnd (x.e e S) fun v S => rt (Fl.ret v) S) = _ from h) ho ok r fun u S1 o2 h ho ρ1 c s1 p1 v1 r1 => PS.sm h ⟨ρ1, p1, ⟨c, rfl, v1⟩, r1⟩)
theorem qHy {f : List Stmt → Sta → R Fl} (hk : sc.kind = .function) (hcs : Csv cx.w cs d) (hx : Soundness cx (envOf q sc cx.L a cd) (d + 1) x) (hf : qNu cx (envOf q sc cx.L a cd) (d + 1) f) :
  qNt cx (envOf q sc cx.L a cd) (d + 1) (qVi (Kx cx) cs sc x f) := by
 intro st S fl S' o h ho A ρ s E ok r hE
 cases st <;> try exact nos h
 ·exact qLo hx h ho ok r
 ·refine bd h fun t et h => ?_
  rw [qBX et]
  exact qGA hk hx h ho ok r
 ·refine qAJ h (fun h => bd h fun y ey h => oz11 (qAS ey) fun yp e1 => ?_) fun h => bd h fun z ez h => bd h fun y ey h => oz11 (qAS ey) fun yp e1 => ?_
  ·rw [e1]; exact qFy hk hx h ho ok r
  ·rw [qDg ez, e1]; exact qFz hk hcs hx h ho ok r
 ·refine itT h fun e h => ?_
  rw [List.isEmpty_iff.mp e]
  exact qGJ (fun S b S' o h ho A ρ s E ok r => hx.t _ _ _ _ _ h ho A ρ s E ok r) (fun S fl S' o h ho A ρ s E ok r hE => hf _ _ _ _ _ h ho A ρ s E ok r hE) h ho ok r
 ·refine wpAny_If (bt hx.t h ho ok r fun c S1 o2 h ho ρ1 s1 p1 r1 => ?_)
  cases c
  ·exact qQ9 p1 (hf _ _ _ _ _ h ho A ρ1 s1 E ok r1 fun v s' x => hE v s' (x.pre p1))
  ·exact qQ9 p1 (hf _ _ _ _ _ h ho A ρ1 s1 E ok r1 fun v s' x => hE v s' (x.pre p1))
 ·rename_i ex ca p
  refine itT h fun e h => bd h fun e2 ee h => ?_
  rw [Option.isNone_iff_eq_none.mp e, ee]
  exact qG4 hk hx h ho ok r hE
 ·refine itF h fun hc h => wpAny_Expr_any (be hx.e h ho ok r fun u S1 o2 h ho ρ1 c s1 p1 v1 r1 => PS.sm h ⟨ρ1, p1, rfl, r1⟩) ?_ (qI3 (by simpa using hc))
  show (sc.kind == .module && _) = false
  rw [hk]; rfl
 ·exact wpAny_Pass (PS.sm h ⟨ρ, List.prefix_refl _, rfl, r⟩)
 ·exact fun _ _ _ => PS.sm h ⟨ρ, List.prefix_refl _, rfl, r⟩
 ·exact fun _ _ _ => PS.sm h ⟨ρ, List.prefix_refl _, rfl, r⟩
end
theorem qGi {cs : Cs} {sc : Scope} {q : Str} {a : Addr} {cd : Value} {x : Evs} (hk : sc.kind = .function) (hcs : Csv cx.w cs d) (hx : Soundness cx (envOf q sc cx.L a cd) (d + 1) x) : ∀ n, qNt cx (envOf q sc cx.L a cd) (d + 1) (exN (Kx cx) cs sc x n)
 | 0 => fun _ _ _ _ _ h => (nomatch h)
 | n + 1 => qHy hk hcs hx (qEg (qGi hk hcs hx n))
theorem qAF {cs : Cs} {sc : Scope} {q : Str} {a : Addr} {cd : Value} (hk : sc.kind = .function) (hcs : Csv cx.w cs d) : qNu cx (envOf q sc cx.L a cd) (d + 1) (run (Kx cx) cs sc) :=
 qEg (qGi hk hcs (qAt hk hcs 30) 30)
end
end
theorem qVx (P : Params) : ((H1 P).isNs cStatics && ((H1 P).nsMap cStatics "sys.recursionlimit").isNone) = true := by kernel_rfl
theorem qD4 {w : World} {h : Heap} (k : Kept w h) : h.NoLimit := by
 obtain ⟨a, b⟩ := Bool.and_eq_true_iff.mp (qVx w.params)
 have z : (H1 w.params).NoLimit := ⟨_, .of_isNs a, Option.isNone_iff_eq_none.mp b⟩
 obtain ⟨mc, hn, hm⟩ := z
 exact ⟨mc, hn.at' fun o e => (k cStatics o e).1 (by decide), hm⟩
noncomputable def qBb (K : Frag) (cs : Cs) (sc : Scope) (body : List Stmt) (params : List Str) (orc ori : List Bool) : Spec := fun args H =>
 if args.length = params.length then
  match run K cs sc body ⟨params.zip args, H, orc, ori⟩ with
  | some (.ret v, S', o) => some (v, S'.H, o)
  | some (.next, S', o) => some (.none, S'.H, o)
  | _ => none
 else none
theorem qA5 {α : Type} {x : Str} : ∀ {l : List (Str × α)} {a : α}, l.lookup x = some a → (x, a) ∈ l
 | [], _, h => by cases h
 | (y, b) :: l, a, h => by
  rw [List.lookup_cons] at h
  split at h
  ·rename_i q; cases h; rw [beq_iff_eq.mp q]; exact .head _
  ·exact .tail _ (qA5 h)
theorem qEK {α : Type} {x : Str} : ∀ {l : List (Str × α)} {a : α}, (l.map (·.1)).Nodup → (x, a) ∈ l → l.lookup x = some a
 | (y, b) :: l, a, n, h => by
  rw [List.map_cons, List.nodup_cons] at n
  rw [List.lookup_cons]
  rcases lc h with e | h
  ·cases e; simp
  ·have : x ≠ y := fun e => n.1 (by rw [← e]; exact List.mem_map_of_mem (f := (·.1)) h)
   rw [beq_eq_false_iff_ne.mpr this]
   exact qEK n.2 h
theorem qKb {ρ : Rho} {x : Str} : ∀ {ps : List Str} {as : List AV} {vs : List Value}, vrels ρ as vs → ∀ {a : AV}, (ps.zip as).lookup x = some a → ∃ v, (x, v) ∈ ps.zip vs ∧ vrel ρ a v
 | [], _, _, _, _, h => by simp at h
 | _ :: _, _, _, .nil, _, h => by simp at h
 | p :: ps, _, _, .cons (b := b) r1 r2, a, h => by
  rw [List.zip_cons_cons, List.lookup_cons] at h
  split at h
  ·rename_i q; cases h; rw [beq_iff_eq.mp q]; exact ⟨b, .head _, r1⟩
  ·obtain ⟨v, e1, e2⟩ := qKb (ps := ps) r2 h
   exact ⟨v, .tail _ e1, e2⟩
theorem qDz {α : Type} : ∀ {ps : List Str} {vs : List α}, ps.length = vs.length → (ps.zip vs).map (·.1) = ps
 | [], [], _ => rfl
 | p :: ps, v :: vs, h => by rw [List.zip_cons_cons, List.map_cons, qDz (by simpa using h)]
 | [], _ :: _, h => by simp at h
 | _ :: _, [], h => by simp at h
structure FnFacts (w : World) (f : Addr) (fd : FuncData) (body : List Stmt) (params : List Str) : Prop where
 at_ : ∃ oc od sl, (KK w.params).lookup f = some ⟨oc, od, .func fd, sl⟩
 body : fd.body = .stmts body
 code : codeIn (KK w.params) fd.code fd.qualname = true
 kind : fd.scope.kind = .function
 glob : fd.globals = mainGlobals
 bi : fd.builtins = builtinsNs
 clo : fd.closure = []
 co : fd.scope.isCoroutine = false
 gen : fd.scope.isGenerator = false
 cell : ∀ x ∈ fd.scope.names, x.2 ≠ .cell
 nod : params.Nodup
 loc : ∀ x ∈ params, fd.scope.names.lookup x = some .local
 bind : ∀ (s : Shared) (vals : List Value), Kept w s.heap → vals.length = params.length → BindsTo s fd ⟨vals, []⟩ (params.zip vals)
theorem qDe {fd : FuncData} {L a : Addr} (h1 : fd.globals = mainGlobals) (h2 : fd.builtins = builtinsNs) (h3 : fd.closure = []) : callEnv fd L a = envOf fd.qualname fd.scope L a fd.code := by
 unfold callEnv envOf
 rw [h1, h2, h3]
 rfl
theorem qEd {A : Around} {env : Env} {L : Addr} (h : env.frame = some L) : ∀ a ∈ qAa (A.deeper env), a ∈ qAa A ∨ a = L := by
 intro a ha
 unfold qAa Around.deeper at ha
 unfold qAa
 cases q : A.frames with
 | none => simp [q] at ha
 | some l => simp [q, h] at ha ⊢; exact ha.symm.imp id id
theorem Rel.enter {w : World} {A : Around} {s : Shared} {ρ : Rho} {H : List AO} {h1 : Heap} {params : List Str} {args : List AV} {vals : List Value} {orc ori : List Bool} {tk : Nat} (hr : HR w ρ H s.heap) (ra : vrels ρ args vals) (hl : args.length = params.length) (hn : params.Nodup)
  (hns : h1.Ns s.heap.objs.size fun x => (params.zip vals).reverse.lookup x) (hk : ∀ b o, s.heap.get? b = some o → h1.get? b = some o) :
  Rel ⟨w, s.heap.objs.size, s.heap, feet H ρ, qAa A, s.gens, s.drawn, s.os⟩ ρ ⟨params.zip args, H, orc, ori⟩ { s with heap := h1, toks := tk } := by
 have c : Chg [] s.heap h1 := ⟨fun b o e _ => hk b o e⟩
 have hv := ra.length
 have hS : nS ≤ s.heap.objs.size := by
  have : ((H1 w.params).get? 823).isSome = true := by kernel_rfl
  obtain ⟨o, e⟩ := Option.isSome_iff_exists.mp this
  obtain ⟨_, z⟩ := (hr.kept _ _ e).2
  exact Heap.lt_size z
 refine ⟨hr.out c (by simp), ⟨_, hns, fun x a e => ?_⟩, fun a ha => ⟨fun e => ?_, .inl ha⟩, ⟨hS, .inr (qEW (Nat.le_refl _))⟩, (Kp.refl _ _ _).step c (by simp), ⟨rfl, rfl, rfl⟩⟩
 rotate_left
 ·obtain ⟨ob, q⟩ := hr.below a ha
  exact absurd (Heap.lt_size q) (by rw [e]; exact Nat.lt_irrefl _)
 obtain ⟨v, e1, e2⟩ := qKb ra e
 refine ⟨v, qEK ?_ (List.mem_reverse.mpr e1), e2⟩
 rw [List.map_reverse, qDz (by rw [← hl]; exact hv)]
 unfold List.Nodup
 rw [List.pairwise_reverse]
 exact List.Pairwise.imp (fun h => Ne.symm h) hn
theorem AOK.enter {w : World} {A : Around} {s : Shared} {ρ : Rho} {H : List AO} {env : Env} {d : Nat} (rm : Room A (d + 2)) (hF : ∀ a ∈ qAa A, (∃ ob, s.heap.get? a = some ob) ∧ a ∉ feet H ρ) (hf : env.frame = some s.heap.objs.size) : AOK ⟨w, s.heap.objs.size, s.heap, feet H ρ, qAa A, s.gens, s.drawn, s.os⟩ (A.deeper env) (d + 1) := by
 refine ⟨⟨⟨?_, ?_⟩, rm.2⟩, fun a ha => ?_, hF⟩
 ·have := rm.1.1; show A.depth + 1 + (d + 1) ≤ 900; omega
 ·have := rm.1.2; show A.units + 3 + 20 * (d + 1) ≤ 9000; omega
 ·rcases qEd hf a ha with h | h
  ·exact .inl h
  ·exact .inr h
theorem qHr {w : World} {f : Addr} {fd : FuncData} {body : List Stmt} {params : List Str} {cs : Cs} {d : Nat} {orc ori : List Bool} (F : FnFacts w f fd body params) (hcs : Csv w cs d) {A : Around} {s : Shared} {ρ : Rho} {H : List AO} {args : List AV} {r : AV} {H' : List AO} {o : List Prop} {vals : List Value} {cargs : Args}
  (h : qBb (KK w.params) cs fd.scope body params orc ori args H = some (r, H', o)) (ho : ∀ p ∈ o, p) (rm : Room A (d + 2)) (hr : HR w ρ H s.heap) (hF : ∀ a ∈ qAa A, (∃ ob, s.heap.get? a = some ob) ∧ a ∉ feet H ρ) (ra : vrels ρ args vals) (hb : BindsTo s fd cargs (params.zip vals))
  (Q E : VP) (hQ : ∀ v s' ρ', ρ <+: ρ' → vrel ρ' r v → HR w ρ' H' s'.heap → Kp (feet H ρ) (qAa A) s.heap s'.heap → (∀ a ∈ feet H' ρ', a ∈ feet H ρ ∨ s.heap.get? a = none) →
   s'.gens = s.gens ∧ s'.drawn = s.drawn ∧ s'.os = s.os → Q v s') : codeAny (model pw w) A (.call (.ref f) cargs) (back Q E) s := by
 unfold qBb at h
 split at h
 rotate_left
 ·cases h
 rename_i hl
 obtain ⟨oc, od, sl, hat⟩ := F.at_
 have X := hr.kept.kk
 have hv : vals.length = params.length := by rw [← hl]; exact ra.length.symm
 refine codeAny_call_def (fd := fd) (binds := params.zip vals) (by have := rm.1.1; show A.depth < 1000; omega) (X _ _ hat) rfl (qD4 hr.kept) (codeRec_of X F.code) F.body hb F.cell (fun x hx => ?_) (fun h1 hns hk => ?_) F.co F.gen F.kind
 ·have : x.1 ∈ params := by rw [← qDz (α := Value) hv.symm]; exact List.mem_map_of_mem (f := (·.1)) hx
  exact F.loc _ this
 ·rw [qDe F.glob F.bi F.clo]
  have R0 := Rel.enter (A := A) (orc := orc) (ori := ori) (tk := s.toks + (params.zip vals).length) hr ra hl F.nod hns hk
  have ok : AOK ⟨w, s.heap.objs.size, s.heap, feet H ρ, qAa A, s.gens, s.drawn, s.os⟩ (A.deeper (envOf fd.qualname fd.scope s.heap.objs.size f fd.code)) (d + 1) := AOK.enter rm hF rfl
  split at h
  ·rename_i v S' o' hrun
   cases h
   refine wm (qAF (cx := ⟨w, s.heap.objs.size, s.heap, feet H ρ, qAa A, s.gens, s.drawn, s.os⟩) (q := fd.qualname) (a := f) (cd := fd.code) F.kind hcs body _ _ _ _ hrun ho _ ρ _ _ ok R0 fun _ _ x => x.elim) (fun fl s' z => ?_)
   obtain ⟨ρ', p1, ⟨c, rfl, v1⟩, r1⟩ := z
   exact hQ c s' ρ' p1 v1 r1.hr r1.kp (fun a ha => (r1.ft a ha).2) r1.rest
  ·rename_i S' o' hrun
   cases h
   refine wm (qAF (cx := ⟨w, s.heap.objs.size, s.heap, feet H ρ, qAa A, s.gens, s.drawn, s.os⟩) (q := fd.qualname) (a := f) (cd := fd.code) F.kind hcs body _ _ _ _ hrun ho _ ρ _ _ ok R0 fun _ _ x => x.elim) (fun fl s' z => ?_)
   obtain ⟨ρ', p1, rfl, r1⟩ := z
   exact hQ .none s' ρ' p1 rfl r1.hr r1.kp (fun a ha => (r1.ft a ha).2) r1.rest
  ·cases h
theorem qDn {w : World} {f : Addr} {fd : FuncData} {body : List Stmt} {params : List Str} {cs : Cs} {d : Nat} {orc ori : List Bool} {sc : Scope} (F : FnFacts w f fd body params) (hs : fd.scope = sc) (hcs : Csv w cs d) : Fn w f (d + 2) (qBb (KK w.params) cs sc body params orc ori) := by
 subst hs
 intro A s ρ H args r H' o vals h ho rm hr hF ra Q E hQ
 refine qHr F hcs h ho rm hr hF ra (F.bind s vals hr.kept ?_) Q E hQ
 unfold qBb at h
 split at h
 ·rename_i hl; rw [← hl]; exact ra.length.symm
 ·cases h
theorem qEm {w : World} {s : Shared} {fd : FuncData} {args : Args} {binds : List (Str × Value)} {T : Addr} {o : Obj} {items : Array Value} {n : Nat} {k : Option (Array Value) → Sem (List (Str × Value))} (kp : Kept w s.heap) (hd : fd.defaults = .ref T) (ho : (KK w.params).lookup T = some o) (hs : o.data = .seq items n)
  (h1 : bindArgs fd args = seqItems? fd.defaults >>= k) (h2 : k (some items) = pure binds) : BindsTo s fd args binds := binds_K kp.kk hd ho hs h1 h2
section
noncomputable def qC2 (g : Nat → Nat) : AV → AV
 | .obj i => .obj (g i)
 | a => a
noncomputable def qD0 (g : Nat → Nat) : AO → AO
 | .tup xs => .tup (xs.map (qC2 g))
 | .lst xs => .lst (xs.map (qC2 g))
 | .inst C fs => .inst C (fs.map fun f => (f.1, qC2 g f.2))
 | .lit i k => .lit (g i) k
 | o => o
section
variable {ρ ρ' : Rho} {g : Nat → Nat}
theorem vrel.ren (hg : ∀ (i : Nat) p, ρ[i]? = some p → ρ'[g i]? = some p) {a : AV} {v : Value} (r : vrel ρ a v) : vrel ρ' (qC2 g a) v := by
 cases a with
 | obj i => obtain ⟨p, h1, h2⟩ := r; exact ⟨p, hg i p h1, h2⟩
 | none => exact r
 | bool _ => exact r
 | int _ => exact r
 | str _ => exact r
 | chr _ => exact r
 | lit _ => exact r
theorem vrels.ren (hg : ∀ (i : Nat) p, ρ[i]? = some p → ρ'[g i]? = some p) {as : List AV} {vs : List Value} (r : vrels ρ as vs) : vrels ρ' (as.map (qC2 g)) vs := by
 induction r with
 | nil => exact .nil
 | cons h _ ih => exact .cons (h.ren hg) ih
theorem qQV (hg : ∀ (i : Nat) p, ρ[i]? = some p → ρ'[g i]? = some p) {fs : LV} {es : List DictEntry} (r : All2 (erel ρ) fs es) : All2 (erel ρ') (fs.map fun f => (f.1, qC2 g f.2)) es := by
 induction r with
 | nil => exact .nil
 | cons h _ ih => exact .cons ⟨h.1, h.2.ren hg⟩ ih
theorem qFq (d : Stand) : (encS d).map (qC2 g) = encS d := by
 obtain ⟨p, n, m, f⟩ := d
 cases f <;> rfl
theorem qCu (o : AO) (p : Addr × Addr) : foot (qD0 g o) p = foot o p := by cases o <;> rfl
theorem ORel.ren (hg : ∀ (i : Nat) p, ρ[i]? = some p → ρ'[g i]? = some p) {o : AO} {p : Addr × Addr} {h : Heap} (r : ORel ρ o p h) : ORel ρ' (qD0 g o) p h := by
 cases o with
 | tup xs => obtain ⟨vs, n, h1, h2⟩ := r; exact ⟨vs, n, h1, h2.ren hg⟩
 | lst xs => obtain ⟨vs, n, h1, h2⟩ := r; exact ⟨vs, n, h1, h2.ren hg⟩
 | inst C fs => obtain ⟨h1, es, n, h2, h3⟩ := r; exact ⟨h1, es, n, h2, qQV hg h3⟩
 | deq => exact r
 | sio rest =>
  obtain ⟨buf, k, ⟨h1, es, n, h2, h3⟩, h4⟩ := r
  exact ⟨buf, k, ⟨h1, es, n, h2, by have := qQV hg h3; exact this⟩, h4⟩
 | std d =>
  obtain ⟨vs, n, h1, h2⟩ := r
  have := h2.ren hg
  rw [qFq] at this
  exact ⟨vs, n, h1, this⟩
 | sit rest => exact r
 | lit i k => obtain ⟨q, h1, h2⟩ := r; exact ⟨q, hg i q h1, h2⟩
 | any => exact r
end
noncomputable def qCb (sel : List Nat) (N : Nat) (j : Nat) : Nat := match sel[j]? with
 | some i => i
 | none => N + (j - sel.length)
noncomputable def qA7 : List AO → List Nat → List AO → List AO
 | H, i :: sel, o :: os => qA7 (H.set i o) sel os
 | H, _, _ => H
noncomputable def qCa (H : List AO) (sel : List Nat) (H' : List AO) : List AO :=
 qA7 H sel ((H'.take sel.length).map (qD0 (qCb sel H.length))) ++ (H'.drop sel.length).map (qD0 (qCb sel H.length))
theorem qBS : ∀ {H : List AO} {sel : List Nat} {os : List AO}, (qA7 H sel os).length = H.length
 | H, [], _ => by unfold qA7; rfl
 | H, i :: sel, [] => by unfold qA7; rfl
 | H, i :: sel, o :: os => by unfold qA7; rw [qBS, List.length_set]
theorem qC1 : ∀ {H : List AO} {sel : List Nat} {os : List AO} {i : Nat}, i ∉ sel → (qA7 H sel os)[i]? = H[i]?
 | H, [], _, _, _ => by unfold qA7; rfl
 | H, k :: sel, [], _, _ => by unfold qA7; rfl
 | H, k :: sel, o :: os, i, h => by
  unfold qA7
  rw [qC1 fun q => h (.tail _ q), List.getElem?_set_ne fun e => h (by rw [e]; exact .head _)]
theorem qFS : ∀ {H : List AO} {sel : List Nat} {os : List AO} {i j : Nat}, sel.Nodup → sel[j]? = some i → i < H.length → j < os.length → (qA7 H sel os)[i]? = os[j]?
 | H, [], _, _, _, _, h, _, _ => by simp at h
 | H, k :: sel, [], _, _, _, _, _, h => by simp at h
 | H, k :: sel, o :: os, i, 0, n, h, hl, _ => by
  simp at h; subst h
  unfold qA7
  rw [List.nodup_cons] at n
  rw [qC1 n.1, List.getElem?_set_self hl]; rfl
 | H, k :: sel, o :: os, i, j + 1, n, h, hl, hj => by
  unfold qA7
  rw [List.nodup_cons] at n
  rw [qFS n.2 (by simpa using h) (by rw [List.length_set]; exact hl) (by simpa using hj)]
  simp
structure Sel (ρ : Rho) (H : List AO) (ρ0 : Rho) (H0 : List AO) (sel : List Nat) : Prop where
 nod : sel.Nodup
 len : sel.length = H0.length
 at_ : ∀ (j i : Nat), sel[j]? = some i → ∃ p o, ρ[i]? = some p ∧ ρ0[j]? = some p ∧ H[i]? = some o ∧ ∀ o0, H0[j]? = some o0 → foot o0 p = foot o p
section
variable {ρ ρ0 ρ0' : Rho} {H H0 H0' : List AO} {sel : List Nat}
theorem Sel.get (S : Sel ρ H ρ0 H0 sel) {j : Nat} {o0 : AO} {p : Addr × Addr} {C : Prop} (e1 : H0[j]? = some o0) (e2 : ρ0[j]? = some p) (k : ∀ i o, sel[j]? = some i → ρ[i]? = some p → H[i]? = some o → foot o0 p = foot o p → C) : C := by
 have lt := (List.getElem?_eq_some_iff.mp e1).1
 have hj : sel[j]? = some (sel[j]'(by rw [S.len]; exact lt)) := List.getElem?_eq_getElem _
 refine oz24 (S.at_ j _ hj) fun p' o f1 f2 f3 f4 => ?_
 rw [e2] at f2
 rw [← Option.some.inj f2] at f1 f4
 exact k _ o hj f1 f3 (f4 o0 e1)
theorem Sel.sub (S : Sel ρ H ρ0 H0 sel) : ∀ a ∈ feet H0 ρ0, a ∈ feet H ρ := fun a ha =>
 oz33 (qAw ha) fun j o0 p e1 e2 e3 => S.get e1 e2 fun i o _ f1 f3 f4 => qAo f3 f1 a (by rw [← f4]; exact e3)
theorem qPe (S : Sel ρ H ρ0 H0 sel) (hl : ρ.length = H.length) (pre : ρ0 <+: ρ0') (j : Nat) (p : Addr × Addr) (e : ρ0'[j]? = some p) : (ρ ++ ρ0'.drop sel.length)[qCb sel H.length j]? = some p := by
 unfold qCb
 cases q : sel[j]? with
 | some i =>
  refine oz24 (S.at_ j i q) fun p' o f1 f2 f3 f4 => ?_
  rw [← e, qBi pre f2]
  exact qBi (List.prefix_append _ _) f1
 | none =>
  have hj : sel.length ≤ j := by simpa using q
  dsimp only
  rw [List.getElem?_append_right (by rw [hl]; omega), List.getElem?_drop, hl]
  rw [show sel.length + (H.length + (j - sel.length) - H.length) = j by omega]
  exact e
theorem qPf {N i j : Nat} (h : sel[j]? = some i) : qCb sel N j = i := by unfold qCb; rw [h]
theorem qMa {i : Nat} (h : ¬ i < H.length) : qCb sel H.length (sel.length + (i - H.length)) = i := by
 unfold qCb
 rw [List.getElem?_eq_none (by omega)]
 dsimp only
 omega
theorem qC7 (S : Sel ρ H ρ0 H0 sel) (hl : ρ.length = H.length) (pre : ρ0 <+: ρ0') (l1 : sel.length ≤ H0'.length) {i : Nat} {o : AO} {p : Addr × Addr} {C : Prop} (h1 : (qCa H sel H0')[i]? = some o) (h2 : (ρ ++ ρ0'.drop sel.length)[i]? = some p)
  (k1 : i ∉ sel → H[i]? = some o → ρ[i]? = some p → C) (k2 : ∀ j o0, qCb sel H.length j = i → H0'[j]? = some o0 → qD0 (qCb sel H.length) o0 = o → ρ0'[j]? = some p → C) : C := by
 unfold qCa at h1
 by_cases lt : i < H.length
 ·rw [List.getElem?_append_left (by rw [qBS]; exact lt)] at h1
  rw [List.getElem?_append_left (by rw [hl]; exact lt)] at h2
  by_cases hm : i ∈ sel
  ·refine oz11 (List.getElem?_of_mem hm) fun j hj => ?_
   have jl := (List.getElem?_eq_some_iff.mp hj).1
   rw [qFS S.nod hj lt (by rw [List.length_map, List.length_take]; omega), List.getElem?_map, List.getElem?_take_of_lt jl] at h1
   refine mp h1 fun o0 e1 e2 => oz24 (S.at_ j i hj) fun p' o' f1 f2 f3 f4 => k2 j o0 (qPf hj) e1 e2 ?_
   rw [← h2, f1]; exact qBi pre f2
  ·rw [qC1 hm] at h1
   exact k1 hm h1 h2
 ·rw [List.getElem?_append_right (by rw [qBS]; omega), qBS, List.getElem?_map, List.getElem?_drop] at h1
  rw [List.getElem?_append_right (by rw [hl]; omega), hl, List.getElem?_drop] at h2
  exact mp h1 fun o0 e1 e2 => k2 _ o0 (qMa lt) e1 e2 h2
variable {w : World} {h h' : Heap}
theorem qIl (r : HR w ρ H h) (S : Sel ρ H ρ0 H0 sel) {i : Nat} {o : AO} {p : Addr × Addr} (hi : i ∉ sel) (h1 : H[i]? = some o) (h2 : ρ[i]? = some p) : ∀ a ∈ foot o p, a ∉ feet H0 ρ0 := fun a ha hb =>
 oz33 (qAw hb) fun j o0 p0 e1 e2 e3 => S.get e1 e2 fun i' o' hj f1 f3 f4 => r.sep i i' o o' p p0 h1 h2 f3 f1 (fun e => hi (by rw [e]; exact List.mem_of_getElem? hj)) a ha (by rw [← f4]; exact e3)
theorem HR.lift {F : List Addr} (r : HR w ρ H h) (r0 : HR w ρ0 H0 h) (r' : HR w ρ0' H0' h') (pre : ρ0 <+: ρ0') (k : Kp (feet H0 ρ0) F h h') (hF : ∀ a ∈ F, a ∉ feet H ρ)
  (hnew : ∀ a ∈ feet H0' ρ0', a ∈ feet H0 ρ0 ∨ h.get? a = none) (S : Sel ρ H ρ0 H0 sel) :
  HR w (ρ ++ ρ0'.drop sel.length) (qCa H sel H0') h' ∧ (∀ (j : Nat) p, ρ0'[j]? = some p → (ρ ++ ρ0'.drop sel.length)[qCb sel H.length j]? = some p) ∧ (∀ a ∈ feet (qCa H sel H0') (ρ ++ ρ0'.drop sel.length), a ∈ feet H ρ ∨ h.get? a = none) := by
 have l1 : sel.length ≤ H0'.length := by
  rw [← r'.len, S.len, ← r0.len]; exact pre.length_le
 have gmap := qPe S r.len pre
 have mix : ∀ {i : Nat} {o : AO} {p : Addr × Addr} {j : Nat} {o0 : AO} {p0 : Addr × Addr}, i ∉ sel → H[i]? = some o → ρ[i]? = some p → H0'[j]? = some o0 → ρ0'[j]? = some p0 → ∀ a ∈ foot o p, a ∉ foot o0 p0 :=
  fun hi e1 e2 e3 e4 a ha hb => (hnew a (qAo e3 e4 a hb)).elim (qIl r S hi e1 e2 a ha) fun q => oz11 ((r.obj _ _ _ e1 e2).there a ha) fun ob z => nos (q.symm.trans z)
 have high : ∀ {i : Nat} {o : AO} {p : Addr × Addr}, (qCa H sel H0')[i]? = some o → (ρ ++ ρ0'.drop sel.length)[i]? = some p → ∀ a ∈ foot o p, a ∈ feet H ρ ∨ a ∈ feet H0' ρ0' :=
  fun h1 h2 a ha => qC7 S r.len pre l1 h1 h2 (fun _ e1 e2 => .inl (qAo e1 e2 a ha)) fun j o0 _ e1 eo e2 => .inr (qAo e1 e2 a (by rw [← eo, qCu] at ha; exact ha))
 refine ⟨⟨r'.kept, ?_, fun i o p h1 h2 => qC7 S r.len pre l1 h1 h2 (fun hi e1 e2 => ?_) fun j o0 _ e1 eo e2 => ?_, fun i o p h1 h2 => qC7 S r.len pre l1 h1 h2 (fun hi e1 e2 => r.own i o p e1 e2) fun j o0 _ e1 eo e2 => ?_,
  fun i i' o o' p p' h1 h2 h3 h4 ne a ha => qC7 S r.len pre l1 h1 h2 (fun hi e1 e2 => qC7 S r.len pre l1 h3 h4 (fun hi' e3 e4 => r.sep i i' o o' p p' e1 e2 e3 e4 ne a ha) fun j' o1 _ e3 eo e4 => ?_) fun j o0 ei e1 eo e2 => qC7 S r.len pre l1 h3 h4 (fun hi' e3 e4 => ?_) fun j' o1 ei' e3 eo' e4 => ?_,
  fun a ha => oz33 (qAw ha) fun i o p h1 h2 h3 => (high h1 h2 a h3).elim (r.high a) (r'.high a)⟩, gmap, fun a ha => oz33 (qAw ha) fun i o p h1 h2 h3 => (high h1 h2 a h3).elim .inl fun q => (hnew a q).imp (S.sub a) id⟩
 ·unfold qCa
  simp only [List.length_append, List.length_drop, List.length_map, qBS, r.len, ← r'.len]
 ·refine (r.obj i o p e1 e2).loc (List.prefix_append _ _) fun a ha ob e => ?_
  refine oz12 (k.keep a ob e (qIl r S hi e1 e2 a ha)) fun sl z1 z2 => ?_
  rw [z2 fun hf => hF a hf (qAo e1 e2 a ha)] at z1
  exact z1
 ·rw [← eo]; exact (r'.obj j o0 p e1 e2).ren gmap
 ·rw [← eo, qCu]; exact r'.own j o0 p e1 e2
 ·rw [← eo, qCu]; exact mix hi e1 e2 e3 e4 a ha
 ·rw [← eo, qCu] at ha
  exact fun hb => mix hi' e3 e4 e1 e2 a hb ha
 ·rw [← eo, qCu] at ha
  rw [← eo', qCu]
  exact r'.sep j j' o0 o1 p p' e1 e2 e3 e4 (fun e => ne (by rw [← ei, ← ei', e])) a ha
end
theorem Kp.mono {X Y F : List Addr} {h h' : Heap} (k : Kp X F h h') (s : ∀ a ∈ X, a ∈ Y) : Kp Y F h h' := ⟨fun b o e n => k.keep b o e fun q => n (s b q)⟩
theorem Fn.frame {w : World} {f : Addr} {d : Nat} {sp : Spec} (fn : Fn w f d sp) {A : Around} {s : Shared} {ρ ρ0 : Rho} {H H0 : List AO} {sel : List Nat} {args0 : List AV} {r0 : AV} {H0' : List AO} {o : List Prop} {vals : List Value}
  (r : HR w ρ H s.heap) (hF : ∀ a ∈ qAa A, (∃ ob, s.heap.get? a = some ob) ∧ a ∉ feet H ρ) (rm : Room A d) (hr0 : HR w ρ0 H0 s.heap) (S : Sel ρ H ρ0 H0 sel) (hsp : sp args0 H0 = some (r0, H0', o)) (ho : ∀ p ∈ o, p) (ra : vrels ρ0 args0 vals)
  {Q E : VP} (hQ : ∀ v s' ρ', ρ <+: ρ' → vrel ρ' (qC2 (qCb sel H.length) r0) v → HR w ρ' (qCa H sel H0') s'.heap → Kp (feet H ρ) (qAa A) s.heap s'.heap → (∀ a ∈ feet (qCa H sel H0') ρ', a ∈ feet H ρ ∨ s.heap.get? a = none) →
   s'.gens = s.gens ∧ s'.drawn = s.drawn ∧ s'.os = s.os → Q v s') : codeAny (model pw w) A (.call (.ref f) ⟨vals, []⟩) (back Q E) s := by
 refine fn A s ρ0 H0 args0 r0 H0' o vals hsp ho rm hr0 (fun a ha => ⟨(hF a ha).1, fun q => (hF a ha).2 (S.sub a q)⟩) ra Q E fun v s' ρ0' p1 v1 r1 k1 f1 e1 => ?_
 refine oz03 (r.lift hr0 r1 p1 k1 (fun a ha => (hF a ha).2) f1 S) fun z1 z2 z3 => ?_
 exact hQ v s' _ (List.prefix_append _ _) (v1.ren z2) z1 (k1.mono S.sub) z3 e1
end
noncomputable def fdOf (o : Obj) : FuncData := match o.data with
 | .func fd => fd
 | _ => default
theorem len0 {P : List Value → Prop} (k : P []) : ∀ l, l.length = 0 → P l := fun l h => by rw [List.eq_nil_of_length_eq_zero h]; exact k
theorem lenS {n : Nat} {P : List Value → Prop} (k : ∀ a l, l.length = n → P (a :: l)) : ∀ l, l.length = n + 1 → P l := fun l h => by
 cases l with
 | nil => cases h
 | cons a l => exact k a l (Nat.succ.inj h)
theorem len1 {P : List Value → Prop} (k : ∀ a, P [a]) : ∀ l, l.length = 1 → P l := lenS fun a => len0 (P := fun l => P (a :: l)) (k a)
theorem len2 {P : List Value → Prop} (k : ∀ a b, P [a, b]) : ∀ l, l.length = 2 → P l := lenS fun a => len1 (P := fun l => P (a :: l)) (k a)
theorem len3 {P : List Value → Prop} (k : ∀ a b c, P [a, b, c]) : ∀ l, l.length = 3 → P l := lenS fun a => len2 (P := fun l => P (a :: l)) (k a)
theorem len5 {P : List Value → Prop} (k : ∀ a b c d e, P [a, b, c, d, e]) : ∀ l, l.length = 5 → P l := lenS fun a => lenS fun b => len3 (P := fun l => P (a :: b :: l)) (k a b)
noncomputable def fnOk (K : Frag) (fd : FuncData) (params : List Str) : Bool := codeIn K fd.code fd.qualname && (fd.scope.kind == .function && (fd.globals == mainGlobals && (fd.builtins == builtinsNs && (fd.closure.isEmpty && (!fd.scope.isCoroutine && (!fd.scope.isGenerator && (fd.scope.names.all (fun x => x.2 != .cell) && (decide params.Nodup && params.all fun x => fd.scope.names.lookup x == some .local))))))))
theorem FnFacts.of {w : World} {f : Addr} {fd : FuncData} {body : List Stmt} {params : List Str} (h1 : (KK w.params).lookup f = some ⟨.type "function", none, .func fd, #[]⟩) (h2 : fd.body = .stmts body) (h3 : fnOk (KK w.params) fd params = true)
  (hb : ∀ s : Shared, Kept w s.heap → ∀ vals : List Value, vals.length = params.length → BindsTo s fd ⟨vals, []⟩ (params.zip vals)) : FnFacts w f fd body params := by
 unfold fnOk at h3
 simp only [Bool.and_eq_true, beq_iff_eq, Bool.not_eq_true', List.isEmpty_iff, decide_eq_true_eq] at h3
 obtain ⟨a1, a2, a3, a4, a5, a6, a7, a8, a9, a10⟩ := h3
 exact ⟨⟨_, _, _, h1⟩, h2, a1, a2, a3, a4, a5, a6, a7, fun x hx => by simpa using List.all_eq_true.mp a8 x hx, a9, fun x hx => by simpa using List.all_eq_true.mp a10 x hx, fun s vals k => hb s k vals⟩
theorem FnFacts.of1 {w : World} {f : Addr} {fd : FuncData} {body : List Stmt} {a : Str} (h1 : (KK w.params).lookup f = some ⟨.type "function", none, .func fd, #[]⟩) (h2 : fd.body = .stmts body) (h3 : fnOk (KK w.params) fd [a] = true) (h : ∀ v, bindArgs fd ⟨[v], []⟩ = pure [(a, v)]) : FnFacts w f fd body [a] := .of h1 h2 h3 fun _ _ => len1 fun v => .of_eq (h v)
theorem FnFacts.of2 {w : World} {f : Addr} {fd : FuncData} {body : List Stmt} {a b : Str} (h1 : (KK w.params).lookup f = some ⟨.type "function", none, .func fd, #[]⟩) (h2 : fd.body = .stmts body) (h3 : fnOk (KK w.params) fd [a, b] = true) (h : ∀ v u, bindArgs fd ⟨[v, u], []⟩ = pure [(a, v), (b, u)]) : FnFacts w f fd body [a, b] := .of h1 h2 h3 fun _ _ => len2 fun v u => .of_eq (h v u)
noncomputable abbrev qAl : Str := "stand"
noncomputable abbrev qAE : Str := "sign"
noncomputable abbrev qVb (P : Params) : FuncData := fdOf (o780 P)
noncomputable abbrev qVr : List Stmt := qBh (F1 30)
noncomputable abbrev qTC : Scope := qAM (F1 30)
theorem qJR (w : World) : FnFacts w 780 (qVb w.params) qVr [qAl, qAE] :=
 .of2 (by kernel_rfl) (by kernel_rfl) (by kernel_rfl) fun _ _ => by kernel_rfl
noncomputable abbrev qSU (P : Params) : FuncData := fdOf (o787 P)
noncomputable abbrev qQ3 : List Stmt := qBh (F1 31)
noncomputable abbrev qRw : Scope := qAM (F1 31)
theorem qHv (w : World) : FnFacts w 787 (qSU w.params) qQ3 [qAl] :=
 .of1 (by kernel_rfl) (by kernel_rfl) (by kernel_rfl) fun _ => by kernel_rfl
noncomputable def cs0 : Cs := fun _ => none
theorem csv0 (w : World) (d : Nat) : Csv w cs0 d := fun _ _ h => nomatch h
noncomputable def qKS (P : Params) : Spec := qBb (KK P) cs0 qRw qQ3 [qAl] [] []
theorem qIy (w : World) : Fn w 787 2 (qKS w.params) := qDn (qHv w) (by kernel_rfl) (csv0 w 0)
noncomputable abbrev tD (c : Nat) : Bool := Txt.contains "0123456789" (ch c)
noncomputable abbrev tU (c : Nat) : Bool := (ch c).cps.toList == ("_" : Str).cps.toList
noncomputable abbrev tPM (c : Nat) : Bool := Txt.contains "+-" (ch c)
noncomputable abbrev tMin (c : Nat) : Bool := (ch c).cps.toList == ("-" : Str).cps.toList
noncomputable abbrev tWs (c : Nat) : Bool := Txt.contains " \t\n\r" (ch c)
noncomputable abbrev tDot (c : Nat) : Bool := (ch c).cps.toList == ("." : Str).cps.toList
noncomputable abbrev fnd (c : Nat) : Int := Txt.find "0123456789" (ch c)
noncomputable abbrev spO (P : Params) (orc : List Bool) : Spec := qBb (KK P) cs0 qTC qVr [qAl, qAE] orc []
noncomputable abbrev spS (P : Params) (orc : List Bool) (c : Nat) (d : Stand) : Option (AV × List AO × List Prop) := spO P orc [.obj 0, .chr c] [.tup (encS d)]
theorem qOy (P : Params) (c : Nat) (n : Int) (m : Bool) (fr : Option Int) : spS P [true] c ⟨.ahead, n, m, fr⟩ = some (.obj 1, [.tup (encS ⟨.ahead, n, m, fr⟩), .tup (encS ⟨.figures, 10 * n + fnd c, m, fr⟩)], [tD c = true, IntMulOk 10 n]) := by kernel_rfl
theorem qOu (P : Params) (c : Nat) (n : Int) (m : Bool) (fr : Option Int) : spS P [false, true, false, false, false] c ⟨.ahead, n, m, fr⟩ = some (.obj 1, [.tup (encS ⟨.ahead, n, m, fr⟩), .tup (encS standLost)], [tD c = false, tU c = true, tPM c = false, tWs c = false, tDot c = false]) := by kernel_rfl
theorem qLa (P : Params) (c : Nat) (n : Int) (m : Bool) (fr : Option Int) : spS P [false, false, true, false] c ⟨.ahead, n, m, fr⟩ = some (.obj 1, [.tup (encS ⟨.ahead, n, m, fr⟩), .tup (encS ⟨.sign, 0, false, fr⟩)], [tD c = false, tU c = false, tPM c = true, tMin c = false]) := by kernel_rfl
theorem qLb (P : Params) (c : Nat) (n : Int) (m : Bool) (fr : Option Int) : spS P [false, false, true, true] c ⟨.ahead, n, m, fr⟩ = some (.obj 1, [.tup (encS ⟨.ahead, n, m, fr⟩), .tup (encS ⟨.sign, 0, true, fr⟩)], [tD c = false, tU c = false, tPM c = true, tMin c = true]) := by kernel_rfl
theorem qOt (P : Params) (c : Nat) (n : Int) (m : Bool) (fr : Option Int) : spS P [false, false, false, true] c ⟨.ahead, n, m, fr⟩ = some (.obj 1, [.tup (encS ⟨.ahead, n, m, fr⟩), .tup (encS ⟨.ahead, n, m, fr⟩)], [tD c = false, tU c = false, tPM c = false, tWs c = true]) := by kernel_rfl
theorem qLf (P : Params) (c : Nat) (n : Int) (m : Bool) (fr : Option Int) : spS P [false, false, false, false, true] c ⟨.ahead, n, m, fr⟩ = some (.obj 1, [.tup (encS ⟨.ahead, n, m, fr⟩), .tup (encS standLost)], [tD c = false, tU c = false, tPM c = false, tWs c = false, tDot c = true]) := by kernel_rfl
theorem qOv (P : Params) (c : Nat) (n : Int) (m : Bool) (fr : Option Int) : spS P [false, false, false, false, false] c ⟨.ahead, n, m, fr⟩ = some (.obj 1, [.tup (encS ⟨.ahead, n, m, fr⟩), .tup (encS standLost)], [tD c = false, tU c = false, tPM c = false, tWs c = false, tDot c = false]) := by kernel_rfl
theorem qJm (P : Params) (c : Nat) (n : Int) (m : Bool) (fr : Option Int) : spS P [true] c ⟨.figures, n, m, fr⟩ = some (.obj 1, [.tup (encS ⟨.figures, n, m, fr⟩), .tup (encS ⟨.figures, 10 * n + fnd c, m, fr⟩)], [tD c = true, IntMulOk 10 n]) := by kernel_rfl
theorem qJi (P : Params) (c : Nat) (n : Int) (m : Bool) (fr : Option Int) : spS P [false, true] c ⟨.figures, n, m, fr⟩ = some (.obj 1, [.tup (encS ⟨.figures, n, m, fr⟩), .tup (encS ⟨.bar, n, m, fr⟩)], [tD c = false, tU c = true]) := by kernel_rfl
theorem qJj (P : Params) (c : Nat) (n : Int) (m : Bool) (fr : Option Int) : spS P [false, false, true, false, false] c ⟨.figures, n, m, fr⟩ = some (.obj 1, [.tup (encS ⟨.figures, n, m, fr⟩), .tup (encS standLost)], [tD c = false, tU c = false, tPM c = true, tWs c = false, tDot c = false]) := by kernel_rfl
theorem qJh (P : Params) (c : Nat) (n : Int) (m : Bool) (fr : Option Int) : spS P [false, false, false, true] c ⟨.figures, n, m, fr⟩ = some (.obj 1, [.tup (encS ⟨.figures, n, m, fr⟩), .tup (encS ⟨.behind, n, m, fr⟩)], [tD c = false, tU c = false, tPM c = false, tWs c = true]) := by kernel_rfl
theorem qFX (P : Params) (c : Nat) (n : Int)  : spS P [false, false, false, false, true] c ⟨.figures, n, false, none⟩ = some (.obj 1, [.tup (encS ⟨.figures, n, false, none⟩), .tup (encS ⟨.ahead, 0, false, some n⟩)], [tD c = false, tU c = false, tPM c = false, tWs c = false, tDot c = true]) := by kernel_rfl
theorem qFW (P : Params) (c : Nat) (n : Int)  : spS P [false, false, false, false, true] c ⟨.figures, n, true, none⟩ = some (.obj 1, [.tup (encS ⟨.figures, n, true, none⟩), .tup (encS ⟨.ahead, 0, false, some (-n)⟩)], [tD c = false, tU c = false, tPM c = false, tWs c = false, tDot c = true]) := by kernel_rfl
theorem qGZ (P : Params) (c : Nat) (n : Int) (m : Bool) (f : Int) : spS P [false, false, false, false, true] c ⟨.figures, n, m, some f⟩ = some (.obj 1, [.tup (encS ⟨.figures, n, m, some f⟩), .tup (encS standLost)], [tD c = false, tU c = false, tPM c = false, tWs c = false, tDot c = true]) := by kernel_rfl
theorem qJk (P : Params) (c : Nat) (n : Int) (m : Bool) (fr : Option Int) : spS P [false, false, false, false, false] c ⟨.figures, n, m, fr⟩ = some (.obj 1, [.tup (encS ⟨.figures, n, m, fr⟩), .tup (encS standLost)], [tD c = false, tU c = false, tPM c = false, tWs c = false, tDot c = false]) := by kernel_rfl
theorem qUf (P : Params) (c : Nat) (n : Int) (m : Bool) (fr : Option Int) : spS P [true] c ⟨.bar, n, m, fr⟩ = some (.obj 1, [.tup (encS ⟨.bar, n, m, fr⟩), .tup (encS ⟨.figures, 10 * n + fnd c, m, fr⟩)], [tD c = true, IntMulOk 10 n]) := by kernel_rfl
theorem qUc (P : Params) (c : Nat) (n : Int) (m : Bool) (fr : Option Int) : spS P [false, true, false, false, false] c ⟨.bar, n, m, fr⟩ = some (.obj 1, [.tup (encS ⟨.bar, n, m, fr⟩), .tup (encS standLost)], [tD c = false, tU c = true, tPM c = false, tWs c = false, tDot c = false]) := by kernel_rfl
theorem qUd (P : Params) (c : Nat) (n : Int) (m : Bool) (fr : Option Int) : spS P [false, false, true, false, false] c ⟨.bar, n, m, fr⟩ = some (.obj 1, [.tup (encS ⟨.bar, n, m, fr⟩), .tup (encS standLost)], [tD c = false, tU c = false, tPM c = true, tWs c = false, tDot c = false]) := by kernel_rfl
theorem qUb (P : Params) (c : Nat) (n : Int) (m : Bool) (fr : Option Int) : spS P [false, false, false, true, false] c ⟨.bar, n, m, fr⟩ = some (.obj 1, [.tup (encS ⟨.bar, n, m, fr⟩), .tup (encS standLost)], [tD c = false, tU c = false, tPM c = false, tWs c = true, tDot c = false]) := by kernel_rfl
theorem qRK (P : Params) (c : Nat) (n : Int) (m : Bool) (fr : Option Int) : spS P [false, false, false, false, true] c ⟨.bar, n, m, fr⟩ = some (.obj 1, [.tup (encS ⟨.bar, n, m, fr⟩), .tup (encS standLost)], [tD c = false, tU c = false, tPM c = false, tWs c = false, tDot c = true]) := by kernel_rfl
theorem qUe (P : Params) (c : Nat) (n : Int) (m : Bool) (fr : Option Int) : spS P [false, false, false, false, false] c ⟨.bar, n, m, fr⟩ = some (.obj 1, [.tup (encS ⟨.bar, n, m, fr⟩), .tup (encS standLost)], [tD c = false, tU c = false, tPM c = false, tWs c = false, tDot c = false]) := by kernel_rfl
theorem qRL (P : Params) (c : Nat) (n : Int) (m : Bool) (fr : Option Int) : spS P [true] c ⟨.sign, n, m, fr⟩ = some (.obj 1, [.tup (encS ⟨.sign, n, m, fr⟩), .tup (encS ⟨.figures, 10 * n + fnd c, m, fr⟩)], [tD c = true, IntMulOk 10 n]) := by kernel_rfl
theorem qRE (P : Params) (c : Nat) (n : Int) (m : Bool) (fr : Option Int) : spS P [false, true, false, false, false] c ⟨.sign, n, m, fr⟩ = some (.obj 1, [.tup (encS ⟨.sign, n, m, fr⟩), .tup (encS standLost)], [tD c = false, tU c = true, tPM c = false, tWs c = false, tDot c = false]) := by kernel_rfl
theorem qRG (P : Params) (c : Nat) (n : Int) (m : Bool) (fr : Option Int) : spS P [false, false, true, false, false] c ⟨.sign, n, m, fr⟩ = some (.obj 1, [.tup (encS ⟨.sign, n, m, fr⟩), .tup (encS standLost)], [tD c = false, tU c = false, tPM c = true, tWs c = false, tDot c = false]) := by kernel_rfl
theorem qRC (P : Params) (c : Nat) (n : Int) (m : Bool) (fr : Option Int) : spS P [false, false, false, true, false] c ⟨.sign, n, m, fr⟩ = some (.obj 1, [.tup (encS ⟨.sign, n, m, fr⟩), .tup (encS standLost)], [tD c = false, tU c = false, tPM c = false, tWs c = true, tDot c = false]) := by kernel_rfl
theorem qOw (P : Params) (c : Nat) (n : Int) (m : Bool) (fr : Option Int) : spS P [false, false, false, false, true] c ⟨.sign, n, m, fr⟩ = some (.obj 1, [.tup (encS ⟨.sign, n, m, fr⟩), .tup (encS standLost)], [tD c = false, tU c = false, tPM c = false, tWs c = false, tDot c = true]) := by kernel_rfl
theorem qRI (P : Params) (c : Nat) (n : Int) (m : Bool) (fr : Option Int) : spS P [false, false, false, false, false] c ⟨.sign, n, m, fr⟩ = some (.obj 1, [.tup (encS ⟨.sign, n, m, fr⟩), .tup (encS standLost)], [tD c = false, tU c = false, tPM c = false, tWs c = false, tDot c = false]) := by kernel_rfl
theorem qLg (P : Params) (c : Nat) (n : Int) (m : Bool) (fr : Option Int) : spS P [true, false, false, false, false] c ⟨.behind, n, m, fr⟩ = some (.obj 1, [.tup (encS ⟨.behind, n, m, fr⟩), .tup (encS standLost)], [tD c = true, tU c = false, tPM c = false, tWs c = false, tDot c = false]) := by kernel_rfl
theorem qK9 (P : Params) (c : Nat) (n : Int) (m : Bool) (fr : Option Int) : spS P [false, true, false, false, false] c ⟨.behind, n, m, fr⟩ = some (.obj 1, [.tup (encS ⟨.behind, n, m, fr⟩), .tup (encS standLost)], [tD c = false, tU c = true, tPM c = false, tWs c = false, tDot c = false]) := by kernel_rfl
theorem qLd (P : Params) (c : Nat) (n : Int) (m : Bool) (fr : Option Int) : spS P [false, false, true, false, false] c ⟨.behind, n, m, fr⟩ = some (.obj 1, [.tup (encS ⟨.behind, n, m, fr⟩), .tup (encS standLost)], [tD c = false, tU c = false, tPM c = true, tWs c = false, tDot c = false]) := by kernel_rfl
theorem qK8 (P : Params) (c : Nat) (n : Int) (m : Bool) (fr : Option Int) : spS P [false, false, false, true] c ⟨.behind, n, m, fr⟩ = some (.obj 1, [.tup (encS ⟨.behind, n, m, fr⟩), .tup (encS ⟨.behind, n, m, fr⟩)], [tD c = false, tU c = false, tPM c = false, tWs c = true]) := by kernel_rfl
theorem qG1 (P : Params) (c : Nat) (n : Int)  : spS P [false, false, false, false, true] c ⟨.behind, n, false, none⟩ = some (.obj 1, [.tup (encS ⟨.behind, n, false, none⟩), .tup (encS ⟨.ahead, 0, false, some n⟩)], [tD c = false, tU c = false, tPM c = false, tWs c = false, tDot c = true]) := by kernel_rfl
theorem qG0 (P : Params) (c : Nat) (n : Int)  : spS P [false, false, false, false, true] c ⟨.behind, n, true, none⟩ = some (.obj 1, [.tup (encS ⟨.behind, n, true, none⟩), .tup (encS ⟨.ahead, 0, false, some (-n)⟩)], [tD c = false, tU c = false, tPM c = false, tWs c = false, tDot c = true]) := by kernel_rfl
theorem qJl (P : Params) (c : Nat) (n : Int) (m : Bool) (f : Int) : spS P [false, false, false, false, true] c ⟨.behind, n, m, some f⟩ = some (.obj 1, [.tup (encS ⟨.behind, n, m, some f⟩), .tup (encS standLost)], [tD c = false, tU c = false, tPM c = false, tWs c = false, tDot c = true]) := by kernel_rfl
theorem qLe (P : Params) (c : Nat) (n : Int) (m : Bool) (fr : Option Int) : spS P [false, false, false, false, false] c ⟨.behind, n, m, fr⟩ = some (.obj 1, [.tup (encS ⟨.behind, n, m, fr⟩), .tup (encS standLost)], [tD c = false, tU c = false, tPM c = false, tWs c = false, tDot c = false]) := by kernel_rfl
theorem qRM (P : Params) (c : Nat) (n : Int) (m : Bool) (fr : Option Int) : spS P [true, false, false, false, false] c ⟨.lost, n, m, fr⟩ = some (.obj 1, [.tup (encS ⟨.lost, n, m, fr⟩), .tup (encS standLost)], [tD c = true, tU c = false, tPM c = false, tWs c = false, tDot c = false]) := by kernel_rfl
theorem qRF (P : Params) (c : Nat) (n : Int) (m : Bool) (fr : Option Int) : spS P [false, true, false, false, false] c ⟨.lost, n, m, fr⟩ = some (.obj 1, [.tup (encS ⟨.lost, n, m, fr⟩), .tup (encS standLost)], [tD c = false, tU c = true, tPM c = false, tWs c = false, tDot c = false]) := by kernel_rfl
theorem qRH (P : Params) (c : Nat) (n : Int) (m : Bool) (fr : Option Int) : spS P [false, false, true, false, false] c ⟨.lost, n, m, fr⟩ = some (.obj 1, [.tup (encS ⟨.lost, n, m, fr⟩), .tup (encS standLost)], [tD c = false, tU c = false, tPM c = true, tWs c = false, tDot c = false]) := by kernel_rfl
theorem qRD (P : Params) (c : Nat) (n : Int) (m : Bool) (fr : Option Int) : spS P [false, false, false, true, false] c ⟨.lost, n, m, fr⟩ = some (.obj 1, [.tup (encS ⟨.lost, n, m, fr⟩), .tup (encS standLost)], [tD c = false, tU c = false, tPM c = false, tWs c = true, tDot c = false]) := by kernel_rfl
theorem qOx (P : Params) (c : Nat) (n : Int) (m : Bool) (fr : Option Int) : spS P [false, false, false, false, true] c ⟨.lost, n, m, fr⟩ = some (.obj 1, [.tup (encS ⟨.lost, n, m, fr⟩), .tup (encS standLost)], [tD c = false, tU c = false, tPM c = false, tWs c = false, tDot c = true]) := by kernel_rfl
theorem qRJ (P : Params) (c : Nat) (n : Int) (m : Bool) (fr : Option Int) : spS P [false, false, false, false, false] c ⟨.lost, n, m, fr⟩ = some (.obj 1, [.tup (encS ⟨.lost, n, m, fr⟩), .tup (encS standLost)], [tD c = false, tU c = false, tPM c = false, tWs c = false, tDot c = false]) := by kernel_rfl
theorem qVz : ∀ c ∈ qAn, (tD c = qA2 c ∧ tU c = (c == 95) ∧ tPM c = (c == 43 || c == 45) ∧ tMin c = (c == 45)) ∧ (tWs c = isWs c ∧ tDot c = (c == 46) ∧ (qA2 c = true → fnd c = (c : Int) - 48)) := by decide +kernel
theorem qWR : ∀ c ∈ qAn, (qA2 c = true ∧ (c == 95) = false ∧ (c == 43 || c == 45) = false ∧ isWs c = false ∧ (c == 46) = false) ∨ (qA2 c = false ∧ (c == 95) = true ∧ (c == 43 || c == 45) = false ∧ isWs c = false ∧ (c == 46) = false) ∨
  (qA2 c = false ∧ (c == 95) = false ∧ (c == 43 || c == 45) = true ∧ isWs c = false ∧ (c == 46) = false) ∨ (qA2 c = false ∧ (c == 95) = false ∧ (c == 43 || c == 45) = false ∧ isWs c = true ∧ (c == 46) = false) ∨
  (qA2 c = false ∧ (c == 95) = false ∧ (c == 43 || c == 45) = false ∧ isWs c = false ∧ (c == 46) = true) ∨ (qA2 c = false ∧ (c == 95) = false ∧ (c == 43 || c == 45) = false ∧ isWs c = false ∧ (c == 46) = false) := by decide +kernel
theorem qAb : ∀ q ∈ ([] : List Prop), q := fun _ h => nomatch h
theorem aCc {p : Prop} {l : List Prop} (h : p) (t : ∀ q ∈ l, q) : ∀ q ∈ p :: l, q := fun q hq => by
 rcases lc hq with rfl | hq
 ·exact h
 ·exact t q hq
theorem qOZ (n : Int) : IntMulOk 10 n := IntMulOk.of_left (by decide +kernel)
abbrev qIW (P : Params) (d : Stand) (c : Nat) : Prop := ∃ orc o, spS P orc c d = some (.obj 1, [.tup (encS d), .tup (encS (qAd d c))], o) ∧ ∀ q ∈ o, q
theorem qAj {P : Params} {d d' : Stand} {c : Nat} {orc : List Bool} {o : List Prop} (h : spS P orc c d = some (.obj 1, [.tup (encS d), .tup (encS d')], o)) (e : qAd d c = d') (ho : ∀ q ∈ o, q) : qIW P d c := ⟨orc, o, by rw [e]; exact h, ho⟩
noncomputable def qVM (a u p w t : Bool) (d : Stand) (c : Nat) : Stand :=
 if a && !d.part.isBL then ⟨.figures, 10 * d.num + ((c : Int) - 48), d.minus, d.front⟩
 else if u && d.part == .figures then ⟨.bar, d.num, d.minus, d.front⟩
 else if p && d.part == .ahead then ⟨.sign, 0, c == 45, d.front⟩
 else if w && d.part.isAFB then ⟨if d.part == .ahead then .ahead else .behind, d.num, d.minus, d.front⟩
 else if t && d.part.isFB && d.front.isNone then ⟨.ahead, 0, false, some (qBv d.minus d.num)⟩
 else standLost
theorem qAk {a u p w t : Bool} {d : Stand} {c : Nat} (ha : qA2 c = a) (hu : (c == 95) = u) (hp : (c == 43 || c == 45) = p) (hw : isWs c = w) (ht : (c == 46) = t) : qAd d c = qVM a u p w t d c := by
 subst ha hu hp hw ht; rfl
theorem qNY (P : Params) (d : Stand) {c : Nat} (h : c ∈ qAn) : qIW P d c := by
 obtain ⟨⟨q1, q2, q3, q4⟩, q5, q6, q7⟩ := qVz c h
 obtain ⟨p, n, m, fr⟩ := d
 rcases qWR c h with ⟨a, u, pm, w, t⟩ | ⟨a, u, pm, w, t⟩ | ⟨a, u, pm, w, t⟩ | ⟨a, u, pm, w, t⟩ | ⟨a, u, pm, w, t⟩ | ⟨a, u, pm, w, t⟩ <;>
  (rw [a] at q1; rw [u] at q2; rw [pm] at q3; rw [w] at q5; rw [t] at q6)
 ·have f := q7 a
  cases p
  ·exact qAj (qOy P c n m fr) (by first | exact qAk a u pm w t | simp [qAd, a, u, pm, w, t, Part.isBL, Part.isAFB, Part.isFB, standLost, f]) (aCc q1 (aCc (qOZ n) qAb))
  ·exact qAj (qJm P c n m fr) (by first | exact qAk a u pm w t | simp [qAd, a, u, pm, w, t, Part.isBL, Part.isAFB, Part.isFB, standLost, f]) (aCc q1 (aCc (qOZ n) qAb))
  ·exact qAj (qUf P c n m fr) (by first | exact qAk a u pm w t | simp [qAd, a, u, pm, w, t, Part.isBL, Part.isAFB, Part.isFB, standLost, f]) (aCc q1 (aCc (qOZ n) qAb))
  ·exact qAj (qRL P c n m fr) (by first | exact qAk a u pm w t | simp [qAd, a, u, pm, w, t, Part.isBL, Part.isAFB, Part.isFB, standLost, f]) (aCc q1 (aCc (qOZ n) qAb))
  ·exact qAj (qLg P c n m fr) (by first | exact qAk a u pm w t | simp [qAd, a, u, pm, w, t, Part.isBL, Part.isAFB, Part.isFB, standLost]) (aCc q1 (aCc q2 (aCc q3 (aCc q5 (aCc q6 qAb)))))
  ·exact qAj (qRM P c n m fr) (by first | exact qAk a u pm w t | simp [qAd, a, u, pm, w, t, Part.isBL, Part.isAFB, Part.isFB, standLost]) (aCc q1 (aCc q2 (aCc q3 (aCc q5 (aCc q6 qAb)))))
 ·cases p
  ·exact qAj (qOu P c n m fr) (by first | exact qAk a u pm w t | simp [qAd, a, u, pm, w, t, Part.isBL, Part.isAFB, Part.isFB, standLost]) (aCc q1 (aCc q2 (aCc q3 (aCc q5 (aCc q6 qAb)))))
  ·exact qAj (qJi P c n m fr) (by first | exact qAk a u pm w t | simp [qAd, a, u, pm, w, t, Part.isBL, Part.isAFB, Part.isFB, standLost]) (aCc q1 (aCc q2 qAb))
  ·exact qAj (qUc P c n m fr) (by first | exact qAk a u pm w t | simp [qAd, a, u, pm, w, t, Part.isBL, Part.isAFB, Part.isFB, standLost]) (aCc q1 (aCc q2 (aCc q3 (aCc q5 (aCc q6 qAb)))))
  ·exact qAj (qRE P c n m fr) (by first | exact qAk a u pm w t | simp [qAd, a, u, pm, w, t, Part.isBL, Part.isAFB, Part.isFB, standLost]) (aCc q1 (aCc q2 (aCc q3 (aCc q5 (aCc q6 qAb)))))
  ·exact qAj (qK9 P c n m fr) (by first | exact qAk a u pm w t | simp [qAd, a, u, pm, w, t, Part.isBL, Part.isAFB, Part.isFB, standLost]) (aCc q1 (aCc q2 (aCc q3 (aCc q5 (aCc q6 qAb)))))
  ·exact qAj (qRF P c n m fr) (by first | exact qAk a u pm w t | simp [qAd, a, u, pm, w, t, Part.isBL, Part.isAFB, Part.isFB, standLost]) (aCc q1 (aCc q2 (aCc q3 (aCc q5 (aCc q6 qAb)))))
 ·cases p
  ·cases hm : (c == 45)
   ·rw [hm] at q4; exact qAj (qLa P c n m fr) (by have hp : (c == 43) = true := (by rw [hm, Bool.or_false] at pm; exact pm); simp [qAd, a, u, w, t, hm, hp, Part.isBL]) (aCc q1 (aCc q2 (aCc q3 (aCc q4 qAb))))
   ·rw [hm] at q4; exact qAj (qLb P c n m fr) (by first | exact qAk a u pm w t | simp [qAd, a, u, pm, w, t, hm, Part.isBL]) (aCc q1 (aCc q2 (aCc q3 (aCc q4 qAb))))
  ·exact qAj (qJj P c n m fr) (by first | exact qAk a u pm w t | simp [qAd, a, u, pm, w, t, Part.isBL, Part.isAFB, Part.isFB, standLost]) (aCc q1 (aCc q2 (aCc q3 (aCc q5 (aCc q6 qAb)))))
  ·exact qAj (qUd P c n m fr) (by first | exact qAk a u pm w t | simp [qAd, a, u, pm, w, t, Part.isBL, Part.isAFB, Part.isFB, standLost]) (aCc q1 (aCc q2 (aCc q3 (aCc q5 (aCc q6 qAb)))))
  ·exact qAj (qRG P c n m fr) (by first | exact qAk a u pm w t | simp [qAd, a, u, pm, w, t, Part.isBL, Part.isAFB, Part.isFB, standLost]) (aCc q1 (aCc q2 (aCc q3 (aCc q5 (aCc q6 qAb)))))
  ·exact qAj (qLd P c n m fr) (by first | exact qAk a u pm w t | simp [qAd, a, u, pm, w, t, Part.isBL, Part.isAFB, Part.isFB, standLost]) (aCc q1 (aCc q2 (aCc q3 (aCc q5 (aCc q6 qAb)))))
  ·exact qAj (qRH P c n m fr) (by first | exact qAk a u pm w t | simp [qAd, a, u, pm, w, t, Part.isBL, Part.isAFB, Part.isFB, standLost]) (aCc q1 (aCc q2 (aCc q3 (aCc q5 (aCc q6 qAb)))))
 ·cases p
  ·exact qAj (qOt P c n m fr) (by first | exact qAk a u pm w t | simp [qAd, a, u, pm, w, t, Part.isBL, Part.isAFB, Part.isFB, standLost]) (aCc q1 (aCc q2 (aCc q3 (aCc q5 qAb))))
  ·exact qAj (qJh P c n m fr) (by first | exact qAk a u pm w t | simp [qAd, a, u, pm, w, t, Part.isBL, Part.isAFB, Part.isFB, standLost]) (aCc q1 (aCc q2 (aCc q3 (aCc q5 qAb))))
  ·exact qAj (qUb P c n m fr) (by first | exact qAk a u pm w t | simp [qAd, a, u, pm, w, t, Part.isBL, Part.isAFB, Part.isFB, standLost]) (aCc q1 (aCc q2 (aCc q3 (aCc q5 (aCc q6 qAb)))))
  ·exact qAj (qRC P c n m fr) (by first | exact qAk a u pm w t | simp [qAd, a, u, pm, w, t, Part.isBL, Part.isAFB, Part.isFB, standLost]) (aCc q1 (aCc q2 (aCc q3 (aCc q5 (aCc q6 qAb)))))
  ·exact qAj (qK8 P c n m fr) (by first | exact qAk a u pm w t | simp [qAd, a, u, pm, w, t, Part.isBL, Part.isAFB, Part.isFB, standLost]) (aCc q1 (aCc q2 (aCc q3 (aCc q5 qAb))))
  ·exact qAj (qRD P c n m fr) (by first | exact qAk a u pm w t | simp [qAd, a, u, pm, w, t, Part.isBL, Part.isAFB, Part.isFB, standLost]) (aCc q1 (aCc q2 (aCc q3 (aCc q5 (aCc q6 qAb)))))
 ·cases p
  ·exact qAj (qLf P c n m fr) (by first | exact qAk a u pm w t | simp [qAd, a, u, pm, w, t, Part.isBL, Part.isAFB, Part.isFB, standLost]) (aCc q1 (aCc q2 (aCc q3 (aCc q5 (aCc q6 qAb)))))
  ·cases fr with
   | none =>
    cases m with
    | false => exact qAj (qFX P c n) (by first | exact qAk a u pm w t | simp [qAd, a, u, pm, w, t, Part.isBL, Part.isAFB, Part.isFB, standLost, qBv]) (aCc q1 (aCc q2 (aCc q3 (aCc q5 (aCc q6 qAb)))))
    | true => exact qAj (qFW P c n) (by first | exact qAk a u pm w t | simp [qAd, a, u, pm, w, t, Part.isBL, Part.isAFB, Part.isFB, standLost, qBv]) (aCc q1 (aCc q2 (aCc q3 (aCc q5 (aCc q6 qAb)))))
   | some f => exact qAj (qGZ P c n m f) (by first | exact qAk a u pm w t | simp [qAd, a, u, pm, w, t, Part.isBL, Part.isAFB, Part.isFB, standLost]) (aCc q1 (aCc q2 (aCc q3 (aCc q5 (aCc q6 qAb)))))
  ·exact qAj (qRK P c n m fr) (by first | exact qAk a u pm w t | simp [qAd, a, u, pm, w, t, Part.isBL, Part.isAFB, Part.isFB, standLost]) (aCc q1 (aCc q2 (aCc q3 (aCc q5 (aCc q6 qAb)))))
  ·exact qAj (qOw P c n m fr) (by first | exact qAk a u pm w t | simp [qAd, a, u, pm, w, t, Part.isBL, Part.isAFB, Part.isFB, standLost]) (aCc q1 (aCc q2 (aCc q3 (aCc q5 (aCc q6 qAb)))))
  ·cases fr with
   | none =>
    cases m with
    | false => exact qAj (qG1 P c n) (by first | exact qAk a u pm w t | simp [qAd, a, u, pm, w, t, Part.isBL, Part.isAFB, Part.isFB, standLost, qBv]) (aCc q1 (aCc q2 (aCc q3 (aCc q5 (aCc q6 qAb)))))
    | true => exact qAj (qG0 P c n) (by first | exact qAk a u pm w t | simp [qAd, a, u, pm, w, t, Part.isBL, Part.isAFB, Part.isFB, standLost, qBv]) (aCc q1 (aCc q2 (aCc q3 (aCc q5 (aCc q6 qAb)))))
   | some f => exact qAj (qJl P c n m f) (by first | exact qAk a u pm w t | simp [qAd, a, u, pm, w, t, Part.isBL, Part.isAFB, Part.isFB, standLost]) (aCc q1 (aCc q2 (aCc q3 (aCc q5 (aCc q6 qAb)))))
  ·exact qAj (qOx P c n m fr) (by first | exact qAk a u pm w t | simp [qAd, a, u, pm, w, t, Part.isBL, Part.isAFB, Part.isFB, standLost]) (aCc q1 (aCc q2 (aCc q3 (aCc q5 (aCc q6 qAb)))))
 ·cases p
  ·exact qAj (qOv P c n m fr) (by first | exact qAk a u pm w t | simp [qAd, a, u, pm, w, t, Part.isBL, Part.isAFB, Part.isFB, standLost]) (aCc q1 (aCc q2 (aCc q3 (aCc q5 (aCc q6 qAb)))))
  ·exact qAj (qJk P c n m fr) (by first | exact qAk a u pm w t | simp [qAd, a, u, pm, w, t, Part.isBL, Part.isAFB, Part.isFB, standLost]) (aCc q1 (aCc q2 (aCc q3 (aCc q5 (aCc q6 qAb)))))
  ·exact qAj (qUe P c n m fr) (by first | exact qAk a u pm w t | simp [qAd, a, u, pm, w, t, Part.isBL, Part.isAFB, Part.isFB, standLost]) (aCc q1 (aCc q2 (aCc q3 (aCc q5 (aCc q6 qAb)))))
  ·exact qAj (qRI P c n m fr) (by first | exact qAk a u pm w t | simp [qAd, a, u, pm, w, t, Part.isBL, Part.isAFB, Part.isFB, standLost]) (aCc q1 (aCc q2 (aCc q3 (aCc q5 (aCc q6 qAb)))))
  ·exact qAj (qLe P c n m fr) (by first | exact qAk a u pm w t | simp [qAd, a, u, pm, w, t, Part.isBL, Part.isAFB, Part.isFB, standLost]) (aCc q1 (aCc q2 (aCc q3 (aCc q5 (aCc q6 qAb)))))
  ·exact qAj (qRJ P c n m fr) (by first | exact qAk a u pm w t | simp [qAd, a, u, pm, w, t, Part.isBL, Part.isAFB, Part.isFB, standLost]) (aCc q1 (aCc q2 (aCc q3 (aCc q5 (aCc q6 qAb)))))
structure View (H1 H2 : List AO) : Prop where
 len : H2.length = H1.length
 at_ : ∀ (i : Nat) o', H2[i]? = some o' → ∃ o, H1[i]? = some o ∧ (∀ p, foot o' p = foot o p) ∧ ∀ ρ p h, ORel ρ o p h → ORel ρ o' p h
theorem View.feet {H1 H2 : List AO} (V : View H1 H2) {ρ : Rho} : ∀ a ∈ Mine.feet H2 ρ, a ∈ Mine.feet H1 ρ := fun a ha => by
 obtain ⟨i, o', p, h1, h2, h3⟩ := qAw ha
 obtain ⟨o, e1, e2, _⟩ := V.at_ i o' h1
 rw [e2] at h3
 exact qAo e1 h2 a h3
theorem HR.view {w : World} {ρ : Rho} {H1 H2 : List AO} {h : Heap} (r : HR w ρ H1 h) (V : View H1 H2) : HR w ρ H2 h := by
 refine ⟨r.kept, r.len.trans V.len.symm, fun i o' p h1 h2 => ?_, fun i o' p h1 h2 => ?_, fun i j oi oj pi pj h1 h2 h3 h4 ne a ha => ?_, fun a ha => r.high a (V.feet a ha)⟩
 ·obtain ⟨o, e1, e2, e3⟩ := V.at_ i o' h1
  exact e3 ρ p h (r.obj i o p e1 h2)
 ·obtain ⟨o, e1, e2, e3⟩ := V.at_ i o' h1
  rw [e2]; exact r.own i o p e1 h2
 ·obtain ⟨o, e1, e2, e3⟩ := V.at_ i oi h1
  obtain ⟨o2, f1, f2, f3⟩ := V.at_ j oj h3
  rw [f2]; rw [e2] at ha
  exact r.sep i j o o2 pi pj e1 h2 f1 h4 ne a ha
theorem View.refl (H : List AO) : View H H := ⟨rfl, fun i o h => ⟨o, h, fun _ => rfl, fun _ _ _ x => x⟩⟩
theorem View.snoc {H1 H2 : List AO} (V : View H1 H2) {o o' : AO} (hf : ∀ p, foot o' p = foot o p) (hr : ∀ ρ p h, ORel ρ o p h → ORel ρ o' p h) : View (H1 ++ [o]) (H2 ++ [o']) := by
 refine ⟨by simp [V.len], fun i q h => ?_⟩
 rcases qDC h with ⟨l, e⟩ | ⟨l, rfl⟩
 ·obtain ⟨o, e1, e2, e3⟩ := V.at_ i q e
  exact ⟨o, by rw [List.getElem?_append_left (by rw [← V.len]; exact l)]; exact e1, e2, e3⟩
 ·exact ⟨o, by rw [l, V.len]; simp, hf, hr⟩
theorem View.set {H : List AO} {i : Nat} {o o' : AO} (hi : H[i]? = some o) (hf : ∀ p, foot o p = foot o' p) (hr : ∀ ρ p h, ORel ρ o' p h → ORel ρ o p h) : View (H.set i o') H := by
 have lt := (List.getElem?_eq_some_iff.mp hi).1
 refine ⟨by simp, fun j q h => ?_⟩
 by_cases e : i = j
 ·subst e
  rw [hi] at h; cases h
  exact ⟨o', List.getElem?_set_self lt, hf, hr⟩
 ·exact ⟨q, by rw [List.getElem?_set_ne e]; exact h, fun _ => rfl, fun _ _ _ x => x⟩
theorem HR.one {w : World} {ρ : Rho} {H : List AO} {h : Heap} (r : HR w ρ H h) {i : Nat} {o o0 : AO} {p : Addr × Addr} (hi : H[i]? = some o) (hp : ρ[i]? = some p) (hf : foot o0 p = foot o p) (ho : ORel [p] o0 p h) : HR w [p] [o0] h := by
 refine ⟨r.kept, rfl, fun j q pj h1 h2 => ?_, fun j q pj h1 h2 => ?_, fun j k oj ok pj pk h1 h2 h3 h4 ne => ?_, fun a ha => ?_⟩
 ·cases j with
  | zero => simp at h1 h2; subst h1 h2; exact ho
  | succ j => simp at h1
 ·cases j with
  | zero => simp at h1 h2; subst h1 h2; rw [hf]; exact r.own i o p hi hp
  | succ j => simp at h1
 ·cases j with
  | zero => cases k with
   | zero => exact absurd rfl ne
   | succ k => simp at h3
  | succ j => simp at h1
 ·have : a ∈ foot o0 p := by simpa [Mine.feet] using ha
  rw [hf] at this
  exact r.high a (qAo hi hp a this)
theorem Sel.one {ρ : Rho} {H : List AO} {i : Nat} {o o0 : AO} {p : Addr × Addr} (hi : H[i]? = some o) (hp : ρ[i]? = some p) (hf : ∀ p, foot o0 p = foot o p) : Sel ρ H [p] [o0] [i] := by
 refine ⟨by simp, rfl, fun j k h => ?_⟩
 cases j with
 | zero => simp at h; subst h; exact ⟨p, o, hp, rfl, hi, fun o1 h1 => by simp at h1; subst h1; exact hf p⟩
 | succ j => simp at h
theorem qHz {ρ ρ' : Rho} {d : Stand} {vs : List Value} (r : vrels ρ (encS d) vs) : vrels ρ' (encS d) vs := by
 have := vrels.ren (ρ := ρ) (ρ' := ρ') (g := id) (as := encS d) (vs := vs)
 obtain ⟨p, n, m, f⟩ := d
 cases f with
 | none => cases r with | cons a r => cases r with | cons b r => cases r with | cons c r => cases r with | cons e r => exact .cons a (.cons b (.cons c (.cons e (by cases r; exact .nil))))
 | some f => cases r with | cons a r => cases r with | cons b r => cases r with | cons c r => cases r with | cons e r => exact .cons a (.cons b (.cons c (.cons e (by cases r; exact .nil))))
noncomputable def qH4 (H : List AO) (i : Nat) (c : Nat) : Option (AV × List AO × List Prop) := match H[i]? with
 | some (.std d) => some (.obj H.length, H ++ [.std (qAd d c)], [c ∈ qAn])
 | _ => none
noncomputable def qRr : Spec := fun args H => match args with
 | [.obj i, .chr c] => qH4 H i c
 | [.obj i, .str y] => match y.cps.toList with
  | [c] => qH4 H i c
  | _ => none
 | _ => none
theorem qTA (w : World) (orc : List Bool) : Fn w 780 2 (spO w.params orc) := qDn (qJR w) (by kernel_rfl) (csv0 w 0)
theorem qKK {w : World} {A : Around} {s : Shared} {ρ : Rho} {H : List AO} {i c : Nat} {r : AV} {H' : List AO} {o : List Prop} {u v : Value} (h : qH4 H i c = some (r, H', o)) (ho : ∀ p ∈ o, p) (rm : Room A 2) (hr : HR w ρ H s.heap)
  (hF : ∀ a ∈ qAa A, (∃ ob, s.heap.get? a = some ob) ∧ a ∉ feet H ρ) (hu : vrel ρ (.obj i) u) (hv : vrel ρ (.chr c) v) (Q E : VP) (hQ : ∀ v s' ρ', ρ <+: ρ' → vrel ρ' r v → HR w ρ' H' s'.heap → Kp (feet H ρ) (qAa A) s.heap s'.heap → (∀ a ∈ feet H' ρ', a ∈ feet H ρ ∨ s.heap.get? a = none) →
   s'.gens = s.gens ∧ s'.drawn = s.drawn ∧ s'.os = s.os → Q v s') : codeAny (model pw w) A (.call (.ref 780) ⟨[u, v], []⟩) (back Q E) s := by
 unfold qH4 at h
 split at h
 ·rename_i d hi
  cases h
  have hc := ho _ (.head _)
  obtain ⟨orc, o, e, ho'⟩ := qNY w.params d hc
  obtain ⟨p, hp, rfl⟩ := hu
  obtain ⟨vs, n, e1, e2⟩ := hr.obj _ _ _ hi hp
  refine (qTA w orc).frame hr hF rm (hr.one (o0 := .tup (encS d)) hi hp rfl ⟨vs, n, e1, qHz e2⟩) (Sel.one hi hp fun _ => rfl) e ho' (.cons ⟨p, rfl, rfl⟩ (.cons hv .nil)) fun v s' ρ' p1 v1 r1 k1 f1 e1 => ?_
  have eg : qCb [i] H.length 1 = H.length := rfl
  have el : qCa H [i] [.tup (encS d), .tup (encS (qAd d c))] = H.set i (.tup (encS d)) ++ [.tup (encS (qAd d c))] := by
   unfold qCa
   simp [qA7, qD0, qFq]
  rw [el] at r1 f1
  have V : View (H.set i (.tup (encS d)) ++ [.tup (encS (qAd d c))]) (H ++ [.std (qAd d c)]) := (View.set (o' := .tup (encS d)) hi (fun _ => rfl) fun _ _ _ x => x).snoc (o := .tup (encS (qAd d c))) (o' := .std (qAd d c)) (fun _ => rfl) fun _ _ _ x => x
  refine hQ v s' ρ' p1 ?_ (r1.view V) k1 (fun a ha => f1 a (V.feet a ha)) e1
  have : qC2 (qCb [i] H.length) (.obj 1) = .obj H.length := by show AV.obj (qCb [i] H.length 1) = _; rw [eg]
  rw [this] at v1
  exact v1
 ·cases h
theorem qU6 (w : World) : Fn w 780 2 qRr := by
 intro A s ρ H args r H' o vals h ho rm hr hF ra Q E hQ
 unfold qRr at h
 split at h
 ·cases ra with
  | cons r1 r2 => cases r2 with
   | cons r2 r3 => cases r3; exact qKK h ho rm hr hF r1 r2 Q E hQ
 ·rename_i i y
  split at h
  ·rename_i c hy
   cases ra with
   | cons r1 r2 => cases r2 with
    | cons r2 r3 =>
     cases r3
     have ey : y = ch c := by
      obtain ⟨⟨l⟩⟩ := y
      simp at hy
      subst hy
      rfl
     obtain ⟨t, rfl⟩ := r2
     exact qKK h ho rm hr hF r1 ⟨t, by rw [ey]⟩ Q E hQ
  ·cases h
 ·cases h
noncomputable abbrev spP (P : Params) (d : Stand) : Option (AV × List AO × List Prop) := qKS P [.obj 0] [.tup (encS d)]
theorem qRW (P : Params) (p : Part) (n : Int) (m : Bool) : spP P ⟨p, n, m, none⟩ = some (.none, [.tup (encS ⟨p, n, m, none⟩)], []) := by kernel_rfl
theorem qON (P : Params) (n f : Int) (m : Bool) : spP P ⟨.ahead, n, m, some f⟩ = some (.none, [.tup (encS ⟨.ahead, n, m, some f⟩)], []) := by kernel_rfl
theorem qUr (P : Params) (n f : Int) (m : Bool) : spP P ⟨.bar, n, m, some f⟩ = some (.none, [.tup (encS ⟨.bar, n, m, some f⟩)], []) := by kernel_rfl
theorem qRV (P : Params) (n f : Int) (m : Bool) : spP P ⟨.sign, n, m, some f⟩ = some (.none, [.tup (encS ⟨.sign, n, m, some f⟩)], []) := by kernel_rfl
theorem qRY (P : Params) (n f : Int) (m : Bool) : spP P ⟨.lost, n, m, some f⟩ = some (.none, [.tup (encS ⟨.lost, n, m, some f⟩)], []) := by kernel_rfl
theorem qR2 (P : Params) (n f : Int) : spP P ⟨.figures, n, false, some f⟩ = some (.obj 1, [.tup (encS ⟨.figures, n, false, some f⟩), .tup [.int f, .int n]], []) := by kernel_rfl
theorem qR1 (P : Params) (n f : Int) : spP P ⟨.figures, n, true, some f⟩ = some (.obj 1, [.tup (encS ⟨.figures, n, true, some f⟩), .tup [.int f, .int (-n)]], []) := by kernel_rfl
theorem qR4 (P : Params) (n f : Int) : spP P ⟨.behind, n, false, some f⟩ = some (.obj 1, [.tup (encS ⟨.behind, n, false, some f⟩), .tup [.int f, .int n]], []) := by kernel_rfl
theorem qR3 (P : Params) (n f : Int) : spP P ⟨.behind, n, true, some f⟩ = some (.obj 1, [.tup (encS ⟨.behind, n, true, some f⟩), .tup [.int f, .int (-n)]], []) := by kernel_rfl
theorem qFZ (P : Params) (d : Stand) : (qAC d = none ∧ spP P d = some (.none, [.tup (encS d)], [])) ∨ ∃ a b, qAC d = some (a, b) ∧ spP P d = some (.obj 1, [.tup (encS d), .tup [.int a, .int b]], []) := by
 obtain ⟨p, n, m, f⟩ := d
 cases f with
 | none => exact .inl ⟨rfl, qRW P p n m⟩
 | some f =>
  cases p with
  | ahead => exact .inl ⟨rfl, qON P n f m⟩
  | bar => exact .inl ⟨rfl, qUr P n f m⟩
  | sign => exact .inl ⟨rfl, qRV P n f m⟩
  | lost => exact .inl ⟨rfl, qRY P n f m⟩
  | figures =>
   cases m with
   | false => exact .inr ⟨f, n, rfl, qR2 P n f⟩
   | true => exact .inr ⟨f, -n, rfl, qR1 P n f⟩
  | behind =>
   cases m with
   | false => exact .inr ⟨f, n, rfl, qR4 P n f⟩
   | true => exact .inr ⟨f, -n, rfl, qR3 P n f⟩
noncomputable def spPl (x : OI) : Spec := fun args H => match args with
 | [.obj i] => match H[i]? with
  | some (.std d) => (match x with
   | none => some (.none, H, [qAC d = none])
   | some (a, b) => some (.obj H.length, H ++ [.tup [.int a, .int b]], [qAC d = some (a, b)]))
  | _ => none
 | _ => none
theorem qRt (w : World) (x : OI) : Fn w 787 2 (spPl x) := by
 intro A s ρ H args r H' o vals h ho rm hr hF ra Q E hQ
 unfold spPl at h
 split at h
 ·rename_i i
  split at h
  ·rename_i d hi
   cases ra with
   | cons r1 r2 =>
    cases r2
    obtain ⟨p, hp, rfl⟩ := r1
    obtain ⟨vs, n, e1, e2⟩ := hr.obj _ _ _ hi hp
    have h1 := hr.one (o0 := .tup (encS d)) hi hp rfl ⟨vs, n, e1, qHz e2⟩
    have S : Sel ρ H [p] [.tup (encS d)] [i] := Sel.one hi hp fun _ => rfl
    have V : View (H.set i (.tup (encS d))) H := View.set (o' := .tup (encS d)) hi (fun _ => rfl) fun _ _ _ x => x
    split at h
    ·cases h
     have hp0 := ho _ (.head _)
     rcases qFZ w.params d with ⟨_, e⟩ | ⟨a, b, q, _⟩
     ·refine (qIy w).frame hr hF rm h1 S e qAb (.cons ⟨p, rfl, rfl⟩ .nil) fun v s' ρ' p1 v1 r1 k1 f1 e1 => ?_
      have el : qCa H [i] [.tup (encS d)] = H.set i (.tup (encS d)) := by
       unfold qCa
       simp [qA7, qD0, qFq]
      rw [el] at r1 f1
      exact hQ v s' ρ' p1 v1 (r1.view V) k1 (fun a ha => f1 a (V.feet a ha)) e1
     ·rw [hp0] at q; cases q
    ·rename_i a b
     cases h
     have hp0 := ho _ (.head _)
     rcases qFZ w.params d with ⟨q, _⟩ | ⟨a', b', q, e⟩
     ·rw [hp0] at q; cases q
     ·rw [hp0] at q; cases q
      refine (qIy w).frame hr hF rm h1 S e qAb (.cons ⟨p, rfl, rfl⟩ .nil) fun v s' ρ' p1 v1 r1 k1 f1 e1 => ?_
      have el : qCa H [i] [.tup (encS d), .tup [.int a, .int b]] = H.set i (.tup (encS d)) ++ [.tup [.int a, .int b]] := by
       unfold qCa
       simp [qA7, qD0, qFq, qC2]
      rw [el] at r1 f1
      have V2 := V.snoc (o := .tup [.int a, .int b]) (o' := .tup [.int a, .int b]) (fun _ => rfl) fun _ _ _ x => x
      have : qC2 (qCb [i] H.length) (.obj 1) = .obj H.length := rfl
      rw [this] at v1
      exact hQ v s' ρ' p1 v1 (r1.view V2) k1 (fun a ha => f1 a (V2.feet a ha)) e1
  ·cases h
 ·cases h
section
noncomputable def Cx.now (cx : Cx) (ρ : Rho) (S : Sta) (s : Shared) : Cx := { cx with h₀ := s.heap, X := cx.L :: feet S.H ρ, g := s.gens, dr := s.drawn, os := s.os }
section
variable {cx : Cx} {ρ ρ' : Rho} {S S' : Sta} {s s' : Shared} {A : Around} {E : VP} {d : Nat}
theorem Rel.now (r : Rel cx ρ S s) : Rel (cx.now ρ S s) ρ S s :=
 ⟨r.hr, r.ns, fun a ha => ⟨(r.ft a ha).1, .inl (.tail _ ha)⟩, ⟨r.lo.1, .inl (.head _)⟩, Kp.refl _ _ _, ⟨rfl, rfl, rfl⟩⟩
theorem AOK.now (a : AOK cx A d) (r : Rel cx ρ S s) : AOK (cx.now ρ S s) A d := by
 refine ⟨a.room, a.fr, fun b hb => ?_⟩
 obtain ⟨⟨o, h1⟩, h2⟩ := a.cxF b hb
 obtain ⟨sl, e, _⟩ := r.kp.keep b o h1 h2
 refine ⟨⟨_, e⟩, fun q => ?_⟩
 rcases lc q with rfl | q
 ·rcases r.lo.2 with z | z
  ·exact h2 z
  ·rw [h1] at z; cases z
 ·rcases (r.ft b q).2 with z | z
  ·exact h2 z
  ·rw [h1] at z; cases z
theorem Rel.later (r : Rel cx ρ S s) (r' : Rel (cx.now ρ S s) ρ' S' s') : Rel cx ρ' S' s' := by
 refine ⟨r'.hr, r'.ns, fun a ha => ?_, r.lo, r.kp.trans r'.kp (fun a ha => ?_) (fun a ha => .inl ha), ⟨r'.rest.1.trans r.rest.1, r'.rest.2.1.trans r.rest.2.1, r'.rest.2.2.trans r.rest.2.2⟩⟩
 ·obtain ⟨h1, h2⟩ := r'.ft a ha
  refine ⟨h1, ?_⟩
  rcases h2 with h2 | h2
  ·rcases lc h2 with h2 | h2
   ·exact absurd h2 h1
   ·exact (r.ft a h2).2
  ·exact r.kp.fresh h2
 ·rcases lc ha with rfl | ha
  ·exact r.lo.2
  ·exact (r.ft a ha).2
theorem Rel.re (r : Rel cx ρ S s) (hr' : HR cx.w ρ' S'.H s.heap) (hf : ∀ a ∈ feet S'.H ρ', a ∈ feet S.H ρ) (hl : ∀ x a', S'.loc.lookup x = some a' → ∃ a, S.loc.lookup x = some a ∧ ∀ v, vrel ρ a v → vrel ρ' a' v) : Rel cx ρ' S' s := by
 obtain ⟨m, n, q⟩ := r.ns
 refine ⟨hr', ⟨m, n, fun x a' e => ?_⟩, fun a ha => r.ft a (hf a ha), r.lo, r.kp, r.rest⟩
 obtain ⟨a, e1, e2⟩ := hl x a' e
 obtain ⟨v, e3, e4⟩ := q x a e1
 exact ⟨v, e3, e2 v e4⟩
theorem Rel.outL {Y : List Addr} {h' : Heap} (r : Rel cx ρ S s) (c : Chg Y s.heap h') (hY : ∀ a ∈ Y, nS ≤ a ∧ a ∉ feet S.H ρ ∧ a ≠ cx.L ∧ (a ∈ cx.X ∨ cx.h₀.get? a = none)) : Rel cx ρ S { s with heap := h' } := by
 obtain ⟨m, n, q⟩ := r.ns
 refine ⟨r.hr.out c fun a ha => ⟨(hY a ha).1, (hY a ha).2.1⟩, ⟨m, ?_, q⟩, r.ft, r.lo, r.kp.step c fun a ha => (hY a ha).2.2.2, r.rest⟩
 obtain ⟨ob, es, ep, h1, h2⟩ := n
 exact ⟨ob, es, ep, c.keep _ _ h1 fun hL => (hY _ hL).2.2.1 rfl, h2⟩
end
noncomputable def qBB (ρ : Rho) (sel : List Nat) : Rho := sel.map fun i => ρ.getD i (0, 0)
theorem qAQ {ρ : Rho} {sel : List Nat} {j i : Nat} {p : Addr × Addr} (h : sel[j]? = some i) (hp : ρ[i]? = some p) : (qBB ρ sel)[j]? = some p := by
 unfold qBB
 rw [List.getElem?_map, h]
 simp [List.getD_eq_getElem?_getD, hp]
structure Pick (ρ : Rho) (H H' : List AO) (sel : List Nat) (h : Heap) : Prop where
 nod : sel.Nodup
 len : H'.length = sel.length
 at_ : ∀ (j i : Nat), sel[j]? = some i → ∃ o o' p, H[i]? = some o ∧ ρ[i]? = some p ∧ H'[j]? = some o' ∧ foot o' p = foot o p ∧ (ORel ρ o p h → ORel (qBB ρ sel) o' p h)
theorem Pick.feet {ρ : Rho} {H H' : List AO} {sel : List Nat} {h : Heap} (P : Pick ρ H H' sel h) : ∀ a ∈ Mine.feet H' (qBB ρ sel), a ∈ Mine.feet H ρ := fun a ha => by
 obtain ⟨j, o', p, h1, h2, h3⟩ := qAw ha
 have lt := (List.getElem?_eq_some_iff.mp h1).1
 have hj : sel[j]? = some (sel[j]'(by rw [← P.len]; exact lt)) := List.getElem?_eq_getElem _
 obtain ⟨o, o2, p2, e1, e2, e3, e4, _⟩ := P.at_ j _ hj
 rw [qAQ hj e2] at h2; cases h2
 rw [h1] at e3; cases e3
 rw [e4] at h3
 exact qAo e1 e2 a h3
theorem HR.pick {w : World} {ρ : Rho} {H H' : List AO} {sel : List Nat} {h : Heap} (r : HR w ρ H h) (P : Pick ρ H H' sel h) : HR w (qBB ρ sel) H' h := by
 have got : ∀ {j : Nat} {o' : AO} {p : Addr × Addr}, H'[j]? = some o' → (qBB ρ sel)[j]? = some p → ∃ i o, sel[j]? = some i ∧ H[i]? = some o ∧ ρ[i]? = some p ∧ foot o' p = foot o p ∧ (ORel ρ o p h → ORel (qBB ρ sel) o' p h) := by
  intro j o' p h1 h2
  have lt := (List.getElem?_eq_some_iff.mp h1).1
  have hj : sel[j]? = some (sel[j]'(by rw [← P.len]; exact lt)) := List.getElem?_eq_getElem _
  obtain ⟨o, o2, p2, e1, e2, e3, e4, e5⟩ := P.at_ j _ hj
  rw [qAQ hj e2] at h2; cases h2
  rw [h1] at e3; cases e3
  exact ⟨_, o, hj, e1, e2, e4, e5⟩
 refine ⟨r.kept, by unfold qBB; rw [List.length_map, P.len], fun j o' p h1 h2 => ?_, fun j o' p h1 h2 => ?_, fun j k oj ok pj pk h1 h2 h3 h4 ne a ha => ?_, fun a ha => r.high a (P.feet a ha)⟩
 ·obtain ⟨i, o, _, e1, e2, _, e4⟩ := got h1 h2
  exact e4 (r.obj i o p e1 e2)
 ·obtain ⟨i, o, _, e1, e2, e3, _⟩ := got h1 h2
  rw [e3]; exact r.own i o p e1 e2
 ·obtain ⟨i, o, e0, e1, e2, e3, _⟩ := got h1 h2
  obtain ⟨i', o', f0, f1, f2, f3, _⟩ := got h3 h4
  rw [f3]; rw [e3] at ha
  refine r.sep i i' o o' pj pk e1 e2 f1 f2 (fun e => ne ?_) a ha
  subst e
  have l1 := (List.getElem?_eq_some_iff.mp e0).1
  have l2 := (List.getElem?_eq_some_iff.mp f0).1
  exact (List.getElem_inj P.nod).mp ((List.getElem?_eq_some_iff.mp e0).2.trans (List.getElem?_eq_some_iff.mp f0).2.symm)
section
variable {M : Model} {A : Around} {E : VP} {s : Shared} {env : Env} {w : World}
theorem qDh {Γ : Ctx} {l2 : List Stmt} {Q : Flow → Pos → Shared → Prop} {F : Value → Pos → Shared → Prop} : ∀ {l1 : List Stmt} {p : Pos} {s : Shared}, Sem.wp M Γ (execs l1 env) (fun f p' s' => match f with | .next => Sem.wp M Γ (execs l2 env) Q F p' s' | f => Q f p' s') F p s → Sem.wp M Γ (execs (l1 ++ l2) env) Q F p s
 | [], p, s, h => h
 | st :: l1, p, s, h => by
  rw [List.cons_append]
  have e1 : execs (st :: l1) env = (do match ← exec st env with | .next => execs l1 env | f => pure f) := rfl
  have e2 : execs (st :: (l1 ++ l2)) env = (do match ← exec st env with | .next => execs (l1 ++ l2) env | f => pure f) := rfl
  rw [e1, Sem.wp_bind'] at h
  rw [e2, Sem.wp_bind']
  refine Sem.wp_mono M Γ _ (fun f p' s' h' => ?_) (fun _ _ _ h' => h') p s h
  cases f with
  | next => exact qDh h'
  | cont => exact h'
  | brk => exact h'
  | ret v => exact h'
theorem qBz {l1 l2 : List Stmt} {Q : FP} (h : wpAny M A (execs l1 env) (fun f s' => match f with | .next => wpAny M A (execs l2 env) Q E s' | f => Q f s') E s) : wpAny M A (execs (l1 ++ l2) env) Q E s := fun Γ p hΓ => by
 refine qDh (Sem.wp_mono M Γ _ (fun f p' s' h' => ?_) (fun _ _ _ h' => h') p s (h Γ p hΓ))
 cases f with
 | next => exact h' Γ p' hΓ
 | cont => exact h'
 | brk => exact h'
 | ret v => exact h'
end
section
variable {cx : Cx} {ρ : Rho} {S : Sta} {s : Shared} {A : Around} {E : VP} {d : Nat}
theorem qOW {k c : Nat} {rest : List Nat} {p : Addr × Addr} (r : Rel cx ρ S s) (hk : S.H[k]? = some (.sit (c :: rest))) (hp : ρ[k]? = some p) :
  wpAny (MM cx.w) A (pyNext (.ref p.1)) (fun v s' => ∃ t, v = some (.str (ch c) t) ∧ Rel cx ρ { S with H := S.H.set k (.sit rest) } s') E s := by
 obtain ⟨x, t, i, hit, hd⟩ := r.hr.obj _ _ _ hk hp
 have hx : x.cps[i]? = some c := by
  have : x.cps.toList[i]? = some c := by
   have := congrArg (fun l => l[0]?) hd
   simpa [List.getElem?_drop] using this
  simpa using this
 refine wpAny_pyNext_ascii_item hit hx fun h' hit' hs => ⟨_, rfl, ?_⟩
 refine r.upd hk hp (fun _ => rfl) (Chg.same hs) (k := s.toks + 1) ⟨x, t, i + 1, hit', ?_⟩
 have := congrArg List.tail hd
 rw [List.tail_drop] at this
 exact this
theorem qPp {k : Nat} {p : Addr × Addr} {ρ' : Rho} {S' : Sta} (r : Rel cx ρ S s) (hk : S.H[k]? = some (.sit [])) (hp : ρ[k]? = some p) (hh : A.handled = none) (r' : Rel cx ρ' S' s) (hn : p.1 ∉ feet S'.H ρ') :
  wpAny (MM cx.w) A (pyNext (.ref p.1)) (fun v s' => v = none ∧ Rel cx ρ' S' s') E s := by
 obtain ⟨x, t, i, hit, hd⟩ := r.hr.obj _ _ _ hk hp
 have hx : x.cps[i]? = none := by
  have : x.cps.toList.length ≤ i := List.drop_eq_nil_iff.mp hd
  simpa using this
 refine wpAny_pyNext_ascii_end hh hit hx fun h' he => ⟨rfl, ?_⟩
 have hm := qAo hk hp p.1 (by simp [foot])
 refine r'.outL (Y := [p.1]) ⟨fun b o e nb => he b o (by simpa using nb) e⟩ fun a ha => ?_
 rw [ls ha]
 exact ⟨r.hr.high _ hm, hn, r.ft _ hm⟩
theorem qPx {x : Str} {v : Value} (r : Rel cx ρ S s) (hv : vrel ρ (.str x) v) (ha : x.cps.all (· < 128) = true) :
  wpAny (MM cx.w) A (pyIter v) (PE cx ρ (.obj S.H.length) { S with H := S.H ++ [.sit x.cps.toList] }) E s := by
 obtain ⟨t, rfl⟩ := hv
 refine wpAny_pyIter_ascii ha ?_
 refine ⟨ρ ++ [(s.heap.objs.size, 0)], List.prefix_append _ _, ⟨(s.heap.objs.size, 0), by rw [← r.hr.len]; simp, rfl⟩, ?_⟩
 refine r.new (k := s.toks) (Chg.push [] _ _) ⟨x, t, 0, ⟨_, Heap.get?_push_size _ rfl, rfl, rfl⟩, by simp⟩ (by simp [foot]) ?_
 intro a ha
 simp [foot] at ha; subst ha; exact Nat.le_refl _
end
theorem qFl {w : World} {A : Around} {env : Env} {it : Addr} {x : Str} {px : Pos} {body : List Stmt} {R : RP} (J : List Nat → Shared → Prop)
  (turn : ∀ c rest s, J (c :: rest) s → ∀ E, wpAny (MM w) A (pyNext (.ref it)) (fun r s1 => ∃ v, r = some v ∧ wpAny (MM w) A (storeName env x v) (fun _ s2 => wpAny (MM w) A (execs body env) (fun f s3 => (f = .next ∨ f = .cont) ∧ J rest s3) E s2) E s1) E s)
  (fin : ∀ s, J [] s → ∀ E, wpAny (MM w) A (pyNext (.ref it)) (fun r s1 => r = none ∧ R (.ok .next) s1) E s) (l : List Nat) {s : Shared} (h : J l s) : codeAny (MM w) A (.forLoop (.Name x px) (.ref it) body [] env) R s := by
 refine codeAny_forLoop (fun n s => ∃ l, l.length = n ∧ J l s) (fun n s zz => ?_) l.length ⟨l, rfl, h⟩
 obtain ⟨l, hn, hJ⟩ := zz
 cases l with
 | nil =>
  refine wm (fin s hJ _) (fun r s1 z => ?_)
  obtain ⟨rfl, z⟩ := z
  exact wpAny_execs_nil z
 | cons c rest =>
  refine wm (turn c rest s hJ _) (fun r s1 z => ?_)
  obtain ⟨v, rfl, z⟩ := z
  refine wpAny_assign_Name (wpAny_mono z (fun _ s2 z => wpAny_mono z (fun f s3 z => ?_) fun _ _ x => x) fun _ _ x => x)
  obtain ⟨rfl | rfl, z⟩ := z
  ·exact ⟨rest.length, by rw [← hn]; simp, rest, rfl, z⟩
  ·exact ⟨rest.length, by rw [← hn]; simp, rest, rfl, z⟩
end
noncomputable abbrev qFA : Str := "text"
noncomputable abbrev qAp : Str := "fresh"
noncomputable abbrev qAK : Str := "mode"
noncomputable abbrev qAg : Str := "places"
noncomputable abbrev qVh (P : Params) : FuncData := fdOf (o794 P)
noncomputable abbrev bDue : List Stmt := qBh (F1 32)
noncomputable abbrev scDue : Scope := qAM (F1 32)
theorem qMZ (w : World) : FnFacts w 794 (qVh w.params) bDue [qFA] :=
 .of1 (by kernel_rfl) (by kernel_rfl) (by kernel_rfl) fun _ => by kernel_rfl
noncomputable def qHq : Stmt → List Stmt
 | .For _ _ b _ _ => b
 | _ => []
noncomputable def qU5 : Stmt → Pos
 | .For _ _ _ _ p => p
 | _ => default
noncomputable def forT : Stmt → PySem.Expr
 | .For t _ _ _ _ => t
 | _ => default
noncomputable def forI : Stmt → PySem.Expr
 | .For _ i _ _ _ => i
 | _ => default
noncomputable def ePos : PySem.Expr → Pos
 | .Name _ p => p
 | _ => default
noncomputable def nthS (l : List Stmt) (i : Nat) : Stmt := l.getD i (.Pass default)
noncomputable abbrev sFor : Stmt := nthS bDue 4
noncomputable abbrev qJ6 : List Stmt := qHq sFor
theorem qM3 : bDue = bDue.take 4 ++ .For (.Name qAE (ePos (forT sFor))) (.Name qFA (ePos (forI sFor))) qJ6 [] (qU5 sFor) :: bDue.drop 5 := by kernel_rfl
noncomputable def qNf (x : OI) : Cs := fun a => if a = 780 then some qRr else if a = 787 then some (spPl x) else none
theorem qNd (w : World) (x : OI) : Csv w (qNf x) 2 := by
 intro f sp h
 unfold qNf at h
 split at h
 ·rename_i e; cases h; rw [e]; exact qU6 w
 ·split at h
  ·rename_i e; cases h; rw [e]; exact qRt w x
  ·cases h
noncomputable def dH (al : Bool) (d : Stand) (vs : List AV) (rest : List Nat) : List AO := .std qAc :: .lst vs :: .sit rest :: (if al then [] else [.std d])
noncomputable def dK (al : Bool) : Nat := if al then 0 else 3
noncomputable def dD (al : Bool) (d : Stand) : Stand := if al then qAc else d
noncomputable def dLoc (al : Bool) (m : Str) : LV := [(qAp, .obj 0), (qAl, .obj (dK al)), (qAK, .str m), (qAg, .obj 1)]
noncomputable def tRun (P : Params) (x : OI) (al : Bool) (m : Str) (d : Stand) (vs : List AV) (rest : List Nat) (c : Nat) (orc : List Bool) : R Fl :=
 run (KK P) (qNf x) scDue qJ6 ⟨qBm qAE (.chr c) (dLoc al m), dH al d vs rest, orc, []⟩
theorem qS4 (P : Params) (x : Str) : run (KK P) (qNf none) scDue (bDue.take 4) ⟨[qFA].zip [.str x], [], [], []⟩ = some (.next, ⟨[(qFA, .str x), (qAp, .obj 0), (qAl, .obj 0), (qAK, .str "gap"), (qAg, .obj 1)], [.tup (encS qAc), .lst []], [], []⟩, []) := by kernel_rfl
noncomputable abbrev sGap : Str := "gap"
noncomputable abbrev qAU : Str := "word"
noncomputable abbrev sSq : Str := "'"
noncomputable abbrev sDq : Str := "\""
noncomputable abbrev qEr : Str := "kept"
noncomputable abbrev qBM : Str := "within"
noncomputable abbrev tNB (c : Nat) : Bool := !Txt.contains "\"\\" (ch c)
noncomputable abbrev tQ (c : Nat) : Bool := Txt.contains "'\"\\" (ch c)
noncomputable abbrev eqM (m : Str) (c : Nat) : Bool := m.cps.toList == (ch c).cps.toList
noncomputable abbrev eqB (c : Nat) : Bool := (ch c).cps.toList == ("\\" : Str).cps.toList
theorem qTq (P : Params) (x : OI) (d : Stand) (vs : List AV) (rest : List Nat) (c : Nat) : tRun P x true qEr d vs rest c [] = some (.next, ⟨[(qAp, .obj 0), (qAl, .obj 3), (qAK, .str qAU), (qAg, .obj 1), (qAE, .chr c)], dH true d vs rest ++ [.std (qAd qAc c)], [], []⟩, [c ∈ qAn]) := by kernel_rfl
theorem qRl (P : Params) (x : OI) (d : Stand) (vs : List AV) (rest : List Nat) (c : Nat) : tRun P x true qBM d vs rest c [true] = some (.next, ⟨[(qAp, .obj 0), (qAl, .obj 4), (qAK, .str sDq), (qAg, .obj 1), (qAE, .chr c)], dH true d vs rest ++ [.std (qAd qAc 92), .std (qAd (qAd qAc 92) c)], [], []⟩, [tNB c = true, 92 ∈ qAn, c ∈ qAn]) := by kernel_rfl
theorem qRj (P : Params) (x : OI) (d : Stand) (vs : List AV) (rest : List Nat) (c : Nat) : tRun P x true qBM d vs rest c [false] = some (.next, ⟨[(qAp, .obj 0), (qAl, .obj 3), (qAK, .str sDq), (qAg, .obj 1), (qAE, .chr c)], dH true d vs rest ++ [.std (qAd qAc c)], [], []⟩, [tNB c = false, c ∈ qAn]) := by kernel_rfl
theorem qVC (P : Params) (x : OI) (d : Stand) (vs : List AV) (rest : List Nat) (c : Nat) : tRun P x true sSq d vs rest c [true] = some (.next, ⟨[(qAp, .obj 0), (qAl, .obj 0), (qAK, .str qAU), (qAg, .obj 1), (qAE, .chr c)], dH true d vs rest, [], []⟩, [eqM sSq c = true]) := by kernel_rfl
theorem qVA (P : Params) (x : OI) (d : Stand) (vs : List AV) (rest : List Nat) (c : Nat) : tRun P x true sSq d vs rest c [false] = some (.next, ⟨[(qAp, .obj 0), (qAl, .obj 3), (qAK, .str sSq), (qAg, .obj 1), (qAE, .chr c)], dH true d vs rest ++ [.std (qAd qAc c)], [], []⟩, [eqM sSq c = false, c ∈ qAn]) := by kernel_rfl
theorem qVI (P : Params) (x : OI) (d : Stand) (vs : List AV) (rest : List Nat) (c : Nat) : tRun P x true sDq d vs rest c [true] = some (.next, ⟨[(qAp, .obj 0), (qAl, .obj 0), (qAK, .str qAU), (qAg, .obj 1), (qAE, .chr c)], dH true d vs rest, [], []⟩, [eqM sDq c = true]) := by kernel_rfl
theorem qVG (P : Params) (x : OI) (d : Stand) (vs : List AV) (rest : List Nat) (c : Nat) : tRun P x true sDq d vs rest c [false, true] = some (.next, ⟨[(qAp, .obj 0), (qAl, .obj 0), (qAK, .str qBM), (qAg, .obj 1), (qAE, .chr c)], dH true d vs rest, [], []⟩, [eqM sDq c = false, eqB c = true]) := by kernel_rfl
theorem qVE (P : Params) (x : OI) (d : Stand) (vs : List AV) (rest : List Nat) (c : Nat) : tRun P x true sDq d vs rest c [false, false] = some (.next, ⟨[(qAp, .obj 0), (qAl, .obj 3), (qAK, .str sDq), (qAg, .obj 1), (qAE, .chr c)], dH true d vs rest ++ [.std (qAd qAc c)], [], []⟩, [eqM sDq c = false, eqB c = false, c ∈ qAn]) := by kernel_rfl
theorem qTs (P : Params) (x : OI) (d : Stand) (vs : List AV) (rest : List Nat) (c : Nat) : tRun P x true sGap d vs rest c [false, true] = some (.next, ⟨[(qAp, .obj 0), (qAl, .obj 0), (qAK, .str sGap), (qAg, .obj 1), (qAE, .chr c)], dH true d vs rest, [], []⟩, [eqM sGap c = false, tWs c = true]) := by kernel_rfl
theorem qTw (P : Params) (x : OI) (d : Stand) (vs : List AV) (rest : List Nat) (c : Nat) : tRun P x true sGap d vs rest c [false, false, true, true] = some (.next, ⟨[(qAp, .obj 0), (qAl, .obj 0), (qAK, .str qEr), (qAg, .obj 1), (qAE, .chr c)], dH true d vs rest, [], []⟩, [eqM sGap c = false, tWs c = false, tQ c = true, eqB c = true]) := by kernel_rfl
theorem qQD (P : Params) (x : OI) (d : Stand) (vs : List AV) (rest : List Nat) (c : Nat) : tRun P x true sGap d vs rest c [false, false, true, false] = some (.next, ⟨[(qAp, .obj 0), (qAl, .obj 0), (qAK, .chr c), (qAg, .obj 1), (qAE, .chr c)], dH true d vs rest, [], []⟩, [eqM sGap c = false, tWs c = false, tQ c = true, eqB c = false]) := by kernel_rfl
theorem qTu (P : Params) (x : OI) (d : Stand) (vs : List AV) (rest : List Nat) (c : Nat) : tRun P x true sGap d vs rest c [false, false, false] = some (.next, ⟨[(qAp, .obj 0), (qAl, .obj 3), (qAK, .str qAU), (qAg, .obj 1), (qAE, .chr c)], dH true d vs rest ++ [.std (qAd qAc c)], [], []⟩, [eqM sGap c = false, tWs c = false, tQ c = false, c ∈ qAn]) := by kernel_rfl
theorem qNU (P : Params) (d : Stand) (vs : List AV) (rest : List Nat) (c : Nat) : tRun P none true qAU d vs rest c [false, true] = some (.next, ⟨[(qAp, .obj 0), (qAl, .obj 0), (qAK, .str sGap), (qAg, .obj 1), (qAE, .chr c)], (dH true d vs rest).set 1 (.lst (vs ++ [.none])), [], []⟩, [eqM qAU c = false, tWs c = true, qAC qAc = none, vs.length < sizeLine]) := by kernel_rfl
theorem qNS (P : Params) (a b : Int) (d : Stand) (vs : List AV) (rest : List Nat) (c : Nat) : tRun P (some (a, b)) true qAU d vs rest c [false, true] = some (.next, ⟨[(qAp, .obj 0), (qAl, .obj 0), (qAK, .str sGap), (qAg, .obj 1), (qAE, .chr c)], (dH true d vs rest).set 1 (.lst (vs ++ [.obj 3])) ++ [.tup [.int a, .int b]], [], []⟩, [eqM qAU c = false, tWs c = true, qAC qAc = some (a, b), vs.length < sizeLine]) := by kernel_rfl
theorem qRh (P : Params) (x : OI) (d : Stand) (vs : List AV) (rest : List Nat) (c : Nat) : tRun P x true qAU d vs rest c [false, false, true, true] = some (.next, ⟨[(qAp, .obj 0), (qAl, .obj 0), (qAK, .str qEr), (qAg, .obj 1), (qAE, .chr c)], dH true d vs rest, [], []⟩, [eqM qAU c = false, tWs c = false, tQ c = true, eqB c = true]) := by kernel_rfl
theorem qKz (P : Params) (x : OI) (d : Stand) (vs : List AV) (rest : List Nat) (c : Nat) : tRun P x true qAU d vs rest c [false, false, true, false] = some (.next, ⟨[(qAp, .obj 0), (qAl, .obj 0), (qAK, .chr c), (qAg, .obj 1), (qAE, .chr c)], dH true d vs rest, [], []⟩, [eqM qAU c = false, tWs c = false, tQ c = true, eqB c = false]) := by kernel_rfl
theorem qRf (P : Params) (x : OI) (d : Stand) (vs : List AV) (rest : List Nat) (c : Nat) : tRun P x true qAU d vs rest c [false, false, false] = some (.next, ⟨[(qAp, .obj 0), (qAl, .obj 3), (qAK, .str qAU), (qAg, .obj 1), (qAE, .chr c)], dH true d vs rest ++ [.std (qAd qAc c)], [], []⟩, [eqM qAU c = false, tWs c = false, tQ c = false, c ∈ qAn]) := by kernel_rfl
theorem qTr (P : Params) (x : OI) (d : Stand) (vs : List AV) (rest : List Nat) (c : Nat) : tRun P x false qEr d vs rest c [] = some (.next, ⟨[(qAp, .obj 0), (qAl, .obj 4), (qAK, .str qAU), (qAg, .obj 1), (qAE, .chr c)], dH false d vs rest ++ [.std (qAd d c)], [], []⟩, [c ∈ qAn]) := by kernel_rfl
theorem qRm (P : Params) (x : OI) (d : Stand) (vs : List AV) (rest : List Nat) (c : Nat) : tRun P x false qBM d vs rest c [true] = some (.next, ⟨[(qAp, .obj 0), (qAl, .obj 5), (qAK, .str sDq), (qAg, .obj 1), (qAE, .chr c)], dH false d vs rest ++ [.std (qAd d 92), .std (qAd (qAd d 92) c)], [], []⟩, [tNB c = true, 92 ∈ qAn, c ∈ qAn]) := by kernel_rfl
theorem qRk (P : Params) (x : OI) (d : Stand) (vs : List AV) (rest : List Nat) (c : Nat) : tRun P x false qBM d vs rest c [false] = some (.next, ⟨[(qAp, .obj 0), (qAl, .obj 4), (qAK, .str sDq), (qAg, .obj 1), (qAE, .chr c)], dH false d vs rest ++ [.std (qAd d c)], [], []⟩, [tNB c = false, c ∈ qAn]) := by kernel_rfl
theorem qVD (P : Params) (x : OI) (d : Stand) (vs : List AV) (rest : List Nat) (c : Nat) : tRun P x false sSq d vs rest c [true] = some (.next, ⟨[(qAp, .obj 0), (qAl, .obj 3), (qAK, .str qAU), (qAg, .obj 1), (qAE, .chr c)], dH false d vs rest, [], []⟩, [eqM sSq c = true]) := by kernel_rfl
theorem qVB (P : Params) (x : OI) (d : Stand) (vs : List AV) (rest : List Nat) (c : Nat) : tRun P x false sSq d vs rest c [false] = some (.next, ⟨[(qAp, .obj 0), (qAl, .obj 4), (qAK, .str sSq), (qAg, .obj 1), (qAE, .chr c)], dH false d vs rest ++ [.std (qAd d c)], [], []⟩, [eqM sSq c = false, c ∈ qAn]) := by kernel_rfl
theorem qVJ (P : Params) (x : OI) (d : Stand) (vs : List AV) (rest : List Nat) (c : Nat) : tRun P x false sDq d vs rest c [true] = some (.next, ⟨[(qAp, .obj 0), (qAl, .obj 3), (qAK, .str qAU), (qAg, .obj 1), (qAE, .chr c)], dH false d vs rest, [], []⟩, [eqM sDq c = true]) := by kernel_rfl
theorem qVH (P : Params) (x : OI) (d : Stand) (vs : List AV) (rest : List Nat) (c : Nat) : tRun P x false sDq d vs rest c [false, true] = some (.next, ⟨[(qAp, .obj 0), (qAl, .obj 3), (qAK, .str qBM), (qAg, .obj 1), (qAE, .chr c)], dH false d vs rest, [], []⟩, [eqM sDq c = false, eqB c = true]) := by kernel_rfl
theorem qVF (P : Params) (x : OI) (d : Stand) (vs : List AV) (rest : List Nat) (c : Nat) : tRun P x false sDq d vs rest c [false, false] = some (.next, ⟨[(qAp, .obj 0), (qAl, .obj 4), (qAK, .str sDq), (qAg, .obj 1), (qAE, .chr c)], dH false d vs rest ++ [.std (qAd d c)], [], []⟩, [eqM sDq c = false, eqB c = false, c ∈ qAn]) := by kernel_rfl
theorem qTt (P : Params) (x : OI) (d : Stand) (vs : List AV) (rest : List Nat) (c : Nat) : tRun P x false sGap d vs rest c [false, true] = some (.next, ⟨[(qAp, .obj 0), (qAl, .obj 0), (qAK, .str sGap), (qAg, .obj 1), (qAE, .chr c)], dH false d vs rest, [], []⟩, [eqM sGap c = false, tWs c = true]) := by kernel_rfl
theorem qTx (P : Params) (x : OI) (d : Stand) (vs : List AV) (rest : List Nat) (c : Nat) : tRun P x false sGap d vs rest c [false, false, true, true] = some (.next, ⟨[(qAp, .obj 0), (qAl, .obj 3), (qAK, .str qEr), (qAg, .obj 1), (qAE, .chr c)], dH false d vs rest, [], []⟩, [eqM sGap c = false, tWs c = false, tQ c = true, eqB c = true]) := by kernel_rfl
theorem qQE (P : Params) (x : OI) (d : Stand) (vs : List AV) (rest : List Nat) (c : Nat) : tRun P x false sGap d vs rest c [false, false, true, false] = some (.next, ⟨[(qAp, .obj 0), (qAl, .obj 3), (qAK, .chr c), (qAg, .obj 1), (qAE, .chr c)], dH false d vs rest, [], []⟩, [eqM sGap c = false, tWs c = false, tQ c = true, eqB c = false]) := by kernel_rfl
theorem qTv (P : Params) (x : OI) (d : Stand) (vs : List AV) (rest : List Nat) (c : Nat) : tRun P x false sGap d vs rest c [false, false, false] = some (.next, ⟨[(qAp, .obj 0), (qAl, .obj 4), (qAK, .str qAU), (qAg, .obj 1), (qAE, .chr c)], dH false d vs rest ++ [.std (qAd d c)], [], []⟩, [eqM sGap c = false, tWs c = false, tQ c = false, c ∈ qAn]) := by kernel_rfl
theorem qNV (P : Params) (d : Stand) (vs : List AV) (rest : List Nat) (c : Nat) : tRun P none false qAU d vs rest c [false, true] = some (.next, ⟨[(qAp, .obj 0), (qAl, .obj 0), (qAK, .str sGap), (qAg, .obj 1), (qAE, .chr c)], (dH false d vs rest).set 1 (.lst (vs ++ [.none])), [], []⟩, [eqM qAU c = false, tWs c = true, qAC d = none, vs.length < sizeLine]) := by kernel_rfl
theorem qNT (P : Params) (a b : Int) (d : Stand) (vs : List AV) (rest : List Nat) (c : Nat) : tRun P (some (a, b)) false qAU d vs rest c [false, true] = some (.next, ⟨[(qAp, .obj 0), (qAl, .obj 0), (qAK, .str sGap), (qAg, .obj 1), (qAE, .chr c)], (dH false d vs rest).set 1 (.lst (vs ++ [.obj 4])) ++ [.tup [.int a, .int b]], [], []⟩, [eqM qAU c = false, tWs c = true, qAC d = some (a, b), vs.length < sizeLine]) := by kernel_rfl
theorem qRi (P : Params) (x : OI) (d : Stand) (vs : List AV) (rest : List Nat) (c : Nat) : tRun P x false qAU d vs rest c [false, false, true, true] = some (.next, ⟨[(qAp, .obj 0), (qAl, .obj 3), (qAK, .str qEr), (qAg, .obj 1), (qAE, .chr c)], dH false d vs rest, [], []⟩, [eqM qAU c = false, tWs c = false, tQ c = true, eqB c = true]) := by kernel_rfl
theorem qKA (P : Params) (x : OI) (d : Stand) (vs : List AV) (rest : List Nat) (c : Nat) : tRun P x false qAU d vs rest c [false, false, true, false] = some (.next, ⟨[(qAp, .obj 0), (qAl, .obj 3), (qAK, .chr c), (qAg, .obj 1), (qAE, .chr c)], dH false d vs rest, [], []⟩, [eqM qAU c = false, tWs c = false, tQ c = true, eqB c = false]) := by kernel_rfl
theorem qRg (P : Params) (x : OI) (d : Stand) (vs : List AV) (rest : List Nat) (c : Nat) : tRun P x false qAU d vs rest c [false, false, false] = some (.next, ⟨[(qAp, .obj 0), (qAl, .obj 4), (qAK, .str qAU), (qAg, .obj 1), (qAE, .chr c)], dH false d vs rest ++ [.std (qAd d c)], [], []⟩, [eqM qAU c = false, tWs c = false, tQ c = false, c ∈ qAn]) := by kernel_rfl
def qAV (h : Heap) (x : OI) (v : Value) : Prop := match x with
 | none => v = .none
 | some (a, b) => ∃ q t u, v = .ref q ∧ IsTup h q #[.int a t, .int b u]
theorem IsTup.kp {X F : List Addr} {h h' : Heap} {q : Addr} {vs : Array Value} (k : Kp X F h h') (n : q ∉ X) (t : IsTup h q vs) : IsTup h' q vs := by
 obtain ⟨o, e, c, n', d⟩ := t
 obtain ⟨sl, e1, _⟩ := k.keep q o e n
 exact ⟨_, e1, c, n', d⟩
structure PlOk (h₀ : Heap) (X : List Addr) (h : Heap) (xs : List OI) (vs : List Value) : Prop where
 all : All2 (qAV h) xs vs
 out : ∀ q, Value.ref q ∈ vs → q ∉ X ∧ h₀.get? q = none
theorem All2.imp' {α β : Type} {R R' : α → β → Prop} : ∀ {l : List α} {m : List β}, (∀ a b, b ∈ m → R a b → R' a b) → All2 R l m → All2 R' l m
 | _, _, _, .nil => .nil
 | _, _, h, .cons a r => .cons (h _ _ (.head _) a) (r.imp' fun a b hb => h a b (.tail _ hb))
theorem PlOk.there {h₀ h : Heap} {X : List Addr} : ∀ {xs : List OI} {vs : List Value}, All2 (qAV h) xs vs → ∀ q, Value.ref q ∈ vs → ∃ ob, h.get? q = some ob
 | _, _, .nil, q, hq => nomatch hq
 | x :: xs, _, .cons a r, q, hq => by
  rcases lc hq with e | hq
  ·subst e
   cases x with
   | none => cases a
   | some y =>
    obtain ⟨q', t, u, e, o, e1, _⟩ := a
    cases e
    exact ⟨o, e1⟩
  ·exact PlOk.there (h₀ := h₀) (X := X) r q hq
theorem PlOk.keep {h₀ h h' : Heap} {X Y F : List Addr} {xs : List OI} {vs : List Value} (P : PlOk h₀ X h xs vs) (k : Kp X F h h') (hY : ∀ a ∈ Y, a ∈ X ∨ h.get? a = none) : PlOk h₀ Y h' xs vs := by
 refine ⟨P.all.imp' fun x v hv r => ?_, fun q hq => ⟨fun hy => ?_, (P.out q hq).2⟩⟩
 ·cases x with
  | none => exact r
  | some y =>
   obtain ⟨q, t, u, rfl, e⟩ := r
   exact ⟨q, t, u, rfl, IsTup.kp k (P.out q hv).1 e⟩
 ·rcases hY q hy with z | z
  ·exact (P.out q hq).1 z
  ·obtain ⟨ob, e⟩ := PlOk.there (h₀ := h₀) (X := X) P.all q hq
   rw [z] at e; cases e
theorem PlOk.sub {h₀ h : Heap} {X Y : List Addr} {xs : List OI} {vs : List Value} (P : PlOk h₀ X h xs vs) (hY : ∀ a ∈ Y, a ∈ X) : PlOk h₀ Y h xs vs := ⟨P.all, fun q hq => ⟨fun hy => (P.out q hq).1 (hY q hy), (P.out q hq).2⟩⟩
theorem PlOk.snoc {h₀ h : Heap} {X : List Addr} {xs : List OI} {vs : List Value} {x : OI} {v : Value} (P : PlOk h₀ X h xs vs) (hv : qAV h x v) (ho : ∀ q, v = .ref q → q ∉ X ∧ h₀.get? q = none) : PlOk h₀ X h (xs ++ [x]) (vs ++ [v]) :=
 ⟨P.all.append (.cons hv .nil), fun q hq => by
  rcases List.mem_append.mp hq with hq | hq
  ·exact P.out q hq
  ·exact ho q (ls hq).symm⟩
noncomputable def lits (vs : List Value) : List AV := vs.map .lit
theorem qCH {ρ : Rho} : ∀ {vs ws : List Value}, vrels ρ (lits vs) ws → ws = vs
 | [], _, .nil => rfl
 | v :: vs, _, .cons (b := b) h r => by
  have e : b = v := h
  rw [e, qCH r]
theorem qHh (ρ : Rho) : ∀ (vs : List Value), vrels ρ (lits vs) vs
 | [] => .nil
 | v :: vs => .cons rfl (qHh ρ vs)
theorem qCg {ρ : Rho} {a : AV} : ∀ {vs ws : List Value}, vrels ρ (lits vs ++ [a]) ws → ∃ v, ws = vs ++ [v] ∧ vrel ρ a v
 | [], _, .cons (b := b) h .nil => ⟨b, rfl, h⟩
 | v :: vs, _, .cons (b := b) h r => by
  have e : b = v := h
  obtain ⟨u, e1, e2⟩ := qCg (vs := vs) r
  exact ⟨u, by rw [e, e1]; rfl, e2⟩
theorem Pick.all {ρ : Rho} {H H' : List AO} {sel : List Nat} {h : Heap} (n : sel.Nodup) (a : All2 (fun i o' => ∃ o p, H[i]? = some o ∧ ρ[i]? = some p ∧ foot o' p = foot o p ∧ (ORel ρ o p h → ∀ ρ', ORel ρ' o' p h)) sel H') : Pick ρ H H' sel h := by
 refine ⟨n, a.length.symm, fun j i e => ?_⟩
 obtain ⟨o', e1, o, p, e2, e3, e4, e5⟩ := a.get e
 exact ⟨o, o', p, e2, e3, e1, e4, fun r => e5 r _⟩
theorem Pick.apart {w : World} {ρ : Rho} {H H' : List AO} {sel : List Nat} {h : Heap} (P : Pick ρ H H' sel h) (r : HR w ρ H h) {n : Nat} {o : AO} {p : Addr × Addr} {q : Addr} (h1 : H[n]? = some o) (h2 : ρ[n]? = some p) (h3 : q ∈ foot o p) (h4 : n ∉ sel) : q ∉ Mine.feet H' (qBB ρ sel) := fun ha => by
 obtain ⟨j, o', p', e1, e2, e3⟩ := qAw ha
 have lt := (List.getElem?_eq_some_iff.mp e1).1
 have hj : sel[j]? = some (sel[j]'(by rw [← P.len]; exact lt)) := List.getElem?_eq_getElem _
 obtain ⟨o1, o2, p2, f1, f2, f3, f4, _⟩ := P.at_ j _ hj
 rw [qAQ hj f2] at e2; cases e2
 rw [e1] at f3; cases f3
 rw [f4] at e3
 exact r.sep n _ o o1 p p' h1 h2 f1 f2 (fun e => h4 (by rw [e]; exact List.getElem_mem _)) q h3 e3
noncomputable def qA6 (al : Bool) (d : Stand) (m : Str) (vs : List Value) (rest : List Nat) : Sta := ⟨dLoc al m, dH al d (lits vs) rest, [], []⟩
structure DueAt (cx : Cx) (D : Due) (rest : List Nat) (it : Addr) (al : Bool) (d : Stand) (vs : List Value) (ρ : Rho) (s : Shared) : Prop where
 rel : Rel cx ρ (qA6 al d D.mode.str vs rest) s
 std : D.stand = dD al d
 pl : PlOk cx.h₀ (cx.L :: feet (dH al d (lits vs) rest) ρ) s.heap D.places vs
 it : ∃ b, ρ[2]? = some (it, b)
def DueSt (cx : Cx) (D : Due) (rest : List Nat) (it : Addr) (s : Shared) : Prop := ∃ al d vs ρ, DueAt cx D rest it al d vs ρ s
theorem qCE {ρ : Rho} {d : Stand} {p : Addr × Addr} {h : Heap} (r : ORel ρ (.std d) p h) (ρ' : Rho) : ORel ρ' (.std d) p h := by
 obtain ⟨vs, n, e1, e2⟩ := r
 exact ⟨vs, n, e1, qHz e2⟩
theorem DueSt.of {cx : Cx} {ρ : Rho} {S' : Sta} {s : Shared} {D : Due} {rest : List Nat} {it b : Addr} {as : List AV} {vs : List Value} {k : Nat} {mv : AV} (al : Bool) (d : Stand) (r : Rel cx ρ S' s)
  (h0 : S'.H[0]? = some (.std qAc)) (h1 : S'.H[1]? = some (.lst as)) (h2 : S'.H[2]? = some (.sit rest)) (h3 : al = false → S'.H[k]? = some (.std d) ∧ 3 ≤ k) (h4 : al = true → k = 0) (hv : ∀ ws, vrels ρ as ws → ws = vs)
  (l0 : S'.loc.lookup qAp = some (.obj 0)) (l1 : S'.loc.lookup qAl = some (.obj k)) (l2 : S'.loc.lookup qAg = some (.obj 1)) (l3 : S'.loc.lookup qAK = some mv) (hm : ∀ ρ ρ' v, vrel ρ mv v → vrel ρ' (.str D.mode.str) v)
  (hs : D.stand = dD al d) (ha : All2 (qAV s.heap) D.places vs) (hq : ∀ q, Value.ref q ∈ vs → (q ≠ cx.L ∧ cx.h₀.get? q = none) ∧ (q ∉ feet S'.H ρ ∨ ∃ n o p, S'.H[n]? = some o ∧ ρ[n]? = some p ∧ q ∈ foot o p ∧ n ∉ (if al then [0, 1, 2] else [0, 1, 2, k]))) (hi : ρ[2]? = some (it, b)) : DueSt cx D rest it s := by
 obtain ⟨p0, q0, o0⟩ := r.hr.rho h0
 obtain ⟨p1, q1, o1⟩ := r.hr.rho h1
 obtain ⟨p2, q2, o2⟩ := r.hr.rho h2
 have lst : ∀ ρ', ORel ρ (.lst as) p1 s.heap → ORel ρ' (.lst (lits vs)) p1 s.heap := by
  rintro ρ' ⟨ws, n, e1, e2⟩
  have := hv ws e2
  subst this
  exact ⟨ws, n, e1, qHh _ _⟩
 cases al with
 | true =>
  have hk := h4 rfl
  subst hk
  have P : Pick ρ S'.H (dH true d (lits vs) rest) [0, 1, 2] s.heap := .all (by decide) (.cons ⟨_, _, h0, q0, rfl, fun r ρ' => qCE r ρ'⟩ (.cons ⟨_, _, h1, q1, rfl, fun r ρ' => lst ρ' r⟩ (.cons ⟨_, _, h2, q2, rfl, fun r ρ' => r⟩ .nil)))
  refine ⟨true, d, vs, qBB ρ [0, 1, 2], r.re (S' := qA6 true d D.mode.str vs rest) (r.hr.pick P) P.feet fun x a' e => ?_, hs, ⟨ha, fun q h => ⟨fun z => ?_, (hq q h).1.2⟩⟩, b, qAQ (i := 2) rfl hi⟩
  rotate_left
  ·rcases lc z with z | z
   ·exact (hq q h).1.1 z
   rcases (hq q h).2 with y | ⟨n, o, p, y1, y2, y3, y4⟩
   ·exact y (P.feet q z)
   ·exact P.apart r.hr y1 y2 y3 y4 z
  have g0 : (qBB ρ [0, 1, 2])[0]? = some p0 := qAQ (i := 0) rfl q0
  have g1 : (qBB ρ [0, 1, 2])[1]? = some p1 := qAQ (i := 1) rfl q1
  have e := qA5 e
  simp only [qA6, dLoc, dK] at e
  rcases lc e with e | e
  ·cases e; exact ⟨_, l0, fun v ⟨p, z, y⟩ => ⟨p, by rw [q0] at z; cases z; exact g0, y⟩⟩
  rcases lc e with e | e
  ·cases e; exact ⟨_, l1, fun v ⟨p, z, y⟩ => ⟨p, by rw [q0] at z; cases z; exact g0, y⟩⟩
  rcases lc e with e | e
  ·cases e; exact ⟨_, l3, fun v z => hm _ _ v z⟩
  rcases lc e with e | e
  ·cases e; exact ⟨_, l2, fun v ⟨p, z, y⟩ => ⟨p, by rw [q1] at z; cases z; exact g1, y⟩⟩
  ·cases e
 | false =>
  obtain ⟨h3, hk⟩ := h3 rfl
  obtain ⟨p3, q3, o3⟩ := r.hr.rho h3
  have P : Pick ρ S'.H (dH false d (lits vs) rest) [0, 1, 2, k] s.heap := .all (by
   simp only [List.nodup_cons, List.mem_cons, List.not_mem_nil, or_false]
   refine ⟨?_, ?_, ?_, fun h => h, List.nodup_nil⟩ <;> omega) (.cons ⟨_, _, h0, q0, rfl, fun r ρ' => qCE r ρ'⟩ (.cons ⟨_, _, h1, q1, rfl, fun r ρ' => lst ρ' r⟩ (.cons ⟨_, _, h2, q2, rfl, fun r ρ' => r⟩ (.cons ⟨_, _, h3, q3, rfl, fun r ρ' => qCE r ρ'⟩ .nil))))
  refine ⟨false, d, vs, qBB ρ [0, 1, 2, k], r.re (S' := qA6 false d D.mode.str vs rest) (r.hr.pick P) P.feet fun x a' e => ?_, hs, ⟨ha, fun q h => ⟨fun z => ?_, (hq q h).1.2⟩⟩, b, qAQ (i := 2) rfl hi⟩
  rotate_left
  ·rcases lc z with z | z
   ·exact (hq q h).1.1 z
   rcases (hq q h).2 with y | ⟨n, o, p, y1, y2, y3, y4⟩
   ·exact y (P.feet q z)
   ·exact P.apart r.hr y1 y2 y3 y4 z
  have g0 : (qBB ρ [0, 1, 2, k])[0]? = some p0 := qAQ (i := 0) rfl q0
  have g1 : (qBB ρ [0, 1, 2, k])[1]? = some p1 := qAQ (i := 1) rfl q1
  have g3 : (qBB ρ [0, 1, 2, k])[3]? = some p3 := qAQ (i := k) rfl q3
  have e := qA5 e
  simp only [qA6, dLoc, dK] at e
  rcases lc e with e | e
  ·cases e; exact ⟨_, l0, fun v ⟨p, z, y⟩ => ⟨p, by rw [q0] at z; cases z; exact g0, y⟩⟩
  rcases lc e with e | e
  ·cases e; exact ⟨_, l1, fun v ⟨p, z, y⟩ => ⟨p, by rw [q3] at z; cases z; exact g3, y⟩⟩
  rcases lc e with e | e
  ·cases e; exact ⟨_, l3, fun v z => hm _ _ v z⟩
  rcases lc e with e | e
  ·cases e; exact ⟨_, l2, fun v ⟨p, z, y⟩ => ⟨p, by rw [q1] at z; cases z; exact g1, y⟩⟩
  ·cases e
section
theorem qTo : ∀ c ∈ qAn, (tNB c = !(c == 34 || c == 92) ∧ eqM sSq c = (c == 39) ∧ eqM sDq c = (c == 34) ∧ eqB c = (c == 92)) ∧ (tWs c = isWs c ∧ tQ c = (c == 39 || (c == 34 || c == 92)) ∧ eqM sGap c = false ∧ eqM qAU c = false) := by decide +kernel
theorem in92 : (92 : Nat) ∈ qAn := by decide
section
variable {cx : Cx} {ρ : Rho} {s : Shared} {A : Around} {E : VP} {al : Bool} {d : Stand} {vs : List Value} {rest : List Nat} {c : Nat} {m : Str} {Q : FP} {q : Str} {a : Addr} {cd : Value}
noncomputable abbrev qBt (al : Bool) (d : Stand) (m : Str) (vs : List Value) (rest : List Nat) (c : Nat) : Sta := ⟨qBm qAE (.chr c) (dLoc al m), dH al d (lits vs) rest, [], []⟩
theorem qCL {x : OI} {orc : List Bool} {S' : Sta} {o : List Prop} (hrun : tRun cx.w.params x al m d (lits vs) rest c orc = some (.next, S', o)) (ho : ∀ p ∈ o, p) (r : Rel cx ρ (qBt al d m vs rest c) s) (ok : AOK cx A 3)
  (hQ : ∀ ρ' s', ρ <+: ρ' → Rel (cx.now ρ (qBt al d m vs rest c) s) ρ' S' s' → Q .next s') : wpAny (MM cx.w) A (execs qJ6 (envOf q scDue cx.L a cd)) Q E s := by
 refine wm (qAF (cx := cx.now ρ (qBt al d m vs rest c) s) (q := q) (a := a) (cd := cd) (sc := scDue) (by kernel_rfl) (qNd cx.w x) qJ6 ⟨qBm qAE (.chr c) (dLoc al m), dH al d (lits vs) rest, orc, []⟩ _ _ _ hrun ho A ρ s E (ok.now r) (r.now.orc _) fun _ _ x => x.elim) (fun f s' z => ?_)
 obtain ⟨ρ', p1, e1, r1⟩ := z
 cases e1
 exact hQ ρ' s' p1 r1
theorem qCQ {S' : Sta} {s' : Shared} {ρ' : Rho} {xs : List OI} (P : PlOk cx.h₀ (cx.L :: feet (dH al d (lits vs) rest) ρ) s.heap xs vs) (r : Rel (cx.now ρ (qBt al d m vs rest c) s) ρ' S' s') : All2 (qAV s'.heap) xs vs ∧ ∀ q, Value.ref q ∈ vs → (q ≠ cx.L ∧ cx.h₀.get? q = none) ∧ q ∉ feet S'.H ρ' := by
 have k := P.keep r.kp (Y := cx.L :: feet S'.H ρ') fun a ha => by
  rcases lc ha with rfl | ha
  ·exact .inl (.head _)
  ·exact (r.ft a ha).2
 exact ⟨k.all, fun q hq => ⟨⟨fun e => (k.out q hq).1 (by rw [e]; exact .head _), (k.out q hq).2⟩, fun z => (k.out q hq).1 (.tail _ z)⟩⟩
abbrev qEX (cx : Cx) (A : Around) (E : VP) (q : Str) (a : Addr) (cd : Value) (D : Due) (rest : List Nat) (it : Addr) (s : Shared) : Prop :=
 wpAny (MM cx.w) A (execs qJ6 (envOf q scDue cx.L a cd)) (fun f s' => (f = .next ∨ f = .cont) ∧ DueSt cx D rest it s') E s
theorem qAm (m : Mode) : ∀ (ρ ρ' : Rho) v, vrel ρ (.str m.str) v → vrel ρ' (.str m.str) v := fun _ _ _ h => h
theorem qCn {c : Nat} {x : Str} (h : x = ch c) : ∀ (ρ ρ' : Rho) v, vrel ρ (.chr c) v → vrel ρ' (.str x) v := fun _ _ _ ⟨t, e⟩ => ⟨t, by rw [h]; exact e⟩
theorem qAs {x : OI} {orc : List Bool} {mv : AV} {o : List Prop} {xs : List OI} {it b : Addr} {m' : Mode} {e : Stand} (hrun : tRun cx.w.params x al m d (lits vs) rest c orc = some (.next, ⟨[(qAp, .obj 0), (qAl, .obj (dK al)), (qAK, mv), (qAg, .obj 1), (qAE, .chr c)], dH al d (lits vs) rest, [], []⟩, o)) (ho : ∀ p ∈ o, p)
  (r : Rel cx ρ (qBt al d m vs rest c) s) (ok : AOK cx A 3) (P : PlOk cx.h₀ (cx.L :: feet (dH al d (lits vs) rest) ρ) s.heap xs vs) (hi : ρ[2]? = some (it, b)) (hm : ∀ ρ ρ' v, vrel ρ mv v → vrel ρ' (.str m'.str) v) (he : e = dD al d) : qEX cx A E q a cd ⟨m', e, xs⟩ rest it s := by
 refine qCL hrun ho r ok fun ρ' s' p1 r1 => ⟨.inl rfl, ?_⟩
 obtain ⟨k1, k2⟩ := qCQ P r1
 refine DueSt.of (as := lits vs) (k := dK al) al d (r.later r1) rfl rfl rfl (fun h => ?_) (fun h => ?_) (fun ws h => qCH h) rfl rfl rfl rfl hm he k1 (fun q hq => ⟨(k2 q hq).1, .inl (k2 q hq).2⟩) (qBi p1 hi)
 ·subst h; exact ⟨rfl, by decide⟩
 ·subst h; rfl
theorem qAH {x : OI} {orc : List Bool} {mv : AV} {o : List Prop} {xs : List OI} {it b : Addr} {m' : Mode} {e : Stand} {k : Nat} {new : List AO} (hrun : tRun cx.w.params x al m d (lits vs) rest c orc = some (.next, ⟨[(qAp, .obj 0), (qAl, .obj k), (qAK, mv), (qAg, .obj 1), (qAE, .chr c)], dH al d (lits vs) rest ++ new, [], []⟩, o)) (ho : ∀ p ∈ o, p)
  (hk : (dH al d (lits vs) rest ++ new)[k]? = some (.std e)) (h3 : 3 ≤ k)
  (r : Rel cx ρ (qBt al d m vs rest c) s) (ok : AOK cx A 3) (P : PlOk cx.h₀ (cx.L :: feet (dH al d (lits vs) rest) ρ) s.heap xs vs) (hi : ρ[2]? = some (it, b)) (hm : ∀ ρ ρ' v, vrel ρ mv v → vrel ρ' (.str m'.str) v) : qEX cx A E q a cd ⟨m', e, xs⟩ rest it s := by
 refine qCL hrun ho r ok fun ρ' s' p1 r1 => ⟨.inl rfl, ?_⟩
 obtain ⟨k1, k2⟩ := qCQ P r1
 exact DueSt.of (as := lits vs) (k := k) false e (r.later r1) rfl rfl rfl (fun h => ⟨hk, h3⟩) (nofun) (fun ws h => qCH h) rfl rfl rfl rfl hm rfl k1 (fun q hq => ⟨(k2 q hq).1, .inl (k2 q hq).2⟩) (qBi p1 hi)
theorem qHS {x : OI} {orc : List Bool} {o : List Prop} {xs : List OI} {it b : Addr} (hrun : tRun cx.w.params x al m d (lits vs) rest c orc = some (.next, ⟨[(qAp, .obj 0), (qAl, .obj 0), (qAK, .str sGap), (qAg, .obj 1), (qAE, .chr c)], dH al d (lits vs) rest, [], []⟩, o)) (ho : ∀ p ∈ o, p)
  (r : Rel cx ρ (qBt al d m vs rest c) s) (ok : AOK cx A 3) (P : PlOk cx.h₀ (cx.L :: feet (dH al d (lits vs) rest) ρ) s.heap xs vs) (hi : ρ[2]? = some (it, b)) : qEX cx A E q a cd ⟨.gap, qAc, xs⟩ rest it s := by
 refine qCL hrun ho r ok fun ρ' s' p1 r1 => ⟨.inl rfl, ?_⟩
 obtain ⟨k1, k2⟩ := qCQ P r1
 exact DueSt.of (as := lits vs) (k := 0) true d (r.later r1) rfl rfl rfl (nofun) (fun h => rfl) (fun ws h => qCH h) rfl rfl rfl rfl (qAm .gap) rfl k1 (fun q hq => ⟨(k2 q hq).1, .inl (k2 q hq).2⟩) (qBi p1 hi)
theorem qFJ {x : OI} {orc : List Bool} {o : List Prop} {xs : List OI} {it b : Addr} (hrun : tRun cx.w.params x al m d (lits vs) rest c orc = some (.next, ⟨[(qAp, .obj 0), (qAl, .obj 0), (qAK, .str sGap), (qAg, .obj 1), (qAE, .chr c)], (dH al d (lits vs) rest).set 1 (.lst (lits vs ++ [.none])), [], []⟩, o)) (ho : ∀ p ∈ o, p)
  (r : Rel cx ρ (qBt al d m vs rest c) s) (ok : AOK cx A 3) (P : PlOk cx.h₀ (cx.L :: feet (dH al d (lits vs) rest) ρ) s.heap xs vs) (hi : ρ[2]? = some (it, b)) : qEX cx A E q a cd ⟨.gap, qAc, xs ++ [none]⟩ rest it s := by
 refine qCL hrun ho r ok fun ρ' s' p1 r1 => ⟨.inl rfl, ?_⟩
 obtain ⟨k1, k2⟩ := qCQ P r1
 refine DueSt.of (as := lits vs ++ [.none]) (vs := vs ++ [.none]) (k := 0) true d (r.later r1) rfl rfl rfl (nofun) (fun h => rfl) (fun ws h => ?_) rfl rfl rfl rfl (qAm .gap) rfl (k1.append (.cons rfl .nil)) (fun q hq => ?_) (qBi p1 hi)
 ·obtain ⟨v, e1, e2⟩ := qCg h
  rw [e1, show v = .none from e2]
 ·rcases List.mem_append.mp hq with hq | hq
  ·exact ⟨(k2 q hq).1, .inl (k2 q hq).2⟩
  ·have := ls hq
   cases this
theorem qFI {x : OI} {orc : List Bool} {o : List Prop} {xs : List OI} {it b : Addr} {n : Nat} {u v : Int} (hX : cx.X = []) (hrun : tRun cx.w.params x al m d (lits vs) rest c orc = some (.next, ⟨[(qAp, .obj 0), (qAl, .obj 0), (qAK, .str sGap), (qAg, .obj 1), (qAE, .chr c)], (dH al d (lits vs) rest).set 1 (.lst (lits vs ++ [.obj n])) ++ [.tup [.int u, .int v]], [], []⟩, o)) (ho : ∀ p ∈ o, p)
  (hn : ((dH al d (lits vs) rest).set 1 (.lst (lits vs ++ [.obj n])) ++ [.tup [.int u, .int v]])[n]? = some (.tup [.int u, .int v])) (h3 : 3 ≤ n)
  (r : Rel cx ρ (qBt al d m vs rest c) s) (ok : AOK cx A 3) (P : PlOk cx.h₀ (cx.L :: feet (dH al d (lits vs) rest) ρ) s.heap xs vs) (hi : ρ[2]? = some (it, b)) : qEX cx A E q a cd ⟨.gap, qAc, xs ++ [some (u, v)]⟩ rest it s := by
 refine qCL hrun ho r ok fun ρ' s' p1 r1 => ⟨.inl rfl, ?_⟩
 obtain ⟨k1, k2⟩ := qCQ P r1
 have r2 := r.later r1
 obtain ⟨p, hp, ob⟩ := r1.hr.rho hn
 have hm := qAo hn hp p.1 (by simp [foot])
 refine DueSt.of (as := lits vs ++ [.obj n]) (vs := vs ++ [.ref p.1]) (k := 0) true d r2 rfl rfl rfl (nofun) (fun h => rfl) (fun ws h => ?_) rfl rfl rfl rfl (qAm .gap) rfl (k1.append (.cons ?_ .nil)) (fun q hq => ?_) (qBi p1 hi)
 ·obtain ⟨w, e1, p', e2, e3⟩ := qCg h
  rw [hp] at e2; cases e2
  rw [e1, e3]
 ·obtain ⟨ws, k, e1, e2⟩ := ob
  cases e2 with
  | cons a1 e2 => cases e2 with
   | cons a2 e2 =>
    cases e2
    obtain ⟨t, rfl⟩ := a1
    obtain ⟨t', rfl⟩ := a2
    exact ⟨p.1, t, t', rfl, _, e1, rfl, k, rfl⟩
 ·rcases List.mem_append.mp hq with hq | hq
  ·exact ⟨(k2 q hq).1, .inl (k2 q hq).2⟩
  ·have := ls hq
   cases this
   refine ⟨⟨(r2.ft _ hm).1, ?_⟩, .inr ⟨n, _, p, hn, hp, by simp [foot], ?_⟩⟩
   ·rcases (r2.ft _ hm).2 with z | z
    ·rw [hX] at z; cases z
    ·exact z
   ·simp only [if_true, List.mem_cons, List.not_mem_nil, or_false]; omega
end
end
section
section
variable {cx : Cx} {ρ : Rho} {s : Shared} {A : Around} {E : VP} {al : Bool} {d : Stand} {vs : List Value} {rest : List Nat} {c : Nat} {q : Str} {a : Addr} {cd : Value}
theorem qQc {D : Due} {it b : Addr} (hX : cx.X = []) (hc : c ∈ qAn) (hl : vs.length < sizeLine) (r : Rel cx ρ (qBt al d D.mode.str vs rest c) s) (ok : AOK cx A 3) (hs : D.stand = dD al d)
  (P : PlOk cx.h₀ (cx.L :: feet (dH al d (lits vs) rest) ρ) s.heap D.places vs) (hi : ρ[2]? = some (it, b)) : qEX cx A E q a cd (qAe D c) rest it s := by
 obtain ⟨⟨c1, c2, c3, c4⟩, c5, c6, c7, c8⟩ := qTo c hc
 obtain ⟨mode, stand, xs⟩ := D
 dsimp only at hs P r
 subst hs
 have hl' : (lits vs).length < sizeLine := by unfold lits; rw [List.length_map]; exact hl
 have one : ∀ {p : Prop}, p → ∀ q ∈ [p], q := fun h => aCc h qAb
 cases mode with
 | kept =>
  cases al with
  | false => exact qAH (m' := .word) (qTr cx.w.params none d (lits vs) rest c) (one hc) rfl (by decide) r ok P hi (qAm .word)
  | true => exact qAH (m' := .word) (qTq cx.w.params none d (lits vs) rest c) (one hc) rfl (by decide) r ok P hi (qAm .word)
 | within =>
  cases h : (c == 34 || c == 92) with
  | false =>
   rw [h] at c1
   have e : qAe ⟨.within, dD al d, xs⟩ c = ⟨.dq, qAd (qAd (dD al d) 92) c, xs⟩ := by simp only [qAe, h]; rfl
   rw [e]
   cases al with
   | false => exact qAH (m' := .dq) (qRm cx.w.params none d (lits vs) rest c) (aCc c1 (aCc in92 (one hc))) rfl (by decide) r ok P hi (qAm .dq)
   | true => exact qAH (m' := .dq) (qRl cx.w.params none d (lits vs) rest c) (aCc c1 (aCc in92 (one hc))) rfl (by decide) r ok P hi (qAm .dq)
  | true =>
   rw [h] at c1
   have e : qAe ⟨.within, dD al d, xs⟩ c = ⟨.dq, qAd (dD al d) c, xs⟩ := by simp only [qAe, h]; rfl
   rw [e]
   cases al with
   | false => exact qAH (m' := .dq) (qRk cx.w.params none d (lits vs) rest c) (aCc c1 (one hc)) rfl (by decide) r ok P hi (qAm .dq)
   | true => exact qAH (m' := .dq) (qRj cx.w.params none d (lits vs) rest c) (aCc c1 (one hc)) rfl (by decide) r ok P hi (qAm .dq)
 | sq =>
  cases h : (c == 39) with
  | true =>
   rw [h] at c2
   have e : qAe ⟨.sq, dD al d, xs⟩ c = ⟨.word, dD al d, xs⟩ := by simp only [qAe, h]; rfl
   rw [e]
   cases al with
   | false => exact qAs (m' := .word) (qVD cx.w.params none d (lits vs) rest c) (one c2) r ok P hi (qAm .word) rfl
   | true => exact qAs (m' := .word) (qVC cx.w.params none d (lits vs) rest c) (one c2) r ok P hi (qAm .word) rfl
  | false =>
   rw [h] at c2
   have e : qAe ⟨.sq, dD al d, xs⟩ c = ⟨.sq, qAd (dD al d) c, xs⟩ := by simp only [qAe, h]; rfl
   rw [e]
   cases al with
   | false => exact qAH (m' := .sq) (qVB cx.w.params none d (lits vs) rest c) (aCc c2 (one hc)) rfl (by decide) r ok P hi (qAm .sq)
   | true => exact qAH (m' := .sq) (qVA cx.w.params none d (lits vs) rest c) (aCc c2 (one hc)) rfl (by decide) r ok P hi (qAm .sq)
 | dq =>
  cases h : (c == 34) with
  | true =>
   rw [h] at c3
   have e : qAe ⟨.dq, dD al d, xs⟩ c = ⟨.word, dD al d, xs⟩ := by simp only [qAe, h]; rfl
   rw [e]
   cases al with
   | false => exact qAs (m' := .word) (qVJ cx.w.params none d (lits vs) rest c) (one c3) r ok P hi (qAm .word) rfl
   | true => exact qAs (m' := .word) (qVI cx.w.params none d (lits vs) rest c) (one c3) r ok P hi (qAm .word) rfl
  | false =>
   rw [h] at c3
   cases h2 : (c == 92) with
   | true =>
    rw [h2] at c4
    have e : qAe ⟨.dq, dD al d, xs⟩ c = ⟨.within, dD al d, xs⟩ := by simp only [qAe, h, h2]; rfl
    rw [e]
    cases al with
    | false => exact qAs (m' := .within) (qVH cx.w.params none d (lits vs) rest c) (aCc c3 (one c4)) r ok P hi (qAm .within) rfl
    | true => exact qAs (m' := .within) (qVG cx.w.params none d (lits vs) rest c) (aCc c3 (one c4)) r ok P hi (qAm .within) rfl
   | false =>
    rw [h2] at c4
    have e : qAe ⟨.dq, dD al d, xs⟩ c = ⟨.dq, qAd (dD al d) c, xs⟩ := by simp only [qAe, h, h2]; rfl
    rw [e]
    cases al with
    | false => exact qAH (m' := .dq) (qVF cx.w.params none d (lits vs) rest c) (aCc c3 (aCc c4 (one hc))) rfl (by decide) r ok P hi (qAm .dq)
    | true => exact qAH (m' := .dq) (qVE cx.w.params none d (lits vs) rest c) (aCc c3 (aCc c4 (one hc))) rfl (by decide) r ok P hi (qAm .dq)
 | gap =>
  cases h : isWs c with
  | true =>
   rw [h] at c5
   have e : qAe ⟨.gap, dD al d, xs⟩ c = ⟨.gap, qAc, xs⟩ := by simp only [qAe, h]; rfl
   rw [e]
   cases al with
   | false => exact qHS (qTt cx.w.params none d (lits vs) rest c) (aCc c7 (one c5)) r ok P hi
   | true => exact qHS (qTs cx.w.params none d (lits vs) rest c) (aCc c7 (one c5)) r ok P hi
  | false =>
   rw [h] at c5
   cases h1 : (c == 39) with
   | true =>
    have e : qAe ⟨.gap, dD al d, xs⟩ c = ⟨.sq, dD al d, xs⟩ := by simp only [qAe, h, h1]; rfl
    rw [e]
    have e39 := beq_iff_eq.mp h1
    subst e39
    cases al with
    | false => exact qAs (m' := .sq) (qQE cx.w.params none d (lits vs) rest 39) (aCc c7 (aCc c5 (aCc c6 (one c4)))) r ok P hi (qCn rfl) rfl
    | true => exact qAs (m' := .sq) (qQD cx.w.params none d (lits vs) rest 39) (aCc c7 (aCc c5 (aCc c6 (one c4)))) r ok P hi (qCn rfl) rfl
   | false =>
    cases h2 : (c == 34) with
    | true =>
     have e : qAe ⟨.gap, dD al d, xs⟩ c = ⟨.dq, dD al d, xs⟩ := by simp only [qAe, h, h1, h2]; rfl
     rw [e]
     have e34 := beq_iff_eq.mp h2
     subst e34
     cases al with
     | false => exact qAs (m' := .dq) (qQE cx.w.params none d (lits vs) rest 34) (aCc c7 (aCc c5 (aCc c6 (one c4)))) r ok P hi (qCn rfl) rfl
     | true => exact qAs (m' := .dq) (qQD cx.w.params none d (lits vs) rest 34) (aCc c7 (aCc c5 (aCc c6 (one c4)))) r ok P hi (qCn rfl) rfl
    | false =>
     cases h3 : (c == 92) with
     | true =>
      rw [h1, h2, h3] at c6
      rw [h3] at c4
      have e : qAe ⟨.gap, dD al d, xs⟩ c = ⟨.kept, dD al d, xs⟩ := by simp only [qAe, h, h1, h2, h3]; rfl
      rw [e]
      cases al with
      | false => exact qAs (m' := .kept) (qTx cx.w.params none d (lits vs) rest c) (aCc c7 (aCc c5 (aCc c6 (one c4)))) r ok P hi (qAm .kept) rfl
      | true => exact qAs (m' := .kept) (qTw cx.w.params none d (lits vs) rest c) (aCc c7 (aCc c5 (aCc c6 (one c4)))) r ok P hi (qAm .kept) rfl
     | false =>
      rw [h1, h2, h3] at c6
      have e : qAe ⟨.gap, dD al d, xs⟩ c = ⟨.word, qAd (dD al d) c, xs⟩ := by simp only [qAe, h, h1, h2, h3]; rfl
      rw [e]
      cases al with
      | false => exact qAH (m' := .word) (qTv cx.w.params none d (lits vs) rest c) (aCc c7 (aCc c5 (aCc c6 (one hc)))) rfl (by decide) r ok P hi (qAm .word)
      | true => exact qAH (m' := .word) (qTu cx.w.params none d (lits vs) rest c) (aCc c7 (aCc c5 (aCc c6 (one hc)))) rfl (by decide) r ok P hi (qAm .word)
 | word =>
  cases h : isWs c with
  | true =>
   rw [h] at c5
   have e : qAe ⟨.word, dD al d, xs⟩ c = ⟨.gap, qAc, xs ++ [qAC (dD al d)]⟩ := by simp only [qAe, h]; rfl
   rw [e]
   cases hp : qAC (dD al d) with
   | none =>
    cases al with
    | false => exact qFJ (qNV cx.w.params d (lits vs) rest c) (aCc c8 (aCc c5 (aCc hp (one hl')))) r ok P hi
    | true => exact qFJ (qNU cx.w.params d (lits vs) rest c) (aCc c8 (aCc c5 (aCc hp (one hl')))) r ok P hi
   | some y =>
    obtain ⟨u, v⟩ := y
    cases al with
    | false => exact qFI hX (qNT cx.w.params u v d (lits vs) rest c) (aCc c8 (aCc c5 (aCc hp (one hl')))) rfl (by decide) r ok P hi
    | true => exact qFI hX (qNS cx.w.params u v d (lits vs) rest c) (aCc c8 (aCc c5 (aCc hp (one hl')))) rfl (by decide) r ok P hi
  | false =>
   rw [h] at c5
   cases h1 : (c == 39) with
   | true =>
    have e : qAe ⟨.word, dD al d, xs⟩ c = ⟨.sq, dD al d, xs⟩ := by simp only [qAe, h, h1]; rfl
    rw [e]
    have e39 := beq_iff_eq.mp h1
    subst e39
    cases al with
    | false => exact qAs (m' := .sq) (qKA cx.w.params none d (lits vs) rest 39) (aCc c8 (aCc c5 (aCc c6 (one c4)))) r ok P hi (qCn rfl) rfl
    | true => exact qAs (m' := .sq) (qKz cx.w.params none d (lits vs) rest 39) (aCc c8 (aCc c5 (aCc c6 (one c4)))) r ok P hi (qCn rfl) rfl
   | false =>
    cases h2 : (c == 34) with
    | true =>
     have e : qAe ⟨.word, dD al d, xs⟩ c = ⟨.dq, dD al d, xs⟩ := by simp only [qAe, h, h1, h2]; rfl
     rw [e]
     have e34 := beq_iff_eq.mp h2
     subst e34
     cases al with
     | false => exact qAs (m' := .dq) (qKA cx.w.params none d (lits vs) rest 34) (aCc c8 (aCc c5 (aCc c6 (one c4)))) r ok P hi (qCn rfl) rfl
     | true => exact qAs (m' := .dq) (qKz cx.w.params none d (lits vs) rest 34) (aCc c8 (aCc c5 (aCc c6 (one c4)))) r ok P hi (qCn rfl) rfl
    | false =>
     cases h3 : (c == 92) with
     | true =>
      rw [h1, h2, h3] at c6
      rw [h3] at c4
      have e : qAe ⟨.word, dD al d, xs⟩ c = ⟨.kept, dD al d, xs⟩ := by simp only [qAe, h, h1, h2, h3]; rfl
      rw [e]
      cases al with
      | false => exact qAs (m' := .kept) (qRi cx.w.params none d (lits vs) rest c) (aCc c8 (aCc c5 (aCc c6 (one c4)))) r ok P hi (qAm .kept) rfl
      | true => exact qAs (m' := .kept) (qRh cx.w.params none d (lits vs) rest c) (aCc c8 (aCc c5 (aCc c6 (one c4)))) r ok P hi (qAm .kept) rfl
     | false =>
      rw [h1, h2, h3] at c6
      have e : qAe ⟨.word, dD al d, xs⟩ c = ⟨.word, qAd (dD al d) c, xs⟩ := by simp only [qAe, h, h1, h2, h3]; rfl
      rw [e]
      cases al with
      | false => exact qAH (m' := .word) (qRg cx.w.params none d (lits vs) rest c) (aCc c8 (aCc c5 (aCc c6 (one hc)))) rfl (by decide) r ok P hi (qAm .word)
      | true => exact qAH (m' := .word) (qRf cx.w.params none d (lits vs) rest c) (aCc c8 (aCc c5 (aCc c6 (one hc)))) rfl (by decide) r ok P hi (qAm .word)
end
end
section
noncomputable def eH (al : Bool) (d : Stand) (vs : List AV) : List AO := .std qAc :: .lst vs :: (if al then [] else [.std d])
noncomputable def eK (al : Bool) : Nat := if al then 0 else 2
noncomputable def eLoc (al : Bool) (m : Str) : LV := [(qAp, .obj 0), (qAl, .obj (eK al)), (qAK, .str m), (qAg, .obj 1)]
noncomputable abbrev qTd : List Stmt := bDue.drop 5
noncomputable def eRun (P : Params) (x : OI) (al : Bool) (m : Str) (d : Stand) (vs : List AV) : R Fl := run (KK P) (qNf x) scDue qTd ⟨eLoc al m, eH al d vs, [], []⟩
theorem eSq0 (P : Params) (d : Stand) (vs : List AV) : eRun P none false sSq d vs = some (.ret (.obj 4), ⟨eLoc false sSq, eH false d vs ++ [.lst [], .tup [.obj 3, .str qBI]], [], []⟩, []) := by kernel_rfl
theorem eSq1 (P : Params) (d : Stand) (vs : List AV) : eRun P none true sSq d vs = some (.ret (.obj 3), ⟨eLoc true sSq, eH true d vs ++ [.lst [], .tup [.obj 2, .str qBI]], [], []⟩, []) := by kernel_rfl
theorem eDq0 (P : Params) (d : Stand) (vs : List AV) : eRun P none false sDq d vs = some (.ret (.obj 4), ⟨eLoc false sDq, eH false d vs ++ [.lst [], .tup [.obj 3, .str qBI]], [], []⟩, []) := by kernel_rfl
theorem eDq1 (P : Params) (d : Stand) (vs : List AV) : eRun P none true sDq d vs = some (.ret (.obj 3), ⟨eLoc true sDq, eH true d vs ++ [.lst [], .tup [.obj 2, .str qBI]], [], []⟩, []) := by kernel_rfl
theorem qVk (P : Params) (d : Stand) (vs : List AV) : eRun P none false qEr d vs = some (.ret (.obj 4), ⟨eLoc false qEr, eH false d vs ++ [.lst [], .tup [.obj 3, .str qD5]], [], []⟩, []) := by kernel_rfl
theorem qVj (P : Params) (d : Stand) (vs : List AV) : eRun P none true qEr d vs = some (.ret (.obj 3), ⟨eLoc true qEr, eH true d vs ++ [.lst [], .tup [.obj 2, .str qD5]], [], []⟩, []) := by kernel_rfl
theorem qQb (P : Params) (d : Stand) (vs : List AV) : eRun P none false qBM d vs = some (.ret (.obj 4), ⟨eLoc false qBM, eH false d vs ++ [.lst [], .tup [.obj 3, .str qD5]], [], []⟩, []) := by kernel_rfl
theorem qQa (P : Params) (d : Stand) (vs : List AV) : eRun P none true qBM d vs = some (.ret (.obj 3), ⟨eLoc true qBM, eH true d vs ++ [.lst [], .tup [.obj 2, .str qD5]], [], []⟩, []) := by kernel_rfl
theorem qWQ (P : Params) (d : Stand) (vs : List AV) : eRun P none false sGap d vs = some (.ret (.obj 3), ⟨eLoc false sGap, eH false d vs ++ [.tup [.obj 1, .str ""]], [], []⟩, []) := by kernel_rfl
theorem qWP (P : Params) (d : Stand) (vs : List AV) : eRun P none true sGap d vs = some (.ret (.obj 2), ⟨eLoc true sGap, eH true d vs ++ [.tup [.obj 1, .str ""]], [], []⟩, []) := by kernel_rfl
theorem qS3 (P : Params) (d : Stand) (vs : List AV) : eRun P none false qAU d vs = some (.ret (.obj 3), ⟨eLoc false qAU, (eH false d vs).set 1 (.lst (vs ++ [.none])) ++ [.tup [.obj 1, .str ""]], [], []⟩, [qAC d = none, vs.length < sizeLine]) := by kernel_rfl
theorem qS2 (P : Params) (d : Stand) (vs : List AV) : eRun P none true qAU d vs = some (.ret (.obj 2), ⟨eLoc true qAU, (eH true d vs).set 1 (.lst (vs ++ [.none])) ++ [.tup [.obj 1, .str ""]], [], []⟩, [qAC qAc = none, vs.length < sizeLine]) := by kernel_rfl
theorem qS1 (P : Params) (a b : Int) (d : Stand) (vs : List AV) : eRun P (some (a, b)) false qAU d vs = some (.ret (.obj 4), ⟨eLoc false qAU, (eH false d vs).set 1 (.lst (vs ++ [.obj 3])) ++ [.tup [.int a, .int b], .tup [.obj 1, .str ""]], [], []⟩, [qAC d = some (a, b), vs.length < sizeLine]) := by kernel_rfl
def IsLst (h : Heap) (a : Addr) (vs : List Value) : Prop := ∃ o, h.get? a = some o ∧ o.cls = .type "list" ∧ ∃ n, o.data = .seq vs.toArray n
theorem IsLst.kp {X F : List Addr} {h h' : Heap} {q : Addr} {vs : List Value} (k : Kp X F h h') (n : q ∉ X) (t : IsLst h q vs) : IsLst h' q vs := by
 obtain ⟨o, e, c, n', d⟩ := t
 obtain ⟨sl, e1, _⟩ := k.keep q o e n
 exact ⟨_, e1, c, n', d⟩
structure Told (h₀ h : Heap) (a l : Addr) (vs : List Value) (t : Tok) (r : List OI × Option Bool) : Prop where
 tup : IsTup h a #[.ref l, .str (qBy r.2) t]
 lst : IsLst h l vs
 pl : All2 (qAV h) r.1 vs
 new : h₀.get? a = none ∧ h₀.get? l = none ∧ ∀ q, Value.ref q ∈ vs → h₀.get? q = none
section
variable {cx : Cx} {ρ : Rho} {s : Shared} {A : Around} {E : VP} {al : Bool} {d : Stand} {vs : List Value} {q : Str} {a : Addr} {cd : Value}
abbrev qEp (cx : Cx) (A : Around) (E : VP) (q : Str) (a : Addr) (cd : Value) (x : List OI × Option Bool) (s : Shared) : Prop :=
 wpAny (MM cx.w) A (execs qTd (envOf q scDue cx.L a cd)) (fun f s' => ∃ b l vs t, f = .ret (.ref b) ∧ Told cx.h₀ s'.heap b l vs t x ∧ Kp cx.X cx.F cx.h₀ s'.heap ∧ (s'.gens = cx.g ∧ s'.drawn = cx.dr ∧ s'.os = cx.os) ∧ Kept cx.w s'.heap) E s
noncomputable abbrev qDo (al : Bool) (d : Stand) (m : Str) (vs : List Value) : Sta := ⟨eLoc al m, eH al d (lits vs), [], []⟩
theorem qAX {m : Str} {x : OI} {S' : Sta} {n : Nat} {o : List Prop} {y : List OI × Option Bool} (hrun : eRun cx.w.params x al m d (lits vs) = some (.ret (.obj n), S', o)) (ho : ∀ p ∈ o, p) (r : Rel cx ρ (qDo al d m vs) s) (ok : AOK cx A 3)
  (hQ : ∀ ρ' s' p, ρ'[n]? = some p → Rel (cx.now ρ (qDo al d m vs) s) ρ' S' s' → Rel cx ρ' S' s' → ∃ l vs t, Told cx.h₀ s'.heap p.1 l vs t y) : qEp cx A E q a cd y s := by
 refine wm (qAF (cx := cx.now ρ (qDo al d m vs) s) (q := q) (a := a) (cd := cd) (sc := scDue) (by kernel_rfl) (qNd cx.w x) qTd _ _ _ _ hrun ho A ρ s E (ok.now r) r.now fun _ _ x => x.elim) (fun f s' z => ?_)
 obtain ⟨ρ', p1, ⟨c, rfl, p, e1, rfl⟩, r1⟩ := z
 have r2 := r.later r1
 obtain ⟨l, vs, t, h⟩ := hQ ρ' s' p e1 r1 r2
 exact ⟨p.1, l, vs, t, rfl, h, r2.kp, r2.rest, r2.hr.kept⟩
theorem qCP {m : Str} {S' : Sta} {s' : Shared} {ρ' : Rho} {xs : List OI} (P : PlOk cx.h₀ (cx.L :: feet (eH al d (lits vs)) ρ) s.heap xs vs) (r : Rel (cx.now ρ (qDo al d m vs) s) ρ' S' s') : All2 (qAV s'.heap) xs vs := by
 have k := P.keep r.kp (Y := cx.L :: feet S'.H ρ') fun a ha => by
  rcases lc ha with rfl | ha
  ·exact .inl (.head _)
  ·exact (r.ft a ha).2
 exact k.all
theorem Rel.new0 {S : Sta} (hX : cx.X = []) (r : Rel cx ρ S s) {i : Nat} {o : AO} {p : Addr × Addr} (h1 : S.H[i]? = some o) (h2 : ρ[i]? = some p) : cx.h₀.get? p.1 = none := by
 have : p.1 ∈ foot o p := by cases o <;> simp [foot]
 rcases (r.ft _ (qAo h1 h2 _ this)).2 with z | z
 ·rw [hX] at z; cases z
 ·exact z
theorem tell {S' : Sta} {n k : Nat} {as : List AV} {y : List OI × Option Bool} {p : Addr × Addr} {ws : List Value} (hX : cx.X = []) (r : Rel cx ρ S' s) (hp : ρ[n]? = some p) (h1 : S'.H[n]? = some (.tup [.obj k, .str (qBy y.2)])) (h2 : S'.H[k]? = some (.lst as)) (hw : ∀ us, vrels ρ as us → us = ws)
  (ha : All2 (qAV s.heap) y.1 ws) (hq : ∀ q, Value.ref q ∈ ws → cx.h₀.get? q = none) : ∃ l vs t, Told cx.h₀ s.heap p.1 l vs t y := by
 obtain ⟨us, n1, e1, e2⟩ := r.hr.obj _ _ _ h1 hp
 obtain ⟨p2, hp2, us2, n2, f1, f2⟩ := r.hr.rho h2
 have := hw us2 f2
 subst this
 cases e2 with
 | cons a1 e2 => cases e2 with
  | cons a2 e2 =>
   cases e2
   obtain ⟨p3, z1, rfl⟩ := a1
   rw [hp2] at z1; cases z1
   obtain ⟨t, rfl⟩ := a2
   exact ⟨p2.1, us2, t, ⟨_, e1, rfl, n1, rfl⟩, ⟨_, f1, rfl, n2, rfl⟩, ha, r.new0 hX h1 hp, r.new0 hX h2 hp2, hq⟩
theorem qQf {D : Due} (hX : cx.X = []) (hl : vs.length < sizeLine) (r : Rel cx ρ (qDo al d D.mode.str vs) s) (ok : AOK cx A 3) (hs : D.stand = dD al d) (P : PlOk cx.h₀ (cx.L :: feet (eH al d (lits vs)) ρ) s.heap D.places vs) : qEp cx A E q a cd (qBA D) s := by
 obtain ⟨mode, stand, xs⟩ := D
 dsimp only at hs P r
 subst hs
 have hl' : (lits vs).length < sizeLine := by unfold lits; rw [List.length_map]; exact hl
 have nil : ∀ {ρ : Rho} (us : List Value), vrels ρ [] us → us = [] := fun us h => by cases h; rfl
 have old : ∀ q, Value.ref q ∈ vs → cx.h₀.get? q = none := fun q hq => (P.out q hq).2
 cases mode with
 | sq => cases al with
  | false => exact qAX (y := ([], some true)) (eSq0 cx.w.params d (lits vs)) qAb r ok fun ρ' s' p hp r1 r2 => tell (k := 3) (as := []) hX r2 hp rfl rfl nil .nil fun q hq => nomatch hq
  | true => exact qAX (y := ([], some true)) (eSq1 cx.w.params d (lits vs)) qAb r ok fun ρ' s' p hp r1 r2 => tell (k := 2) (as := []) hX r2 hp rfl rfl nil .nil fun q hq => nomatch hq
 | dq => cases al with
  | false => exact qAX (y := ([], some true)) (eDq0 cx.w.params d (lits vs)) qAb r ok fun ρ' s' p hp r1 r2 => tell (k := 3) (as := []) hX r2 hp rfl rfl nil .nil fun q hq => nomatch hq
  | true => exact qAX (y := ([], some true)) (eDq1 cx.w.params d (lits vs)) qAb r ok fun ρ' s' p hp r1 r2 => tell (k := 2) (as := []) hX r2 hp rfl rfl nil .nil fun q hq => nomatch hq
 | kept => cases al with
  | false => exact qAX (y := ([], some false)) (qVk cx.w.params d (lits vs)) qAb r ok fun ρ' s' p hp r1 r2 => tell (k := 3) (as := []) hX r2 hp rfl rfl nil .nil fun q hq => nomatch hq
  | true => exact qAX (y := ([], some false)) (qVj cx.w.params d (lits vs)) qAb r ok fun ρ' s' p hp r1 r2 => tell (k := 2) (as := []) hX r2 hp rfl rfl nil .nil fun q hq => nomatch hq
 | within => cases al with
  | false => exact qAX (y := ([], some false)) (qQb cx.w.params d (lits vs)) qAb r ok fun ρ' s' p hp r1 r2 => tell (k := 3) (as := []) hX r2 hp rfl rfl nil .nil fun q hq => nomatch hq
  | true => exact qAX (y := ([], some false)) (qQa cx.w.params d (lits vs)) qAb r ok fun ρ' s' p hp r1 r2 => tell (k := 2) (as := []) hX r2 hp rfl rfl nil .nil fun q hq => nomatch hq
 | gap => cases al with
  | false => exact qAX (y := (xs, none)) (qWQ cx.w.params d (lits vs)) qAb r ok fun ρ' s' p hp r1 r2 => tell (k := 1) (as := lits vs) hX r2 hp rfl rfl (fun _ h => qCH h) (qCP P r1) old
  | true => exact qAX (y := (xs, none)) (qWP cx.w.params d (lits vs)) qAb r ok fun ρ' s' p hp r1 r2 => tell (k := 1) (as := lits vs) hX r2 hp rfl rfl (fun _ h => qCH h) (qCP P r1) old
 | word =>
  show qEp cx A E q a cd (xs ++ [qAC (dD al d)], none) s
  have sn : ∀ {ρ : Rho} (us : List Value), vrels ρ (lits vs ++ [.none]) us → us = vs ++ [.none] := fun us h => by
   obtain ⟨v, e1, e2⟩ := qCg h
   rw [e1, show v = .none from e2]
  have old' : ∀ q, Value.ref q ∈ vs ++ [.none] → cx.h₀.get? q = none := fun q hq => by
   rcases List.mem_append.mp hq with hq | hq
   ·exact old q hq
   ·have := ls hq; cases this
  cases hp : qAC (dD al d) with
  | none => cases al with
   | false => exact qAX (y := (xs ++ [none], none)) (qS3 cx.w.params d (lits vs)) (aCc hp (aCc hl' qAb)) r ok fun ρ' s' p hp r1 r2 => tell (k := 1) (as := lits vs ++ [.none]) hX r2 hp rfl rfl sn ((qCP P r1).append (.cons rfl .nil)) old'
   | true => exact qAX (y := (xs ++ [none], none)) (qS2 cx.w.params d (lits vs)) (aCc hp (aCc hl' qAb)) r ok fun ρ' s' p hp r1 r2 => tell (k := 1) (as := lits vs ++ [.none]) hX r2 hp rfl rfl sn ((qCP P r1).append (.cons rfl .nil)) old'
  | some z =>
   obtain ⟨u, v⟩ := z
   cases al with
   | true => cases hp
   | false =>
    refine qAX (y := (xs ++ [some (u, v)], none)) (qS1 cx.w.params u v d (lits vs)) (aCc hp (aCc hl' qAb)) r ok fun ρ' s' p hp r1 r2 => ?_
    have h3 : ((eH false d (lits vs)).set 1 (.lst (lits vs ++ [.obj 3])) ++ [.tup [.int u, .int v], .tup [.obj 1, .str ""]])[3]? = some (.tup [.int u, .int v]) := rfl
    obtain ⟨p3, hp3, us, k, e1, e2⟩ := r2.hr.rho h3
    refine tell (k := 1) (as := lits vs ++ [.obj 3]) (ws := vs ++ [.ref p3.1]) hX r2 hp rfl rfl (fun us h => ?_) ((qCP P r1).append (.cons ?_ .nil)) fun q hq => ?_
    ·obtain ⟨w, e1, p', e2, e3⟩ := qCg h
     rw [hp3] at e2; cases e2
     rw [e1, e3]
    ·cases e2 with
     | cons a1 e2 => cases e2 with
      | cons a2 e2 =>
       cases e2
       obtain ⟨t, rfl⟩ := a1
       obtain ⟨t', rfl⟩ := a2
       exact ⟨p3.1, t, t', rfl, _, e1, rfl, k, rfl⟩
    ·rcases List.mem_append.mp hq with hq | hq
     ·exact old q hq
     ·have := ls hq
      cases this
      exact r2.new0 hX h3 hp3
end
end
section
theorem qNF (D : Due) (c : Nat) : (qAe D c).places.length ≤ D.places.length + 1 := by
 obtain ⟨m, d, xs⟩ := D
 cases m <;> (simp only [qAe]; repeat' split) <;> simp
section
variable {cx : Cx} {ρ : Rho} {s : Shared} {A : Around} {E : VP} {q : Str} {a : Addr} {cd : Value}
def DueJ (cx : Cx) (it : Addr) (T : Due) (N : Nat) (l : List Nat) (s : Shared) : Prop := ∃ D, DueSt cx D l it s ∧ l.foldl qAe D = T ∧ D.places.length + l.length ≤ N ∧ ∀ c ∈ l, c ∈ qAn
theorem qQi {it : Addr} {T : Due} {N : Nat} {c : Nat} {rest : List Nat} (hX : cx.X = []) (hN : N < sizeLine) (ok : AOK cx A 3) (h : DueJ cx it T N (c :: rest) s) :
  wpAny (MM cx.w) A (pyNext (.ref it)) (fun r s1 => ∃ v, r = some v ∧ wpAny (MM cx.w) A (storeName (envOf q scDue cx.L a cd) qAE v) (fun _ s2 => wpAny (MM cx.w) A (execs qJ6 (envOf q scDue cx.L a cd)) (fun f s3 => (f = .next ∨ f = .cont) ∧ DueJ cx it T N rest s3) E s2) E s1) E s := by
 obtain ⟨D, ⟨al, d, vs, ρ, r, hs, P, b, hi⟩, hT, hl, hc⟩ := h
 refine wm (qOW (k := 2) (c := c) (rest := rest) r.now rfl hi) (fun v s1 ⟨t, e, r1⟩ => ⟨_, e, ?_⟩)
 refine wm (qAu (cx := cx.now ρ (qA6 al d D.mode.str vs (c :: rest)) s) (S' := { qA6 al d D.mode.str vs (c :: rest) with H := (qA6 al d D.mode.str vs (c :: rest)).H.set 2 (.sit rest), loc := qBm qAE (.chr c) (dLoc al D.mode.str) }) (w := .chr c) (o := []) (u := ()) (by kernel_rfl) rfl ⟨t, rfl⟩ r1) (fun _ s2 r2 => ?_)
 have r3 : Rel cx ρ (qBt al d D.mode.str vs rest c) s2 := r.later r2
 have P3 : PlOk cx.h₀ (cx.L :: feet (dH al d (lits vs) rest) ρ) s2.heap D.places vs := P.keep r2.kp fun x hx => by
  rcases lc hx with rfl | hx
  ·exact .inl (.head _)
  ·exact (r2.ft x hx).2
 have hv : vs.length = D.places.length := P.all.length.symm
 refine wm (qQc hX (hc c (.head _)) (by rw [hv]; simp at hl; omega) r3 ok hs P3 hi) (fun f s3 z => ⟨z.1, qAe D c, z.2, hT, ?_, fun x hx => hc x (.tail _ hx)⟩)
 have := qNF D c
 simp at hl; omega
theorem qQh {it : Addr} {T : Due} {N : Nat} (hX : cx.X = []) (hN : N < sizeLine) (ok : AOK cx A 3) (h : DueJ cx it T N [] s) :
  wpAny (MM cx.w) A (pyNext (.ref it)) (fun r s1 => r = none ∧ ∀ E q a cd, qEp cx A E q a cd (qBA T) s1) E s := by
 obtain ⟨D, ⟨al, d, vs, ρ, r, hs, P, b, hi⟩, hT, hl, hc⟩ := h
 cases hT
 have h0 : (qA6 al d D.mode.str vs []).H[0]? = some (.std qAc) := rfl
 have h1 : (qA6 al d D.mode.str vs []).H[1]? = some (.lst (lits vs)) := rfl
 have h2 : (qA6 al d D.mode.str vs []).H[2]? = some (.sit []) := rfl
 obtain ⟨p0, q0, o0⟩ := r.hr.rho h0
 obtain ⟨p1, q1, o1⟩ := r.hr.rho h1
 have hv : vs.length = D.places.length := P.all.length.symm
 have lst : ∀ ρ', ORel ρ (.lst (lits vs)) p1 s.heap → ORel ρ' (.lst (lits vs)) p1 s.heap := by
  rintro ρ' ⟨ws, n, e1, e2⟩
  have := qCH e2
  subst this
  exact ⟨ws, n, e1, qHh _ _⟩
 have fin : ∀ {sel : List Nat} (Pk : Pick ρ (qA6 al d D.mode.str vs []).H (eH al d (lits vs)) sel s.heap) (hn : 2 ∉ sel) (rr : Rel (cx.now ρ (qA6 al d D.mode.str vs []) s) (qBB ρ sel) (qDo al d D.mode.str vs) s),
   wpAny (MM cx.w) A (pyNext (.ref it)) (fun r s1 => r = none ∧ ∀ E q a cd, qEp cx A E q a cd (qBA D) s1) E s := by
  intro sel Pk hn rr
  refine wm (qPp (cx := cx.now ρ (qA6 al d D.mode.str vs []) s) (p := (it, b)) r.now h2 hi ok.room.2 rr (Pk.apart r.hr h2 hi (by simp [foot]) hn)) (fun v s1 ⟨e, r1⟩ => ⟨e, fun E q a cd => ?_⟩)
  have r2 := r.later r1
  refine qQf hX (by rw [hv]; simp at hl; omega) r2 ok hs (P.keep r1.kp fun x hx => ?_)
  rcases lc hx with rfl | hx
  ·exact .inl (.head _)
  ·exact (r1.ft x hx).2
 cases al with
 | true =>
  have Pk : Pick ρ (qA6 true d D.mode.str vs []).H (eH true d (lits vs)) [0, 1] s.heap := .all (by decide) (.cons ⟨_, _, h0, q0, rfl, fun r ρ' => qCE r ρ'⟩ (.cons ⟨_, _, h1, q1, rfl, fun r ρ' => lst ρ' r⟩ .nil))
  refine fin Pk (by decide) (r.now.re (S' := qDo true d D.mode.str vs) (r.hr.pick Pk) Pk.feet fun x a' e => ?_)
  have g0 : (qBB ρ [0, 1])[0]? = some p0 := qAQ (i := 0) rfl q0
  have g1 : (qBB ρ [0, 1])[1]? = some p1 := qAQ (i := 1) rfl q1
  have e := qA5 e
  simp only [eLoc, eK] at e
  rcases lc e with e | e
  ·cases e; exact ⟨_, rfl, fun v ⟨p, z, y⟩ => ⟨p, by rw [q0] at z; cases z; exact g0, y⟩⟩
  rcases lc e with e | e
  ·cases e; exact ⟨_, rfl, fun v ⟨p, z, y⟩ => ⟨p, by rw [show ρ[dK true]? = some p0 from q0] at z; cases z; exact g0, y⟩⟩
  rcases lc e with e | e
  ·cases e; exact ⟨_, rfl, fun v z => z⟩
  rcases lc e with e | e
  ·cases e; exact ⟨_, rfl, fun v ⟨p, z, y⟩ => ⟨p, by rw [q1] at z; cases z; exact g1, y⟩⟩
  ·cases e
 | false =>
  have h3 : (qA6 false d D.mode.str vs []).H[3]? = some (.std d) := rfl
  obtain ⟨p3, q3, o3⟩ := r.hr.rho h3
  have Pk : Pick ρ (qA6 false d D.mode.str vs []).H (eH false d (lits vs)) [0, 1, 3] s.heap := .all (by decide) (.cons ⟨_, _, h0, q0, rfl, fun r ρ' => qCE r ρ'⟩ (.cons ⟨_, _, h1, q1, rfl, fun r ρ' => lst ρ' r⟩ (.cons ⟨_, _, h3, q3, rfl, fun r ρ' => qCE r ρ'⟩ .nil)))
  refine fin Pk (by decide) (r.now.re (S' := qDo false d D.mode.str vs) (r.hr.pick Pk) Pk.feet fun x a' e => ?_)
  have g0 : (qBB ρ [0, 1, 3])[0]? = some p0 := qAQ (i := 0) rfl q0
  have g1 : (qBB ρ [0, 1, 3])[1]? = some p1 := qAQ (i := 1) rfl q1
  have g3 : (qBB ρ [0, 1, 3])[2]? = some p3 := qAQ (i := 3) rfl q3
  have e := qA5 e
  simp only [eLoc, eK] at e
  rcases lc e with e | e
  ·cases e; exact ⟨_, rfl, fun v ⟨p, z, y⟩ => ⟨p, by rw [q0] at z; cases z; exact g0, y⟩⟩
  rcases lc e with e | e
  ·cases e; exact ⟨_, rfl, fun v ⟨p, z, y⟩ => ⟨p, by rw [show ρ[dK false]? = some p3 from q3] at z; cases z; exact g3, y⟩⟩
  rcases lc e with e | e
  ·cases e; exact ⟨_, rfl, fun v z => z⟩
  rcases lc e with e | e
  ·cases e; exact ⟨_, rfl, fun v ⟨p, z, y⟩ => ⟨p, by rw [q1] at z; cases z; exact g1, y⟩⟩
  ·cases e
end
end
noncomputable abbrev cxIn (w : World) (A : Around) (s : Shared) (H : List AO) (ρ : Rho) : Cx := ⟨w, s.heap.objs.size, s.heap, feet H ρ, qAa A, s.gens, s.drawn, s.os⟩
noncomputable abbrev endF (R : RP) : FP := fun fl s' => R (.ok (.ret (match fl with | .ret v => v | _ => .none))) s'
abbrev qMd (w : World) (A : Around) (R : RP) (env : Env) (e : Value) (s' : Shared) : Prop := wpAny (MM w) (A.deeper env) (leaving env e) (fun _ s'' => R (.error e) s'') (fun e' s'' => R (.error e') s'') s'
theorem qGg {w : World} {f : Addr} {fd : FuncData} {body : List Stmt} {params : List Str} {d : Nat} (F : FnFacts w f fd body params) {A : Around} {s : Shared} {ρ : Rho} {H : List AO} {args : List AV} {vals : List Value} {cargs : Args} {R : RP}
  (rm : Room A (d + 2)) (hr : HR w ρ H s.heap) (hF : ∀ a ∈ qAa A, (∃ ob, s.heap.get? a = some ob) ∧ a ∉ feet H ρ) (ra : vrels ρ args vals) (hl : args.length = params.length) (hbd : BindsTo s fd cargs (params.zip vals))
  (hb : ∀ s1, Rel (cxIn w A s H ρ) ρ ⟨params.zip args, H, [], []⟩ s1 → AOK (cxIn w A s H ρ) (A.deeper (envOf fd.qualname fd.scope s.heap.objs.size f fd.code)) (d + 1) →
   wpAny (MM w) (A.deeper (envOf fd.qualname fd.scope s.heap.objs.size f fd.code)) (execs body (envOf fd.qualname fd.scope s.heap.objs.size f fd.code)) (endF R) (qMd w A R (envOf fd.qualname fd.scope s.heap.objs.size f fd.code)) s1) :
  codeAny (MM w) A (.call (.ref f) cargs) R s := by
 obtain ⟨oc, od, sl, hat⟩ := F.at_
 have X := hr.kept.kk
 have hv : vals.length = params.length := by rw [← hl]; exact ra.length.symm
 refine codeAny_call_def (fd := fd) (binds := params.zip vals) (by have := rm.1.1; show A.depth < 1000; omega) (X _ _ hat) rfl (qD4 hr.kept) (codeRec_of X F.code) F.body hbd F.cell (fun x hx => ?_) (fun h1 hns hk => ?_) F.co F.gen F.kind
 ·have : x.1 ∈ params := by rw [← qDz (α := Value) hv.symm]; exact List.mem_map_of_mem (f := (·.1)) hx
  exact F.loc _ this
 ·rw [qDe F.glob F.bi F.clo]
  exact hb _ (Rel.enter (A := A) (orc := []) (ori := []) (tk := s.toks + (params.zip vals).length) hr ra hl F.nod hns hk) (AOK.enter rm hF rfl)
theorem qIz {w : World} {f : Addr} {fd : FuncData} {body : List Stmt} {params : List Str} {d : Nat} (F : FnFacts w f fd body params) {A : Around} {s : Shared} {ρ : Rho} {H : List AO} {args : List AV} {vals : List Value} {cargs : Args} {R : RP}
  (rm : Room A (d + 2)) (hr : HR w ρ H s.heap) (hF : ∀ a ∈ qAa A, (∃ ob, s.heap.get? a = some ob) ∧ a ∉ feet H ρ) (ra : vrels ρ args vals) (hl : args.length = params.length) (hbd : BindsTo s fd cargs (params.zip vals))
  (hb : ∀ (s1 : Shared) (E' : VP), (∀ e s', qMd w A R (envOf fd.qualname fd.scope s.heap.objs.size f fd.code) e s' → E' e s') → Rel (cxIn w A s H ρ) ρ ⟨params.zip args, H, [], []⟩ s1 → AOK (cxIn w A s H ρ) (A.deeper (envOf fd.qualname fd.scope s.heap.objs.size f fd.code)) (d + 1) →
   wpAny (MM w) (A.deeper (envOf fd.qualname fd.scope s.heap.objs.size f fd.code)) (execs body (envOf fd.qualname fd.scope s.heap.objs.size f fd.code)) (endF R) E' s1) :
  codeAny (MM w) A (.call (.ref f) cargs) R s := qGg F rm hr hF ra hl hbd fun s1 => hb s1 _ fun _ _ h => h
theorem qPR {w : World} {f : Addr} {fd : FuncData} {body : List Stmt} {params : List Str} {d : Nat} (F : FnFacts w f fd body params) {A : Around} {s : Shared} {ρ : Rho} {H : List AO} {args : List AV} {vals : List Value} {R : RP}
  (rm : Room A (d + 2)) (hr : HR w ρ H s.heap) (hF : ∀ a ∈ qAa A, (∃ ob, s.heap.get? a = some ob) ∧ a ∉ feet H ρ) (ra : vrels ρ args vals) (hl : args.length = params.length)
  (hb : ∀ s1, Rel (cxIn w A s H ρ) ρ ⟨params.zip args, H, [], []⟩ s1 → AOK (cxIn w A s H ρ) (A.deeper (envOf fd.qualname fd.scope s.heap.objs.size f fd.code)) (d + 1) →
   wpAny (MM w) (A.deeper (envOf fd.qualname fd.scope s.heap.objs.size f fd.code)) (execs body (envOf fd.qualname fd.scope s.heap.objs.size f fd.code)) (endF R) (qMd w A R (envOf fd.qualname fd.scope s.heap.objs.size f fd.code)) s1) :
  codeAny (MM w) A (.call (.ref f) ⟨vals, []⟩) R s := qGg F rm hr hF ra hl (F.bind s vals hr.kept (by rw [← hl]; exact ra.length.symm)) hb
theorem qBl {w : World} {f : Addr} {fd : FuncData} {body : List Stmt} {params : List Str} {d : Nat} (F : FnFacts w f fd body params) {A : Around} {s : Shared} {ρ : Rho} {H : List AO} {args : List AV} {vals : List Value} {R : RP}
  (rm : Room A (d + 2)) (hr : HR w ρ H s.heap) (hF : ∀ a ∈ qAa A, (∃ ob, s.heap.get? a = some ob) ∧ a ∉ feet H ρ) (ra : vrels ρ args vals) (hl : args.length = params.length)
  (hb : ∀ (s1 : Shared) (E' : VP), (∀ e s', qMd w A R (envOf fd.qualname fd.scope s.heap.objs.size f fd.code) e s' → E' e s') → Rel (cxIn w A s H ρ) ρ ⟨params.zip args, H, [], []⟩ s1 → AOK (cxIn w A s H ρ) (A.deeper (envOf fd.qualname fd.scope s.heap.objs.size f fd.code)) (d + 1) →
   wpAny (MM w) (A.deeper (envOf fd.qualname fd.scope s.heap.objs.size f fd.code)) (execs body (envOf fd.qualname fd.scope s.heap.objs.size f fd.code)) (endF R) E' s1) :
  codeAny (MM w) A (.call (.ref f) ⟨vals, []⟩) R s := qIz F rm hr hF ra hl (F.bind s vals hr.kept (by rw [← hl]; exact ra.length.symm)) hb
theorem HR.nil {w : World} {h : Heap} (k : Kept w h) : HR w [] [] h := ⟨k, rfl, fun i o p h => by simp at h, fun i o p h => by simp at h, fun i j oi oj pi pj h => by simp at h, fun a ha => nomatch ha⟩
theorem qOl (P : Params) : (qVh P).scope = scDue := by kernel_rfl
theorem qQd (P : Params) (x : Str) (S : Sta) (h : S.loc.lookup qFA = some (.str x)) : qAi (KK P) scDue qFA S = some (.str x, S, []) := by
 unfold qAi
 rw [if_neg (by decide), show scDue.names.lookup qFA = some .local by kernel_rfl]
 show ((S.loc.lookup qFA).bind fun v => rt v S) = _
 rw [h]; rfl
theorem qQz {x : Str} (h : ∀ c ∈ x.cps.toList, c ∈ qAn) : x.cps.all (· < 128) = true := by
 have : ∀ c ∈ qAn, c < 128 := by decide
 rw [Array.all_eq_true']
 intro c hc
 simpa using this c (h c (by simpa using hc))
theorem qIH {w : World} {A : Around} {s : Shared} {x : Str} {t : Tok} (rm : Room A 4) (k : Kept w s.heap) (hF : ∀ a ∈ qAa A, ∃ ob, s.heap.get? a = some ob) (hx : ∀ c ∈ x.cps.toList, c ∈ qAn) (hl : x.cps.toList.length < sizeLine) {Q E : VP}
  (hQ : ∀ b l vs u s', Told s.heap s'.heap b l vs u (dueF x.cps.toList) → Kp [] (qAa A) s.heap s'.heap → s'.gens = s.gens ∧ s'.drawn = s.drawn ∧ s'.os = s.os → Kept w s'.heap → Q (.ref b) s') :
  codeAny (MM w) A (.call (.ref 794) ⟨[.str x t], []⟩) (back Q E) s := by
 refine qBl (d := 2) (ρ := []) (H := []) (args := [.str x]) (qMZ w) rm (HR.nil k) (fun a ha => ⟨hF a ha, nofun⟩) (.cons ⟨t, rfl⟩ .nil) rfl fun s1 E' hL r ok => ?_
 rw [qOl] at ok ⊢
 rw [qM3]
 refine qBz (wm (qAF (cx := cxIn w A s [] []) (sc := scDue) (by kernel_rfl) (qNd w none) (bDue.take 4) _ _ _ _ (qS4 w.params x) qAb _ _ _ _ ok r fun _ _ x => x.elim) (fun f s2 z => ?_))
 obtain ⟨ρ1, p1, e1, r1⟩ := z
 cases e1
 dsimp only
 refine wpAny_execs_cons (wpAny_For (wm (qAD (cx := cxIn w A s [] []) (sc := scDue) (by kernel_rfl) (qQd w.params x _ rfl) r1) (fun v s3 zz => ?_)))
 obtain ⟨ρ2, p2, v2, r2⟩ := zz
 refine wm (qPx r2 v2 (qQz hx)) (fun it s4 zz => ?_)
 obtain ⟨ρ3, p3, ⟨p, hp, e⟩, r3⟩ := zz
 subst e
 have r4 : Rel (cxIn w A s [] []) ρ3 (qA6 true qAc sGap [] x.cps.toList) s4 := by
  have V : View [.tup (encS qAc), .lst [], .sit x.cps.toList] (dH true qAc [] x.cps.toList) := ⟨rfl, fun i o h => by
   match i, h with
   | 0, h => cases h; exact ⟨_, rfl, fun _ => rfl, fun _ _ _ z => z⟩
   | 1, h => cases h; exact ⟨_, rfl, fun _ => rfl, fun _ _ _ z => z⟩
   | 2, h => cases h; exact ⟨_, rfl, fun _ => rfl, fun _ _ _ z => z⟩
   | n + 3, h => cases h⟩
  refine r3.re (S' := qA6 true qAc sGap [] x.cps.toList) (r3.hr.view V) V.feet fun y a' e => ?_
  have e := qA5 e
  simp only [qA6, dLoc, dK] at e
  rcases lc e with e | e
  ·cases e; exact ⟨_, rfl, fun v z => z⟩
  rcases lc e with e | e
  ·cases e; exact ⟨_, rfl, fun v z => z⟩
  rcases lc e with e | e
  ·cases e; exact ⟨_, rfl, fun v z => z⟩
  rcases lc e with e | e
  ·cases e; exact ⟨_, rfl, fun v z => z⟩
  ·cases e
 refine qFl (DueJ (cxIn w A s [] []) p.1 (x.cps.toList.foldl qAe ⟨.gap, qAc, []⟩) x.cps.toList.length) (fun c rest s5 h E => qQi rfl hl ok h) (fun s5 h E => ?_) x.cps.toList ⟨⟨.gap, qAc, []⟩, ⟨true, qAc, [], ρ3, r4, rfl, ⟨.nil, fun q hq => nomatch hq⟩, p.2, hp⟩, rfl, by simp, hx⟩
 refine wm (qQh rfl hl ok h) (fun v s6 ⟨e, z⟩ => ⟨e, ?_⟩)
 refine wm (z _ _ _ _) (fun f s7 z => ?_)
 obtain ⟨b, l, vs, t, rfl, z1, z2, z3, z4⟩ := z
 exact hQ b l vs t s7 z1 z2 z3 z4
noncomputable abbrev xN : Str := "n"
noncomputable abbrev qTe : Str := "what"
noncomputable abbrev qAB : Str := "self"
noncomputable abbrev qGF : Str := "size"
noncomputable abbrev xS : Str := "s"
noncomputable abbrev qNz : Str := "initial_value"
noncomputable abbrev qNx : Str := "newline"
noncomputable abbrev qSV (P : Params) : FuncData := fdOf (o70 P)
noncomputable abbrev qQ4 : List Stmt := qBh (F1 6)
noncomputable abbrev qRA : Scope := qAM (F1 6)
theorem qHw (w : World) : FnFacts w 70 (qSV w.params) qQ4 [xN, qTe] :=
 .of2 (by kernel_rfl) (by kernel_rfl) (by kernel_rfl) fun _ _ => by kernel_rfl
noncomputable abbrev qSW (P : Params) : FuncData := fdOf (o388 P)
noncomputable abbrev qQ5 : List Stmt := qBh (F2 12 3)
noncomputable abbrev qRB : Scope := qAM (F2 12 3)
theorem qHx (w : World) : FnFacts w 388 (qSW w.params) qQ5 [qAB] :=
 .of1 (by kernel_rfl) (by kernel_rfl) (by kernel_rfl) fun _ => by kernel_rfl
noncomputable abbrev qSS (P : Params) : FuncData := fdOf (o381 P)
noncomputable abbrev qQ2 : List Stmt := qBh (F2 12 2)
noncomputable abbrev qRu : Scope := qAM (F2 12 2)
theorem qHt (w : World) : FnFacts w 381 (qSS w.params) qQ2 [qAB, xS] :=
 .of2 (by kernel_rfl) (by kernel_rfl) (by kernel_rfl) fun _ _ => by kernel_rfl
noncomputable abbrev qQW (P : Params) : FuncData := fdOf (o550 P)
noncomputable abbrev qJ7 : List Stmt := qBh (F2 12 25)
noncomputable abbrev qFU : Scope := qAM (F2 12 25)
theorem qJ4 {w : World} {s : Shared} (k : Kept w s.heap) (v x : Value) : BindsTo s (qQW w.params) ⟨[v, x], []⟩ [(qAB, v), (qGF, x)] :=
 qEm (o := o543 w.params) (items := #[.int (-1) 959]) (n := 0) k rfl (by kernel_rfl) rfl rfl (by kernel_rfl)
theorem qJS (w : World) : FnFacts w 550 (qQW w.params) qJ7 [qAB, qGF] :=
 .of (by kernel_rfl) (by kernel_rfl) (by kernel_rfl) fun _ k => len2 (qJ4 k)
noncomputable abbrev qST (P : Params) : FuncData := fdOf (o374 P)
noncomputable abbrev bSio : List Stmt := qBh (F2 12 1)
noncomputable abbrev qVO : Scope := qAM (F2 12 1)
theorem qNn {w : World} {s : Shared} (k : Kept w s.heap) (v x : Value) : ∃ t, BindsTo s (qST w.params) ⟨[v, x], []⟩ [(qAB, v), (qNz, x), (qNx, .str (Str.ofString "\n") t)] :=
 ⟨767, qEm (o := o367 w.params) (items := #[.str (Str.ofString "") 766, .str (Str.ofString "\n") 767]) (n := 0) k rfl (by kernel_rfl) rfl rfl (by kernel_rfl)⟩
theorem qJ3 {w : World} {s : Shared} (k : Kept w s.heap) (v x y : Value) : BindsTo s (qST w.params) ⟨[v, x, y], []⟩ [(qAB, v), (qNz, x), (qNx, y)] :=
 qEm (o := o367 w.params) (items := #[.str (Str.ofString "") 766, .str (Str.ofString "\n") 767]) (n := 0) k rfl (by kernel_rfl) rfl rfl (by kernel_rfl)
theorem qMS (w : World) : FnFacts w 374 (qST w.params) bSio [qAB, qNz, qNx] :=
 .of (by kernel_rfl) (by kernel_rfl) (by kernel_rfl) fun _ k => len3 (qJ3 k)
noncomputable abbrev qKT (P : Params) : Spec := qBb (KK P) cs0 qRA qQ4 [xN, qTe] [] []
noncomputable abbrev qKU (P : Params) : Spec := qBb (KK P) cs0 qRB qQ5 [qAB] [] []
noncomputable abbrev qKR (P : Params) : Spec := qBb (KK P) cs0 qRu qQ2 [qAB, xS] [] []
theorem qPS (w : World) : Fn w 70 2 (qKT w.params) := qDn (qHw w) (by kernel_rfl) (csv0 w 0)
theorem qPT (w : World) : Fn w 388 2 (qKU w.params) := qDn (qHx w) (by kernel_rfl) (csv0 w 0)
theorem qPP (w : World) : Fn w 381 2 (qKR w.params) := qDn (qHt w) (by kernel_rfl) (csv0 w 0)
noncomputable def qGr (P : Params) : Cs := fun a => if a = 70 then some (qKT P) else if a = 388 then some (qKU P) else if a = 381 then some (qKR P) else none
theorem qQZ (w : World) : Csv w (qGr w.params) 2 := by
 intro f sp h
 unfold qGr at h
 split at h
 ·rename_i e; cases h; rw [e]; exact qPS w
 split at h
 ·rename_i e; cases h; rw [e]; exact qPT w
 split at h
 ·rename_i e; cases h; rw [e]; exact qPP w
 ·cases h
theorem qOA (P : Params) (x : Str) : qBb (KK P) (qGr P) qVO bSio [qAB, qNz, qNx] [] [] [.obj 0, .str x, .str (Str.ofString "\n")] [.inst 604 []] = some (.none, [.inst 604 (qBV x 0)], []) := by kernel_rfl
theorem qLj (P : Params) (x : Str) (k : Nat) : qBb (KK P) (qGr P) qFU qJ7 [qAB, qGF] [] [true] [.obj 0, .int 1] [.inst 604 (qBV x k)] = some (.str "", [.inst 604 (qBV x k)], [x.length ≤ sizeLine, decide ((k : Int) ≥ x.length) = true]) := by kernel_rfl
theorem qLi (P : Params) (x : Str) (k : Nat) : qBb (KK P) (qGr P) qFU qJ7 [qAB, qGF] [] [false, true, true] [.obj 0, .int 1] [.inst 604 (qBV x k)] = some (.str (Txt.slice x (some k) (some (k + 1))), [.inst 604 [(sNl, .str (Str.ofString "\n")), (sBuf, .str x), (sPos, .int (k + 1))]], [x.length ≤ sizeLine, decide ((k : Int) ≥ x.length) = false, decide ((1 : Int) ≥ 0) = true, decide ((k : Int) + 1 < x.length) = true, x.length ≤ sizeLine]) := by kernel_rfl
theorem qLh (P : Params) (x : Str) (k : Nat) : qBb (KK P) (qGr P) qFU qJ7 [qAB, qGF] [] [false, true, false] [.obj 0, .int 1] [.inst 604 (qBV x k)] = some (.str (Txt.slice x (some k) (some x.length)), [.inst 604 [(sNl, .str (Str.ofString "\n")), (sBuf, .str x), (sPos, .int x.length)]], [x.length ≤ sizeLine, decide ((k : Int) ≥ x.length) = false, decide ((1 : Int) ≥ 0) = true, decide ((k : Int) + 1 < x.length) = false, x.length ≤ sizeLine]) := by kernel_rfl
theorem View.set2 {H : List AO} {i : Nat} {o1 o2 : AO} (hf : ∀ p, foot o2 p = foot o1 p) (hr : ∀ ρ p h, ORel ρ o1 p h → ORel ρ o2 p h) : View (H.set i o1) (H.set i o2) := by
 refine ⟨by simp, fun j q h => ?_⟩
 rw [List.getElem?_set] at h
 split at h
 ·rename_i e
  subst e
  split at h
  ·rename_i hl
   cases h
   exact ⟨o1, List.getElem?_set_self hl, hf, hr⟩
  ·cases h
 ·rename_i e
  exact ⟨q, by rw [List.getElem?_set_ne e]; exact h, fun _ => rfl, fun _ _ _ x => x⟩
theorem Fn.frame1 {w : World} {f : Addr} {d : Nat} {sp : Spec} (fn : Fn w f d sp) {A : Around} {s : Shared} {ρ : Rho} {H : List AO} {i : Nat} {o o0 o1 o2 : AO} {p : Addr × Addr} {args0 : List AV} {r0 : AV} {ob : List Prop} {vals : List Value}
  (r : HR w ρ H s.heap) (hF : ∀ a ∈ qAa A, (∃ ob, s.heap.get? a = some ob) ∧ a ∉ feet H ρ) (rm : Room A d) (hi : H[i]? = some o) (hp : ρ[i]? = some p) (hf : ∀ p, foot o0 p = foot o p) (h0 : ORel [p] o0 p s.heap) (hsp : sp args0 [o0] = some (r0, [o1], ob)) (ho : ∀ p ∈ ob, p) (ra : vrels [p] args0 vals)
  (hf2 : ∀ p, foot o2 p = foot o1 p) (hv : ∀ ρ p h, ORel ρ o1 p h → ORel ρ o2 p h) (hren : ∀ g, qD0 g o1 = o1)
  {Q E : VP} (hQ : ∀ v s' ρ', ρ <+: ρ' → vrel ρ' (qC2 (qCb [i] H.length) r0) v → HR w ρ' (H.set i o2) s'.heap → Kp (feet H ρ) (qAa A) s.heap s'.heap → (∀ a ∈ feet (H.set i o2) ρ', a ∈ feet H ρ ∨ s.heap.get? a = none) →
   s'.gens = s.gens ∧ s'.drawn = s.drawn ∧ s'.os = s.os → Q v s') : codeAny (model pw w) A (.call (.ref f) ⟨vals, []⟩) (back Q E) s := by
 refine fn.frame r hF rm (r.one (o0 := o0) hi hp (hf p) h0) (Sel.one hi hp hf) hsp ho ra fun v s' ρ' p1 v1 r1 k1 f1 e1 => ?_
 have el : qCa H [i] [o1] = H.set i o1 := by
  unfold qCa
  simp [qA7, hren]
 rw [el] at r1 f1
 have V : View (H.set i o1) (H.set i o2) := View.set2 hf2 hv
 exact hQ v s' ρ' p1 v1 (r1.view V) k1 (fun a ha => f1 a (V.feet a ha)) e1
theorem qGW (x : Str) {a b : Nat} (hab : a ≤ b) (hb : b ≤ x.length) : (Txt.slice x (some (a : Int)) (some (b : Int))).cps.toList = (x.cps.toList.drop a).take (b - a) := by
 have z := StrLaws.sliced_plain x hab hb
 have l1 := StrLaws.strSliceIndices_plain hab hb
 have hl : x.cps.toList.length = x.length := by simp [Str.length]
 unfold Txt.slice
 split
 ·rename_i h
  simp only [beq_self_eq_true, Bool.true_and, beq_iff_eq] at h
  rw [l1, List.length_map, List.length_range] at h
  have ha : a = 0 := by omega
  subst ha
  rw [List.drop_zero, List.take_of_length_le (by omega)]
 ·simpa using z
theorem Str.ext' {x y : Str} (h : x.cps.toList = y.cps.toList) : x = y := by
 obtain ⟨a⟩ := x
 obtain ⟨b⟩ := y
 exact congrArg Str.mk (Array.toList_inj.mp h)
theorem qH7 {x : Str} {k : Nat} {c : Nat} {r : List Nat} (h : x.cps.toList.drop k = c :: r) (hk : k + 1 ≤ x.length) : Txt.slice x (some (k : Int)) (some ((k + 1 : Nat) : Int)) = ch c := by
 refine Str.ext' ?_
 rw [qGW x (Nat.le_succ k) hk, h]
 simp [ch]
theorem qTB {x : Str} {k c : Nat} {r : List Nat} (h : x.cps.toList.drop k = c :: r) : k < x.length ∧ x.cps.toList.drop (k + 1) = r := by
 have hl : x.cps.toList.length = x.length := by simp [Str.length]
 refine ⟨Nat.lt_of_not_le fun q => ?_, ?_⟩
 ·rw [List.drop_eq_nil_of_le (by omega)] at h; cases h
 ·have := congrArg List.tail h
  rwa [List.tail_drop] at this
noncomputable def qH6 : Spec := fun args H => match args with
 | [.obj i, .int n] => if n = 1 then (match H[i]? with
  | some (.sio (c :: r)) => some (.chr c, H.set i (.sio r), [])
  | some (.sio []) => some (.str "", H, [])
  | _ => none) else none
 | _ => none
noncomputable def qVZ (H : List AO) (i : Nat) : List Nat → AV × List AO × List Prop
 | c :: r => (.chr c, H.set i (.sio r), [])
 | [] => (.str "", H, [])
theorem qJb {args : List AV} {H : List AO} {z : AV × List AO × List Prop} (h : qH6 args H = some z) : ∃ i rest, args = [.obj i, .int 1] ∧ H[i]? = some (.sio rest) ∧ qVZ H i rest = z := by
 unfold qH6 at h
 split at h
 ·rename_i i n
  refine itT h fun hn h => ?_
  rw [hn]
  split at h
  ·rename_i c r hi; exact ⟨i, _, rfl, hi, Option.some.inj h⟩
  ·rename_i hi; exact ⟨i, _, rfl, hi, Option.some.inj h⟩
  ·exact nos h
 ·exact nos h
theorem qN8 {ρ : Rho} {x : Str} {k : Nat} {p : Addr × Addr} {h : Heap} (hI : instRel ρ sioA (qBV x k) p h) : ORel [p] (.inst 604 (qBV x k)) p h := by
 refine oz02 hI fun h1 z => oz22 z fun es m h2 hes => ⟨h1, es, m, h2, ?_⟩
 cases hes with | cons a1 hes => cases hes with | cons a2 hes => cases hes with | cons a3 hes =>
  cases hes
  exact .cons ⟨a1.1, a1.2⟩ (.cons ⟨a2.1, a2.2⟩ (.cons ⟨a3.1, a3.2⟩ .nil))
theorem qE1 {w : World} {A : Around} {s : Shared} {ρ : Rho} {H : List AO} {i k k' : Nat} {rest rest' : List Nat} {x : Str} {p : Addr × Addr} {v2 : Value} {r0 : AV} {orc ori : List Bool} {ob : List Prop} {Q E : VP} (rm : Room A 4) (hr : HR w ρ H s.heap) (hF : ∀ a ∈ qAa A, (∃ ob, s.heap.get? a = some ob) ∧ a ∉ feet H ρ)
  (hi : H[i]? = some (.sio rest)) (hp : ρ[i]? = some p) (r2 : vrel ρ (.int 1) v2) (hI : instRel ρ sioA (qBV x k) p s.heap) (hz : x.length ≤ 100000) (hk' : k' ≤ x.length) (hd' : x.cps.toList.drop k' = rest')
  (hrun : qBb (KK w.params) (qGr w.params) qFU qJ7 [qAB, qGF] orc ori [.obj 0, .int 1] [.inst 604 (qBV x k)] = some (r0, [.inst 604 (qBV x k')], ob)) (ho : ∀ p ∈ ob, p)
  (hQ : ∀ v s' ρ', ρ <+: ρ' → vrel ρ' (qC2 (qCb [i] H.length) r0) v → HR w ρ' (H.set i (.sio rest')) s'.heap → Kp (feet H ρ) (qAa A) s.heap s'.heap → (∀ a ∈ feet (H.set i (.sio rest')) ρ', a ∈ feet H ρ ∨ s.heap.get? a = none) → s'.gens = s.gens ∧ s'.drawn = s.drawn ∧ s'.os = s.os → Q v s') :
  codeAny (model pw w) A (.call (.ref 550) ⟨[.ref p.1, v2], []⟩) (back Q E) s :=
 Fn.frame1 (qDn (qJS w) (by kernel_rfl) (qQZ w) : Fn w 550 4 (qBb (KK w.params) (qGr w.params) qFU qJ7 [qAB, qGF] orc ori)) (o0 := .inst 604 (qBV x k)) (o1 := .inst 604 (qBV x k')) (o2 := .sio rest') hr hF rm hi hp (fun _ => rfl) (qN8 hI) hrun ho (show vrels [p] [.obj 0, .int 1] [.ref p.1, v2] from .cons ⟨p, rfl, rfl⟩ (.cons r2 .nil)) (fun _ => rfl)
  (fun ρ p h q => ⟨x, _, q, hk', hz, hd'⟩) (fun _ => rfl) hQ
theorem qN9 {α : Type} {l : List α} {i : Nat} {a : α} (h : l[i]? = some a) : l.set i a = l := List.ext_getElem? fun j => by
 rw [List.getElem?_set]
 split
 ·rename_i e
  rw [← e, if_pos (List.getElem?_eq_some_iff.mp h).1, h]
 ·rfl
theorem qPQ (w : World) : Fn w 550 4 qH6 := by
 intro A s ρ H args r H' ob vals h ho rm hr hF ra Q E hQ
 refine oz23 (qJb h) fun i rest ea hi ez => ?_
 subst ea
 cases ra with
 | cons r1 r2 => cases r2 with
  | @cons _ v2 _ _ r2 r3 =>
   cases r3
   refine oz12 r1 fun p hp e => ?_
   subst e
   refine oz24 (hr.obj _ _ _ hi hp) fun x k hI hk hz hd => ?_
   have hzz : x.length ≤ sizeLine := Nat.le_trans hz (by rw [sizeLine_eq]; decide)
   clear h
   cases rest with
   | nil =>
    have hkl : x.length ≤ k := by
     have := List.drop_eq_nil_iff.mp hd
     simpa [Str.length] using this
    refine qE1 rm hr hF hi hp r2 hI hz hk hd (qLj w.params x k) (aCc hzz (aCc (decide_eq_true (by omega)) qAb)) fun v s' ρ' p1 v1 q1 k1 f1 e1 => ?_
    rw [qN9 hi] at q1 f1
    cases ez
    exact hQ v s' ρ' p1 v1 q1 k1 f1 e1
   | cons c rest =>
    refine oz02 (qTB hd) fun hlt hd1 => ?_
    by_cases hb : k + 1 < x.length
    ·refine qE1 rm hr hF hi hp r2 hI hz (Nat.le_of_lt hb) hd1 (qLi w.params x k) (aCc hzz (aCc (decide_eq_false (by omega)) (aCc (by decide) (aCc (decide_eq_true (by omega)) (aCc hzz qAb))))) fun v s' ρ' p1 v1 q1 k1 f1 e1 => ?_
     cases ez
     exact hQ v s' ρ' p1 (oz11 v1 fun t e => ⟨t, by rw [e, ← qH7 hd (Nat.le_of_lt hb)]; rfl⟩) q1 k1 f1 e1
    ·have e1 : x.length = k + 1 := by omega
     refine qE1 (rest' := rest) rm hr hF hi hp r2 hI hz (Nat.le_refl _) (by rw [e1]; exact hd1) (qLh w.params x k) (aCc hzz (aCc (decide_eq_false (by omega)) (aCc (by decide) (aCc (decide_eq_false (by omega)) (aCc hzz qAb))))) fun v s' ρ' p1 v1 q1 k1 f1 e2 => ?_
     cases ez
     exact hQ v s' ρ' p1 (oz11 v1 fun t e => ⟨t, by rw [e, ← qH7 hd (Nat.le_of_eq e1.symm), ← e1]⟩) q1 k1 f1 e2
section
open PySem.Calls Builtin Builtin.ObjectAttr Builtin.Getset_descriptor
section
variable {w : World} {A : Around} {R : RP} {h : Heap} {g : Array GenState} {d : Drawn} {t : Nat} {os : OsState}
theorem qSb {v : Value} (X : (KK w.params).In h)
  (hq : codeAny (MM w) (A.under (.builtin "type.__call__" ⟨[.ref 604, v], []⟩)) (.call (.ref 97) ⟨[.ref 604, v], []⟩) (fun r s' => match r with
   | .ok (.ret x) => ∃ a dx, x = .ref a ∧ s'.heap.get? a = some (instObj 604 dx) ∧ (KK w.params).In s'.heap ∧ codeAny (MM w) (A.under (.builtin "type.__call__" ⟨[.ref 604, v], []⟩)) (.call (.ref 374) ⟨[.ref a, v], []⟩) (InitBack a R) s'
   | .ok _ => False
   | .error e => R (.error e) s') ⟨h, g, d, t + 1, os⟩) :
  codeAny (MM w) A (.call (.ref 604) ⟨[v], []⟩) R ⟨h, g, d, t, os⟩ := by
 have hC := X _ _ (qVw w.params)
 have call := looks_specialIn (M := MM w) X (qSl w.params)
 have typ := looks_instIn (M := MM w) X (qLZ w.params)
 with_reducible refine codeAny_of_tree ?_
 show wpAny _ _ (callAny (.ref 604) _) _ _ _
 refine nd_load hC ?_
 show wpAny _ _ (callAny.viaDunder (.ref 604) _) _ _ _
 unfold callAny.viaDunder
 with_reducible refine wpAny_bind (call.at ?_)
 dsimp only
 rw [tc_bind]
 with_reducible refine wpAny_bind (wpAny_pure (wpAny_bind (wpAny_pure ?_)))
 refine wpAny_pure (a := Fin.again (.call (.builtin "type.__call__") ⟨[.ref 604, v], []⟩)) (And.intro rfl ?_)
 with_reducible refine codeAny_call_builtin_at (Code.quiet_builtin _ (by decide +kernel)) entry_typeCall (check_slot tc_kind tc_split typ (tc_args _ _ _) ?_)
 unfold Builtin.«type.__call__»
 dsimp only
 have hm := qUJ (w := w) X
 have hmade := qSi (w := w) X
 have hsub := looks_mroIn (M := MM w) X (qLY w.params)
 iterate 4 (first | simp only [List.isEmpty_cons, Bool.false_eq_true, if_false] | lk)
 with_reducible refine wpAny_bind (hmade.at ?_)
 dsimp only
 with_reducible refine wpAny_bind (cls_bind (s := ⟨h, g, d, t, os⟩) (mc := .type "type") X (qO7 w.params) (qUI w.params) (wpAny_call (sm_get (s := ⟨h, g, d, t + 1, os⟩) X (qWG w.params) (handed_on rfl ?_))))
 with_reducible refine wpAny_bind (wpAny_holding (wpAny_call (codeAny_mono hq fun r s' z => ?_)))
 rcases r with e | (_ | _ | _ | x) <;> first | exact z | exact z.elim | skip
 obtain ⟨a, dx, rfl, hx, X', hi⟩ := z
 have t1 : Looks (MM w) s'.heap (typeOf (.ref a)) (.ref 604) := (Looks.ld hx).andThen .now
 have s1 := looks_mroIn (M := MM w) X' (qLY w.params)
 have L3 : Looks (MM w) s'.heap (isInstance (.ref a) (.ref 604)) true := t1.andThen s1
 have i1 := looks_findIn (M := MM w) X' (qSj w.params)
 have b1 := bind_fn (M := MM w) X' (.ref a) (f := 374) (by kernel_rfl)
 with_reducible refine wpAny_bind (L3.here ?_)
 rw [if_neg (by decide)]
 with_reducible refine wpAny_bind (wpAny_holding (wpAny_bind (wpAny_bind (t1.here (i1.here (wpAny_holding (wpAny_bind (b1.here (wpAny_bind ?_)))))))))
 refine wpAny_call (codeAny_mono hi fun r s' z => ?_)
 rcases r with e | (_ | _ | _ | x) <;> first | exact z | exact z.elim | skip
 obtain ⟨rfl, z⟩ := z
 exact wpAny_pure (wpAny_pure z)
end
end
noncomputable abbrev xCls : Str := "cls"
noncomputable abbrev qKe : Str := "args"
noncomputable abbrev qDO : Str := "kwargs"
noncomputable abbrev qCj (P : Params) : FuncData := fdOf (o97 P)
noncomputable abbrev bNew : List Stmt := qBh (F2 8 1)
noncomputable abbrev qVP : Scope := qAM (F2 8 1)
theorem qQt (P : Params) (c v : Value) : bindArgs (qCj P) ⟨[c, v], []⟩ = (newTuple [v] >>= fun t => alloc emptyDict >>= fun d => pure [(xCls, c), (qKe, t), (qDO, .ref d)]) := by kernel_rfl
theorem qRO (P : Params) (a b : Value) : run (KK P) cs0 qVP bNew ⟨[xCls, qKe, qDO].zip [.lit (.ref 604), .lit a, .lit b], [], [], []⟩ = some (.ret (.obj 0), ⟨[xCls, qKe, qDO].zip [.lit (.ref 604), .lit a, .lit b], [.inst 604 []], [], []⟩, [qEv 604, qEv 357, qEv 604, qEv 604]) := by kernel_rfl
theorem qLm : qEv 604 := ⟨by decide, fun P => by kernel_rfl⟩
theorem qUl : qEv 357 := ⟨by decide, fun P => by kernel_rfl⟩
theorem qEC {A : Around} {d : Nat} (C : Addr) (vals : List Value) (kw : List (Str × Value)) (rm : Room A (d + 1)) : Room (A.under (.builtin "type.__call__" ⟨.ref C :: vals, kw⟩)) d := by
 refine ⟨⟨?_, ?_⟩, rm.2⟩
 ·have := rm.1.1; show A.depth + 1 + d ≤ 900; omega
 ·have := rm.1.2; show A.units + 1 + 20 * d ≤ 9000; omega
theorem qWo {w : World} {A : Around} {s : Shared} {v : Value} {R : RP} (rm : Room A 4) (k : Kept w s.heap) (hF : ∀ a ∈ qAa A, ∃ ob, s.heap.get? a = some ob)
  (hR : ∀ p s', HR w [p] [.inst 604 []] s'.heap → Kp [] (qAa A) s.heap s'.heap → (∀ a ∈ feet [.inst 604 []] [p], s.heap.get? a = none) → s'.gens = s.gens ∧ s'.drawn = s.drawn ∧ s'.os = s.os → R (.ok (.ret (.ref p.1))) s') : codeAny (MM w) A (.call (.ref 97) ⟨[.ref 604, v], []⟩) R s := by
 have X := k.kk
 refine codeAny_call_function (fd := qCj w.params) (body := bNew) (o := o97 w.params) (by have := rm.1.1; show A.depth < 1000; omega) (X _ _ (by kernel_rfl)) (by kernel_rfl) (by kernel_rfl) (by kernel_rfl) (by kernel_rfl) (codeRec_of X (by kernel_rfl)) ?_
 rw [qQt]
 refine wpAny_bind (wpAny_newObj_type (wpAny_bind (wpAny_alloc (wpAny_pure ?_))) (by show 1 ≤ sizeLine; rw [sizeLine_eq]; decide))
 obtain ⟨s1, hs1⟩ : ∃ s1 : Shared, s1 = { s with heap := (s.heap.push { cls := .type "tuple", data := .seq [v].toArray }).push emptyDict } := ⟨_, rfl⟩
 have c1 : Chg [] s.heap s1.heap := ⟨fun b o e _ => by rw [hs1]; exact Heap.get?_push_of_some _ (Heap.get?_push_of_some _ e)⟩
 have k1 : Kept w s1.heap := k.chg c1 (by simp)
 have rest : s1.gens = s.gens ∧ s1.drawn = s.drawn ∧ s1.os = s.os := by rw [hs1]; exact ⟨rfl, rfl, rfl⟩
 have key : ∀ tv dv : Value, wpAny (MM w) A.in1 (newFunctionEnv (qCj w.params).scope (qCj w.params).globals (qCj w.params).closure [(xCls, .ref 604), (qKe, tv), (qDO, dv)] ((qCj w.params).qualname ++ ".<locals>.") (some 97) (qCj w.params).code none (qCj w.params).builtins)
   (fun env s2 => s2.heap.NoLimit ∧ codeAny (MM w) A (.func bNew env) R s2) (fun e s' => R (.error e) s') s1 := by
  intro tv dv
  refine wpAny_newFunctionEnv (fun x hx => by simpa using List.all_eq_true.mp (by kernel_rfl : (qCj w.params).scope.names.all (fun x => x.2 != .cell) = true) x hx) (fun x hx => ?_) (fun h₀ hns hsb => ⟨(qD4 k1).fresh _ hsb, codeAny_func ?_⟩) (by kernel_rfl)
  ·simp only [List.mem_cons, List.not_mem_nil, or_false] at hx
   rcases hx with rfl | rfl | rfl <;> kernel_rfl
  show wpAny (MM w) (A.deeper (callEnv (qCj w.params) s1.heap.objs.size 97)) (execs bNew (callEnv (qCj w.params) s1.heap.objs.size 97)) _ _ _
  rw [qDe (by kernel_rfl) (by kernel_rfl) (by kernel_rfl)]
  have hk : ∀ b o, s1.heap.get? b = some o → h₀.get? b = some o := fun b o e => hsb.extBut b o (Nat.ne_of_lt (Heap.lt_size e)) (Heap.get?_push_of_some _ e)
  have R0 := Rel.enter (w := w) (A := A) (s := s1) (ρ := []) (H := []) (params := [xCls, qKe, qDO]) (args := [.lit (.ref 604), .lit tv, .lit dv]) (vals := [.ref 604, tv, dv]) (orc := []) (ori := []) (tk := s1.toks + 3) (HR.nil k1) (.cons rfl (.cons rfl (.cons rfl .nil))) rfl (by decide) hns hk
  have ok := AOK.enter (w := w) (A := A) (s := s1) (ρ := []) (H := []) (env := envOf (qCj w.params).qualname (qCj w.params).scope s1.heap.objs.size 97 (qCj w.params).code) (d := 2) rm (fun a ha => ⟨by obtain ⟨ob, e⟩ := hF a ha; exact ⟨ob, c1.keep a ob e (by simp)⟩, by simp [feet]⟩) rfl
  refine wm (qAF (cx := ⟨w, s1.heap.objs.size, s1.heap, feet [] [], qAa A, s1.gens, s1.drawn, s1.os⟩) (q := (qCj w.params).qualname) (a := 97) (cd := (qCj w.params).code) (sc := (qCj w.params).scope) (by kernel_rfl) (csv0 w 2) bNew _ _ _ _ (qRO w.params tv dv) (aCc qLm (aCc qUl (aCc qLm (aCc qLm qAb)))) _ [] _ _ ok R0 fun _ _ x => x.elim) (fun fl s' z => ?_)
  obtain ⟨ρ', p1, ⟨c, rfl, q, hq, rfl⟩, r1⟩ := z
  obtain ⟨p, hp⟩ := List.length_eq_one_iff.mp r1.hr.len
  subst hp
  cases hq
  refine hR q s' r1.hr ?_ (fun a ha => ?_) ⟨r1.rest.1.trans rest.1, r1.rest.2.1.trans rest.2.1, r1.rest.2.2.trans rest.2.2⟩
  ·exact ((Kp.refl [] (qAa A) s.heap).step c1 (by simp)).trans r1.kp (by simp [feet]) (fun a ha => .inl ha)
  ·rcases (r1.ft a ha).2 with z | z
   ·simp [feet] at z
   ·cases e : s.heap.get? a with
    | none => rfl
    | some ob => rw [c1.keep a ob e (by simp)] at z; cases z
 rw [hs1] at key
 exact key _ _
noncomputable def qQF : Spec := fun args H => match args, H with
 | [.str x], [] => some (.obj 0, [.sio x.cps.toList], [x.length ≤ 100000])
 | _, _ => none
theorem HR.nil_rho {w : World} {ρ : Rho} {h : Heap} (r : HR w ρ [] h) : ρ = [] := List.length_eq_zero_iff.mp r.len
theorem qSP (w : World) : Fn w 604 7 qQF := by
 intro A s ρ H args r H' ob vals h ho rm hr hF ra Q E hQ
 unfold qQF at h
 split at h
 rotate_left
 ·exact nos h
 rename_i x
 cases h
 have := hr.nil_rho
 subst this
 cases ra with
 | @cons _ v _ _ r1 r2 =>
  cases r2
  obtain ⟨t, rfl⟩ := r1
  have hx := ho _ (.head _)
  have k := hr.kept
  have rm' : Room (A.under (.builtin "type.__call__" ⟨[.ref 604, .str x t], []⟩)) 6 := qEC _ _ _ rm
  obtain ⟨h, g, d, tk, os⟩ := s
  refine qSb k.kk (qWo (rm'.le (by decide)) k (fun a ha => (hF a ha).1) fun p s' r1 k1 f1 e1 => ?_)
  obtain ⟨h1, es, n, h2, hes⟩ := r1.obj 0 _ _ rfl rfl
  refine ⟨p.1, p.2, rfl, h1, r1.kept.kk, ?_⟩
  have hF' : ∀ a ∈ qAa (A.under (.builtin "type.__call__" ⟨[.ref 604, .str x t], []⟩)), (∃ ob, s'.heap.get? a = some ob) ∧ a ∉ feet [.inst 604 []] [p] := fun a ha => by
   obtain ⟨⟨ob, e⟩, _⟩ := hF a ha
   refine ⟨?_, fun q => ?_⟩
   ·obtain ⟨sl, e', _⟩ := k1.keep a ob e (by simp)
    exact ⟨_, e'⟩
   ·rw [f1 a q] at e; cases e
  obtain ⟨tn, hb⟩ := qNn (s := s') r1.kept (.ref p.1) (.str x t)
  refine codeAny_mono (qHr (E := E) (Q := fun u s2 => u = .none ∧ Q (.ref p.1) s2) (qMS w) (qQZ w) (qOA w.params x) qAb (rm'.le (by decide)) r1 hF' (.cons ⟨p, rfl, rfl⟩ (.cons ⟨t, rfl⟩ (.cons ⟨tn, rfl⟩ .nil))) hb fun u s2 ρ2 p2 v2 r2 k2 f2 e2 => ⟨v2, ?_⟩) fun rr s2 z => ?_
  ·obtain rfl : ρ2 = [p] := by
    have := r2.len
    obtain ⟨tl, rfl⟩ := p2
    have : tl = [] := by simpa using this
    rw [this]; rfl
   have V : View [.inst 604 (qBV x 0)] [.sio x.cps.toList] := (View.set2 (H := [.any]) (i := 0) (o1 := .inst 604 (qBV x 0)) (o2 := .sio x.cps.toList) (fun _ => rfl) fun ρ p h q => ⟨x, 0, q, Nat.zero_le _, hx, rfl⟩)
   refine hQ (.ref p.1) s2 [p] (List.nil_prefix) ⟨p, rfl, rfl⟩ (r2.view V) ?_ (fun a ha => ?_) ⟨e2.1.trans e1.1, e2.2.1.trans e1.2.1, e2.2.2.trans e1.2.2⟩
   ·exact k1.trans k2 (fun a ha => .inr (f1 a ha)) (fun a ha => .inl ha)
   ·rcases f2 a (V.feet a ha) with z | z
    ·exact .inr (f1 a z)
    ·refine .inr ?_
     cases e : h.get? a with
     | none => rfl
     | some ob =>
      obtain ⟨sl, e', _⟩ := k1.keep a ob e (by simp)
      rw [e'] at z; cases z
  ·rcases rr with e | (_ | _ | _ | u) <;> first | exact z | exact z.elim
noncomputable def qRs : Spec := fun args H => match args with
 | [.str x] => some (.obj H.length, H ++ [.sio x.cps.toList], [x.length ≤ 100000])
 | _ => none
theorem qU7 (w : World) : Fn w 604 7 qRs := by
 intro A s ρ H args r H' ob vals h ho rm hr hF ra Q E hQ
 unfold qRs at h
 split at h
 rotate_left
 ·exact nos h
 rename_i x
 cases h
 refine (qSP w).frame (sel := []) (ρ0 := []) (H0 := []) (args0 := [.str x]) hr hF rm (HR.nil hr.kept) ⟨List.nodup_nil, rfl, fun j i h => by simp at h⟩ rfl ho (by
  cases ra with
  | cons r1 r2 => cases r2; exact .cons r1 .nil) fun v s' ρ' p1 v1 r1 k1 f1 e1 => hQ v s' ρ' p1 v1 (by simpa [qCa, qA7, qD0] using r1) k1 (fun a ha => f1 a (by simpa [qCa, qA7, qD0] using ha)) e1
noncomputable abbrev qDP : Str := "instream"
noncomputable abbrev qGH : Str := "infile"
noncomputable abbrev qBC : Str := "posix"
noncomputable abbrev qQ8 : Str := "punctuation_chars"
noncomputable abbrev qMN (P : Params) : FuncData := fdOf (o663 P)
noncomputable abbrev qEu : List Stmt := qBh (F2 22 0)
noncomputable abbrev qTE : Scope := qAM (F2 22 0)
noncomputable abbrev qQJ : List Str := [qAB, qDP, qGH, qBC, qQ8]
noncomputable abbrev qVo : Array Value := #[.none, .none, .bool false, .bool false]
theorem qJ5 {w : World} {s : Shared} (k : Kept w s.heap) (v x : Value) : BindsTo s (qMN w.params) ⟨[v, x], [(qBC, .bool true)]⟩ [(qAB, v), (qDP, x), (qGH, .none), (qBC, .bool true), (qQ8, .bool false)] :=
 qEm (o := o656 w.params) (items := qVo) (n := 0) k rfl (by kernel_rfl) rfl rfl (by kernel_rfl)
theorem qHH {w : World} {s : Shared} (k : Kept w s.heap) (v x y z u : Value) : BindsTo s (qMN w.params) ⟨[v, x, y, z, u], []⟩ [(qAB, v), (qDP, x), (qGH, y), (qBC, z), (qQ8, u)] :=
 qEm (o := o656 w.params) (items := qVo) (n := 0) k rfl (by kernel_rfl) rfl rfl (by kernel_rfl)
theorem qJU (w : World) : FnFacts w 663 (qMN w.params) qEu qQJ :=
 .of (by kernel_rfl) (by kernel_rfl) (by kernel_rfl) fun _ k => len5 (qHH k)
noncomputable def qNe : Cs := fun a => if a = 604 then some qRs else none
theorem qS7 (w : World) : Csv w qNe 7 := by
 intro f sp h
 unfold qNe at h
 split at h
 ·rename_i e; cases h; rw [e]; exact qU7 w
 ·cases h
noncomputable def qDs : Stmt → Str
 | .Assign _ (.Constant (.str x) _ _) _ => x
 | .AugAssign _ _ (.Constant (.str x) _ _) _ => x
 | _ => ""
noncomputable def qDm : Stmt → Stmt
 | .If _ (s :: _) _ _ => s
 | s => s
noncomputable def lexW : Str := qDs (nthS qEu 5) ++ qDs (qDm (nthS qEu 6))
noncomputable def qFe (com : Str) (ws : Bool) (st tok : AV) (n : Int) : LV :=
  [("instream", .obj 1), ("infile", .none), ("posix", .bool true), ("eof", .none), ("commenters", .str com), ("wordchars", .str lexW), ("whitespace", .str " \t\r\n"), ("whitespace_split", .bool ws), ("quotes", .str "'\""), ("escape", .str "\\"), ("escapedquotes", .str "\""),
   ("state", st), ("pushback", .obj 2), ("lineno", .int n), ("debug", .int 0), ("token", tok), ("filestack", .obj 3), ("source", .none), ("_punctuation_chars", .str "")]
noncomputable abbrev lexG (com : Str) (ws : Bool) (st : AV) (tok : Str) (n : Int) : LV := qFe com ws st (.str tok) n
theorem qG2 (P : Params) (x : Str) : qBb (KK P) qNe qTE qEu qQJ [] [] [.obj 0, .str x, .none, .bool true, .bool false] [.inst 739 []] = some (.none, [.inst 739 (lexG "#" false (.str " ") "" 1), .sio x.cps.toList, .deq, .deq], [x.length ≤ 100000, (qDs (nthS qEu 5)).length + (qDs (qDm (nthS qEu 6))).length ≤ sizeLine, ("" : Str).length ≤ sizeLine]) := by kernel_rfl
theorem qMc : (qDs (nthS qEu 5)).length + (qDs (qDm (nthS qEu 6))).length ≤ sizeLine := by
 have : (qDs (nthS qEu 5)).length + (qDs (qDm (nthS qEu 6))).length = 125 := by kernel_rfl
 rw [this, sizeLine_eq]; decide
theorem qOV : ("" : Str).length ≤ sizeLine := Nat.zero_le _
theorem qLV (P : Params) : makesIn (KK P) 739 = true := by kernel_rfl
theorem qJG (P : Params) : findIn (KK P) (.ref 739) "__init__" = some (some (.ref 663)) := by kernel_rfl
theorem qJF (P : Params) : typeIn (KK P) (.ref 663) = some (.type "function") := by kernel_rfl
theorem HR.inst0 {w : World} {h : Heap} (k : Kept w h) (C : Addr) : HR w [(h.objs.size + 1, h.objs.size)] [.inst C []] ((h.push emptyDict).push (instObj C h.objs.size)) ∧ (∀ a ∈ feet [.inst C []] [(h.objs.size + 1, h.objs.size)], h.get? a = none) := by
 have hS : nS ≤ h.objs.size := by
  have : ((H1 w.params).get? 823).isSome = true := by kernel_rfl
  obtain ⟨o, e⟩ := Option.isSome_iff_exists.mp this
  obtain ⟨_, z⟩ := (k _ _ e).2
  exact Heap.lt_size z
 have hs : ∀ a ∈ foot (.inst C []) (h.objs.size + 1, h.objs.size), h.get? a = none ∧ nS ≤ a := fun a ha => by
  simp [foot] at ha
  rcases ha with rfl | rfl
  ·exact ⟨qEW (Nat.le_succ _), Nat.le_trans hS (Nat.le_succ _)⟩
  ·exact ⟨qEW (Nat.le_refl _), hS⟩
 refine ⟨(HR.nil k).new (o := .inst C []) (p := (h.objs.size + 1, h.objs.size)) ⟨fun b o e _ => Heap.get?_push_of_some _ (Heap.get?_push_of_some _ e)⟩ ⟨by heap_get, [], 0, Heap.get?_push_of_some _ (Heap.get?_push_size _ rfl), .nil⟩ (by simp [foot]) hs, fun a ha => (hs a (by simpa [feet] using ha)).1⟩
noncomputable abbrev lexH (com : Str) (ws : Bool) (st : AV) (tok : Str) (n : Int) (rest : List Nat) : List AO := [.inst 739 (lexG com ws st tok n), .sio rest, .deq, .deq]
theorem qSr {w : World} {A : Around} {s : Shared} {x : Str} {t : Tok} {Q E : VP} (rm : Room A 11) (k : Kept w s.heap) (hF : ∀ a ∈ qAa A, ∃ ob, s.heap.get? a = some ob) (hx : x.length ≤ 100000)
  (hQ : ∀ p s' ρ', ρ'[0]? = some p → HR w ρ' (lexH "#" false (.str " ") "" 1 x.cps.toList) s'.heap → Kp [] (qAa A) s.heap s'.heap → (∀ a ∈ feet (lexH "#" false (.str " ") "" 1 x.cps.toList) ρ', s.heap.get? a = none) → s'.gens = s.gens ∧ s'.drawn = s.drawn ∧ s'.os = s.os → Q (.ref p.1) s') :
  codeAny (MM w) A (.call (.ref 739) ⟨[.str x t], [(qBC, .bool true)]⟩) (back Q E) s := by
 have X := k.kk
 obtain ⟨h, g, d, tk, os⟩ := s
 refine make_core (makes_of (M := MM w) X (qLV w.params)) (looks_findIn X (qJG w.params)) (fun self => bind_fn X self (qJF w.params)) (.inl rfl) ?_
 obtain ⟨r1, f1⟩ := HR.inst0 k 739
 have c1 : Chg [] h ((h.push emptyDict).push (instObj 739 h.objs.size)) := ⟨fun b o e _ => Heap.get?_push_of_some _ (Heap.get?_push_of_some _ e)⟩
 have k1 : Kp [] (qAa A) h ((h.push emptyDict).push (instObj 739 h.objs.size)) := (Kp.refl _ _ _).step c1 (by simp)
 have rm' : Room (A.under (.builtin "type.__call__" ⟨[.ref 739, .str x t], [(qBC, .bool true)]⟩)) 10 := qEC _ _ _ rm
 have hF' : ∀ a ∈ qAa (A.under (.builtin "type.__call__" ⟨[.ref 739, .str x t], [(qBC, .bool true)]⟩)), (∃ ob, ((h.push emptyDict).push (instObj 739 h.objs.size)).get? a = some ob) ∧ a ∉ feet [.inst 739 []] [(h.objs.size + 1, h.objs.size)] := fun a ha => by
  obtain ⟨ob, e⟩ := hF a ha
  refine ⟨⟨ob, c1.keep a ob e (by simp)⟩, fun q => ?_⟩
  have := f1 a q
  rw [this] at e; cases e
 refine codeAny_mono (qHr (E := E) (Q := fun u s2 => u = .none ∧ Q (.ref (h.objs.size + 1)) s2) (qJU w) (qS7 w) (qG2 w.params x) (aCc hx (aCc qMc (aCc qOV qAb))) (rm'.le (by decide)) r1 hF' (.cons ⟨_, rfl, rfl⟩ (.cons ⟨t, rfl⟩ (.cons rfl (.cons rfl (.cons rfl .nil))))) (qJ5 (s := ⟨_, g, d, tk, os⟩) r1.kept _ _) fun u s2 ρ2 p2 v2 r2 k2 f2 e2 => ⟨v2, ?_⟩) fun rr s2 z => ?_
 ·refine hQ (h.objs.size + 1, h.objs.size) s2 ρ2 (qBi p2 rfl) r2 (k1.trans k2 (fun a ha => .inr (f1 a ha)) fun a ha => .inl ha) (fun a ha => ?_) e2
  rcases f2 a ha with z | z
  ·exact f1 a z
  ·cases e : h.get? a with
   | none => rfl
   | some ob =>
    have y := c1.keep a ob e (by simp)
    exact nomatch (y.symm.trans z)
 ·rcases rr with e | (_ | _ | _ | u) <;> first | exact z | exact z.elim
noncomputable abbrev qQ7 : Str := "quoted"
noncomputable abbrev xEsc : Str := "escapedstate"
noncomputable abbrev qTf : Str := "nextchar"
noncomputable abbrev qGG : Str := "result"
noncomputable abbrev qDx (P : Params) : FuncData := fdOf (o707 P)
noncomputable abbrev bTok : List Stmt := qBh (F2 22 6)
noncomputable abbrev scTok : Scope := qAM (F2 22 6)
theorem qMQ (w : World) : FnFacts w 707 (qDx w.params) bTok [qAB] :=
 .of1 (by kernel_rfl) (by kernel_rfl) (by kernel_rfl) fun _ => by kernel_rfl
noncomputable abbrev fdPc (P : Params) : FuncData := fdOf (o670 P)
noncomputable abbrev bPc : List Stmt := qBh (F2 22 1)
noncomputable abbrev scPc : Scope := qAM (F2 22 1)
theorem qP1 (w : World) : FnFacts w 670 (fdPc w.params) bPc [qAB] :=
 .of1 (by kernel_rfl) (by kernel_rfl) (by kernel_rfl) fun _ => by kernel_rfl
noncomputable abbrev spPc (P : Params) : Spec := qBb (KK P) cs0 scPc bPc [qAB] [] []
theorem qWO (w : World) : Fn w 670 2 (spPc w.params) := qDn (qP1 w) (by kernel_rfl) (csv0 w 0)
noncomputable def qFu (P : Params) : Cs := fun a => if a = 670 then some (spPc P) else if a = 550 then some qH6 else none
theorem qET (w : World) : Csv w (qFu w.params) 4 := by
 intro f sp h
 unfold qFu at h
 split at h
 ·rename_i e; cases h; rw [e]; exact (qWO w).le (by decide)
 split at h
 ·rename_i e; cases h; rw [e]; exact qPQ w
 ·cases h
noncomputable def qKi : Stmt → List Stmt
 | .While _ b _ _ => b
 | _ => []
noncomputable abbrev qDr : List Stmt := qKi (nthS bTok 2)
noncomputable abbrev qAh (st tk : AV) (n : Int) (rest : List Nat) : List AO := [.inst 739 (qFe "" true st tk n), .sio rest, .deq, .deq]
noncomputable abbrev qCx (q : Bool) (e : Str) : LV := [(qAB, .obj 0), (qQ7, .bool q), (xEsc, .str e)]
noncomputable def tS (P : Params) (q : Bool) (e : Str) (st tk : AV) (n : Int) (rest : List Nat) (orc ori : List Bool) : R Fl := run (KK P) (qFu P) scTok qDr ⟨qCx q e, qAh st tk n rest, orc, ori⟩
noncomputable def oS (f : Fl) (q : Bool) (e : Str) (c st tk : AV) (n : Int) (r : List Nat) (du : List Prop) : R Fl := some (f, ⟨qCx q e ++ [(qTf, c)], qAh st tk n r, [], []⟩, du)
abbrev nf : Prop := ("" : Str).length ≤ sizeLine
abbrev lf (x : Str) : Prop := x.length + 1 ≤ sizeLine
noncomputable abbrev sA : AV := .str "a"
noncomputable abbrev sG : AV := .str " "
noncomputable abbrev sQ1 : AV := .str "'"
noncomputable abbrev sQ2 : AV := .str "\""
noncomputable abbrev sB : AV := .str "\\"
noncomputable abbrev t0 : AV := .str ""
abbrev ni : Prop := (((("" : Str).length : Int) != 0) = false)
abbrev n3 : Prop := decide ((3 : Int) ≤ 0) = false
abbrev n1 : Prop := (("a" : Str).cps.toList == (" " : Str).cps.toList) = false
abbrev n2 : Prop := decide ((2 : Int) ≤ 0) = false
noncomputable abbrev uN (c : Nat) : Bool := (ch c).cps.toList == ("\n" : Str).cps.toList
noncomputable abbrev uW (c : Nat) : Bool := Txt.contains " \t\r\n" (ch c)
noncomputable abbrev uC (c : Nat) : Bool := Txt.contains "" (ch c)
noncomputable abbrev uE (c : Nat) : Bool := Txt.contains "\\" (ch c)
noncomputable abbrev uD (c : Nat) : Bool := Txt.contains lexW (ch c)
noncomputable abbrev uQ (c : Nat) : Bool := Txt.contains "'\"" (ch c)
noncomputable abbrev u1 (c : Nat) : Bool := (ch c).cps.toList == ("'" : Str).cps.toList
noncomputable abbrev u2 (c : Nat) : Bool := (ch c).cps.toList == ("\"" : Str).cps.toList
noncomputable abbrev v2 (c : Nat) : Bool := (ch c).cps.toList != ("\"" : Str).cps.toList
noncomputable abbrev v3 (c : Nat) : Bool := (ch c).cps.toList != ("\\" : Str).cps.toList
theorem qRd (P : Params) (st tk : AV) (n : Int) (r : List Nat) : run (KK P) (qFu P) scTok (bTok.take 2) ⟨[(qAB, .obj 0)], qAh st tk n r, [], []⟩ = some (.next, ⟨qCx false " ", qAh st tk n r, [], []⟩, []) := by kernel_rfl
noncomputable def tkE (P : Params) (q : Bool) (e x : Str) (c : Nat) (n : Int) (r : List Nat) : List (R Fl × R Fl) := [
 (tS P false " " sG t0 n (c :: r) [false, true] [], oS .cont false " " (.chr c) sG t0 n r [nf, uN c = false, uW c = true, nf]),
 (tS P q e sA (.str x) n (c :: r) [false, true] [false, false, false, false, true], oS .brk q e (.chr c) sG (.str x) n r [nf, ni, uN c = false, n3, n1, uW c = true, n2, x.length ≤ sizeLine, (((x.length : Int) != 0) = true)]),
 (tS P true e sA (.str x) n (c :: r) [false, true] [false, false, false, false, false], oS .brk true e (.chr c) sG (.str x) n r [nf, ni, uN c = false, n3, n1, uW c = true, n2, x.length ≤ sizeLine, (((x.length : Int) != 0) = false)]),
 (tS P q e sQ1 (.str x) n (c :: r) [false, false, false] [], oS .next true e (.chr c) sQ1 (.str (x ++ ch c)) n r [nf, uN c = false, u1 c = false, uE c = false, lf x]),
 (tS P q e sQ2 (.str x) n (c :: r) [false, false, false] [], oS .next true e (.chr c) sQ2 (.str (x ++ ch c)) n r [nf, uN c = false, u2 c = false, uE c = false, lf x]),
 (tS P q "a" sB (.str x) n (c :: r) [false] [], oS .next q "a" (.chr c) sA (.str (x ++ ch c)) n r [nf, uN c = false, lf x]),
 (tS P q "\"" sB (.str x) n (c :: r) [false, true, true] [], oS .next q "\"" (.chr c) sQ2 (.str (x ++ "\\" ++ ch c)) n r [nf, uN c = false, v3 c = true, v2 c = true, x.length + ("\\" : Str).length ≤ sizeLine, lf (x ++ "\\")]),
 (tS P false " " sG t0 n (c :: r) [true, true] [], oS .cont false " " (.chr c) sG t0 (n + 1) r [nf, uN c = true, uW c = true, nf]),
 (tS P q e sA (.str x) n (c :: r) [true, true] [false, false, false, false, true], oS .brk q e (.chr c) sG (.str x) (n + 1) r [nf, ni, uN c = true, n3, n1, uW c = true, n2, x.length ≤ sizeLine, (((x.length : Int) != 0) = true)]),
 (tS P true e sA (.str x) n (c :: r) [true, true] [false, false, false, false, false], oS .brk true e (.chr c) sG (.str x) (n + 1) r [nf, ni, uN c = true, n3, n1, uW c = true, n2, x.length ≤ sizeLine, (((x.length : Int) != 0) = false)]),
 (tS P q e sQ1 (.str x) n (c :: r) [true, false, false] [], oS .next true e (.chr c) sQ1 (.str (x ++ ch c)) (n + 1) r [nf, uN c = true, u1 c = false, uE c = false, lf x]),
 (tS P q e sQ2 (.str x) n (c :: r) [true, false, false] [], oS .next true e (.chr c) sQ2 (.str (x ++ ch c)) (n + 1) r [nf, uN c = true, u2 c = false, uE c = false, lf x]),
 (tS P q "a" sB (.str x) n (c :: r) [true] [], oS .next q "a" (.chr c) sA (.str (x ++ ch c)) (n + 1) r [nf, uN c = true, lf x]),
 (tS P q "\"" sB (.str x) n (c :: r) [true, true, true] [], oS .next q "\"" (.chr c) sQ2 (.str (x ++ "\\" ++ ch c)) (n + 1) r [nf, uN c = true, v3 c = true, v2 c = true, x.length + ("\\" : Str).length ≤ sizeLine, lf (x ++ "\\")]),
 (tS P false " " sG t0 n (c :: r) [false, false, false, true] [], oS .next false "a" (.chr c) (.chr c) t0 n r [nf, uN c = false, uW c = false, uC c = false, uE c = true]),
 (tS P false " " sG t0 n (c :: r) [false, false, false, false, true] [], oS .next false " " (.chr c) sA (.chr c) n r [nf, uN c = false, uW c = false, uC c = false, uE c = false, uD c = true]),
 (tS P false " " sG t0 n (c :: r) [false, false, false, false, false, false, true] [], oS .next false " " (.chr c) (.chr c) t0 n r [nf, uN c = false, uW c = false, uC c = false, uE c = false, uD c = false, uC c = false, uQ c = true]),
 (tS P false " " sG t0 n (c :: r) [false, false, false, false, false, false, false] [], oS .next false " " (.chr c) sA (.chr c) n r [nf, uN c = false, uW c = false, uC c = false, uE c = false, uD c = false, uC c = false, uQ c = false]),
 (tS P q e sA (.str x) n (c :: r) [false, false, false, true] [], oS .next q e (.chr c) (.chr c) (.str x) n r [nf, uN c = false, uW c = false, uC c = false, uQ c = true]),
 (tS P q e sA (.str x) n (c :: r) [false, false, false, false, true] [], oS .next q "a" (.chr c) (.chr c) (.str x) n r [nf, uN c = false, uW c = false, uC c = false, uQ c = false, uE c = true]),
 (tS P q e sA (.str x) n (c :: r) [false, false, false, false, false, true] [], oS .next q e (.chr c) sA (.str (x ++ ch c)) n r [nf, uN c = false, uW c = false, uC c = false, uQ c = false, uE c = false, uD c = true, lf x]),
 (tS P q e sA (.str x) n (c :: r) [false, false, false, false, false, false, false, true] [], oS .next q e (.chr c) sA (.str (x ++ ch c)) n r [nf, uN c = false, uW c = false, uC c = false, uQ c = false, uE c = false, uD c = false, uQ c = false, (!uC c) = true, lf x]),
 (tS P q e sQ1 (.str x) n (c :: r) [false, true] [], oS .next true e (.chr c) sA (.str x) n r [nf, uN c = false, u1 c = true]),
 (tS P q e sQ1 (.str x) n (c :: r) [false, false, true] [], oS .next true e (.chr c) sQ1 (.str (x ++ ch c)) n r [nf, uN c = false, u1 c = false, uE c = true, lf x]),
 (tS P q e sQ2 (.str x) n (c :: r) [false, true] [], oS .next true e (.chr c) sA (.str x) n r [nf, uN c = false, u2 c = true]),
 (tS P q e sQ2 (.str x) n (c :: r) [false, false, true] [], oS .next true "\"" (.chr c) (.chr c) (.str x) n r [nf, uN c = false, u2 c = false, uE c = true]),
 (tS P q "\"" sB (.str x) n (c :: r) [false, false] [], oS .next q "\"" (.chr c) sQ2 (.str (x ++ ch c)) n r [nf, uN c = false, v3 c = false, lf x]),
 (tS P q "\"" sB (.str x) n (c :: r) [false, true, false] [], oS .next q "\"" (.chr c) sQ2 (.str (x ++ ch c)) n r [nf, uN c = false, v3 c = true, v2 c = false, lf x]),
 (tS P false " " sG t0 n [] [] [], oS .brk false " " t0 .none t0 n [] [nf, nf]),
 (tS P q e sA (.str x) n [] [] [], oS .brk q e t0 .none (.str x) n [] [nf, nf]),
 (tS P q e sQ1 (.str x) n [] [] [], oS (.exc qBI) true e t0 sQ1 (.str x) n [] [nf, nf]),
 (tS P q e sQ2 (.str x) n [] [] [], oS (.exc qBI) true e t0 sQ2 (.str x) n [] [nf, nf]),
 (tS P q e sB (.str x) n [] [] [], oS (.exc qD5) q e t0 sB (.str x) n [] [nf, nf]),
 (tS P false " " .none t0 n [] [] [], oS .brk false " " t0 .none t0 n [] [nf])]
noncomputable def AllT : List (R Fl × R Fl) → Prop
 | [] => True
 | p :: l => p.1 = p.2 ∧ AllT l
theorem AllT.at : ∀ {l : List (R Fl × R Fl)}, AllT l → ∀ (i : Nat) {a b : R Fl}, l[i]? = some (a, b) → a = b
 | [], _, _, _, _, e => nomatch e
 | _ :: _, h, 0, _, _, e => by cases e; exact h.1
 | _ :: _, h, i + 1, _, _, e => AllT.at h.2 i e
theorem tkT (P : Params) (q : Bool) (e x : Str) (c : Nat) (n : Int) (r : List Nat) : AllT (tkE P q e x c n r) := ⟨by kernel_rfl, by kernel_rfl, by kernel_rfl, by kernel_rfl, by kernel_rfl, by kernel_rfl, by kernel_rfl, by kernel_rfl, by kernel_rfl, by kernel_rfl, by kernel_rfl, by kernel_rfl, by kernel_rfl, by kernel_rfl, by kernel_rfl, by kernel_rfl, by kernel_rfl, by kernel_rfl, by kernel_rfl, by kernel_rfl, by kernel_rfl, by kernel_rfl, by kernel_rfl, by kernel_rfl, by kernel_rfl, by kernel_rfl, by kernel_rfl, by kernel_rfl, by kernel_rfl, by kernel_rfl, by kernel_rfl, by kernel_rfl, by kernel_rfl, by kernel_rfl, trivial⟩
theorem tkI (i : Nat) (P : Params) (q : Bool) (e x : Str) (c : Nat) (n : Int) (r : List Nat) {a b : R Fl} (h : (tkE P q e x c n r)[i]? = some (a, b)) : a = b := (tkT P q e x c n r).at i h
theorem qKr (P : Params) (e x : Str) (st : AV) (n : Int) (r : List Nat) : run (KK P) (qFu P) scTok (bTok.drop 3) ⟨qCx true e, qAh st (.str x) n r, [], []⟩ = some (.ret (.str x), ⟨qCx true e ++ [(qGG, .str x)], qAh st t0 n r, [], []⟩, []) := by kernel_rfl
theorem qKq (P : Params) (e x : Str) (st : AV) (n : Int) (r : List Nat) : run (KK P) (qFu P) scTok (bTok.drop 3) ⟨qCx false e, qAh st (.str x) n r, [], [false, false]⟩ = some (.ret (.str x), ⟨qCx false e ++ [(qGG, .str x)], qAh st t0 n r, [], []⟩, [(x.cps.toList == ("" : Str).cps.toList) = false, decide ((1 : Int) < 0) = false]) := by kernel_rfl
theorem qKp (P : Params) (e : Str) (st : AV) (n : Int) (r : List Nat) : run (KK P) (qFu P) scTok (bTok.drop 3) ⟨qCx false e, qAh st t0 n r, [], []⟩ = some (.ret .none, ⟨qCx false e ++ [(qGG, .none)], qAh st t0 n r, [], []⟩, []) := by kernel_rfl
section
def Stk (A : Around) (h : Heap) : Prop := ∃ l, A.frames = some l ∧ ∀ env ∈ l, env.scope.kind ≠ .module ∧ ∃ L o, env.frame = some L ∧ h.get? L = some o ∧ ∀ vs, o.data ≠ .fields vs
theorem Stk.kp {A : Around} {h h' : Heap} {X F : List Addr} (x : Stk A h) (k : Kp X F h h') (d : ∀ a ∈ qAa A, a ∉ X) : Stk A h' := by
 obtain ⟨l, e, q⟩ := x
 refine ⟨l, e, fun env he => ?_⟩
 obtain ⟨h1, L, o, h2, h3, h4⟩ := q env he
 have hL : L ∈ qAa A := by
  unfold qAa; rw [e]
  exact List.mem_filterMap.mpr ⟨env, he, h2⟩
 obtain ⟨sl, e1, _⟩ := k.keep L o h3 (d L hL)
 exact ⟨h1, L, _, h2, e1, h4⟩
theorem Stk.there {A : Around} {h : Heap} (x : Stk A h) : ∀ a ∈ qAa A, ∃ o, h.get? a = some o ∧ ∀ vs, o.data ≠ .fields vs := by
 obtain ⟨l, e, q⟩ := x
 intro a ha
 unfold qAa at ha
 rw [e] at ha
 obtain ⟨env, h1, h2⟩ := List.mem_filterMap.mp ha
 obtain ⟨_, L, o, h3, h4, h5⟩ := q env h1
 rw [h2] at h3; cases h3
 exact ⟨o, h4, h5⟩
theorem Stk.deeper {A : Around} {h' : Heap} {env : Env} {L : Addr} {m : Str → Option Value} (x : Stk A h') (hk : env.scope.kind = .function) (hf : env.frame = some L) (hn : h'.Ns L m) : Stk (A.deeper env) h' := by
 obtain ⟨l, e, q⟩ := x
 refine ⟨env :: l, by unfold Around.deeper; rw [e]; rfl, fun env' he => ?_⟩
 rcases lc he with rfl | he
 ·obtain ⟨o, es, ep, h1, h2, _⟩ := hn
  exact ⟨by rw [hk]; decide, L, o, hf, h1, fun vs q => by rw [h2] at q; cases q⟩
 ·exact q env' he
structure Thrown (A : Around) (s : Shared) (X : List Addr) (cls : String) (args : List Value) (v : Value) (s' : Shared) : Prop where
 fly : ∃ e t l, v = .ref e ∧ A.frames = some l ∧ Heap.FlyingW (hideAll s.heap (X ++ qAa A)) l e (.type cls) (.ref t) s'.heap ∧ s'.heap.TupAt t args ∧ (hideAll s.heap (X ++ qAa A)).get? t = none
 kp : Kp X (qAa A) s.heap s'.heap
 rest : s'.gens = s.gens ∧ s'.drawn = s.drawn ∧ s'.os = s.os
theorem qFg {A : Around} {h h1 h2 : Heap} {X : List Addr} {l : List Env} (st : Stk A h) (k : Kp X (qAa A) h h1) (hs : (hideAll h (X ++ qAa A)).StaysIn h2) (hu : h1.UpToSlots h2) : Kp X (qAa A) h h2 := by
 refine ⟨fun b o e n => ?_⟩
 by_cases hb : b ∈ qAa A
 ·obtain ⟨o', e1, nf⟩ := st.there b hb
  rw [e] at e1; cases e1
  obtain ⟨sl, e2, _⟩ := k.keep b o e n
  obtain ⟨sl', e3⟩ := hu b _ e2 nf
  exact ⟨sl', e3, fun q => absurd hb q⟩
 ·have := hs b o (hideAll_get _ e fun q => by
   rcases List.mem_append.mp q with q | q
   ·exact n q
   ·exact hb q)
  exact ⟨o.slots, this, fun _ => rfl⟩
section
variable {w : World} {A : Around} {s s1 s2 : Shared} {H : List AO} {ρ ρ1 : Rho} {S1 : Sta} {env : Env} {cls : String} {args : List Value} {E : VP}
theorem qB6 (st : Stk A s.heap) (hF : ∀ a ∈ qAa A, a ∉ feet H ρ) (hk : env.scope.kind = .function) (hf : env.frame = some s.heap.objs.size) (r : Rel (cxIn w A s H ρ) ρ1 S1 s1) :
  ∃ l, A.frames = some l ∧ (A.deeper env).frames = some (env :: l) ∧ s1.heap.FunFrames (hideAll s.heap (feet H ρ ++ qAa A)) (env :: l) ∧ (hideAll s.heap (feet H ρ ++ qAa A)).StaysIn s1.heap := by
 obtain ⟨l, e, q⟩ := st
 obtain ⟨m, n, _⟩ := r.ns
 have hs : (hideAll s.heap (feet H ρ ++ qAa A)).StaysIn s1.heap := fun b o hb => by
  have h1 := of_hideAll _ hb
  have h2 : b ∉ feet H ρ ++ qAa A := fun q => by rw [hideAll_none _ q] at hb; cases hb
  obtain ⟨sl, e1, e2⟩ := r.kp.keep b o h1 fun q => h2 (List.mem_append_left _ q)
  rw [e2 fun q => h2 (List.mem_append_right _ q)] at e1
  exact e1
 refine ⟨l, e, by unfold Around.deeper; rw [e]; rfl, ⟨by rw [hk]; decide, ?_, ?_⟩, hs⟩
 ·obtain ⟨o, es, ep, h1, h2, _⟩ := n
  refine ⟨_, o, hf, ?_, h1, fun vs q => by rw [h2] at q; cases q⟩
  cases z : (hideAll s.heap (feet H ρ ++ qAa A)).get? s.heap.objs.size with
  | none => rfl
  | some o' => exact absurd (Heap.lt_size (of_hideAll _ z)) (Nat.lt_irrefl _)
 ·have hin : ∀ env ∈ l, ∀ L, env.frame = some L → L ∈ qAa A := fun env he L hL => by
   unfold qAa; rw [e]; exact List.mem_filterMap.mpr ⟨env, he, hL⟩
  have go : ∀ l' : List Env, (∀ env ∈ l', env ∈ l) → s1.heap.FunFrames (hideAll s.heap (feet H ρ ++ qAa A)) l' := by
   intro l'
   induction l' with
   | nil => exact fun _ => trivial
   | cons env' l' ih =>
    intro hl
    obtain ⟨h1, L, o, h2, h3, h4⟩ := q env' (hl _ (.head _))
    have hL := hin env' (hl _ (.head _)) L h2
    obtain ⟨sl, e1, _⟩ := r.kp.keep L o h3 (hF L hL)
    exact ⟨h1, ⟨L, _, h2, hideAll_none _ (List.mem_append_right _ hL), e1, h4⟩, ih fun env he => hl _ (.tail _ he)⟩
  exact go l fun _ h => h
theorem qC9 {e : Addr} {h' : Heap} (st : Stk A s.heap) (hF : ∀ a ∈ qAa A, a ∉ feet H ρ) (hk : env.scope.kind = .function) (hf : env.frame = some s.heap.objs.size) (r : Rel (cxIn w A s H ρ) ρ1 S1 s1) (hx : Heap.MadeExc s1.heap h' e cls args) :
  wpAny (MM w) (A.deeper env) (leaving env (.ref e)) (fun _ s'' => Thrown A s (feet H ρ) cls args (.ref e) s'') E { s1 with heap := h' } := by
 obtain ⟨l, e1, e2, fr, hs⟩ := qB6 st hF hk hf r
 refine wpAny_leaves_madeW (h := s1.heap) e2 hf hs fr hx.of fun h2 t x1 x2 x3 x4 => ⟨⟨e, t, l, rfl, e1, x1, x2, x3⟩, ?_, r.rest⟩
 exact qFg (l := l) st ((r.kp.step (Y := []) ⟨fun b o q _ => hx.keeps b o q⟩ (by simp))) x1.1 x4
theorem qFf {A1 : Around} {v : Value} (st : Stk A s.heap) (hF : ∀ a ∈ qAa A, a ∉ feet H ρ) (hk : env.scope.kind = .function) (hf : env.frame = some s.heap.objs.size) (r : Rel (cxIn w A s H ρ) ρ1 S1 s1) (hA : A1.frames = (A.deeper env).frames) (x : Thrown A1 s1 (feet S1.H ρ1) cls args v s2) :
  wpAny (MM w) (A.deeper env) (leaving env v) (fun _ s'' => Thrown A s (feet H ρ) cls args v s'') E s2 := by
 obtain ⟨l, e1, e2, fr, hs⟩ := qB6 st hF hk hf r
 obtain ⟨⟨e, t, l1, rfl, e3, fly, tup, ht⟩, kp, rest⟩ := x
 rw [hA, e2] at e3
 cases e3
 have fA : qAa A1 = s.heap.objs.size :: qAa A := by
  unfold qAa
  rw [hA, e2, e1]
  simp [hf]
 have hb : (hideAll s.heap (feet H ρ ++ qAa A)).StaysIn (hideAll s1.heap (feet S1.H ρ1 ++ qAa A1)) := fun b o q => by
  have h1 := of_hideAll _ q
  have h2 : b ∉ feet H ρ ++ qAa A := fun z => by rw [hideAll_none _ z] at q; cases q
  refine hideAll_get _ (hs b o q) fun z => ?_
  rcases List.mem_append.mp z with z | z
  ·rcases (r.ft b z).2 with y | y
   ·exact h2 (List.mem_append_left _ y)
   ·rw [h1] at y; cases y
  ·rw [fA] at z
   rcases lc z with z | z
   ·exact absurd (Heap.lt_size h1) (by rw [z]; exact Nat.lt_irrefl _)
   ·exact h2 (List.mem_append_right _ z)
 refine wpAny_leaves_onW e2 hf (flyingW_base hb fly) fun h2 x1 x2 => ⟨⟨e, t, l, rfl, e1, x1, tup.of_slots x2, fresh_of_stays hb ht⟩, ?_, ⟨rest.1.trans r.rest.1, rest.2.1.trans r.rest.2.1, rest.2.2.trans r.rest.2.2⟩⟩
 refine qFg (l := l) st (r.kp.trans kp (fun a ha => (r.ft a ha).2) fun a ha => ?_) x1.1 x2
 rw [fA] at ha
 rcases lc ha with z | z
 ·exact .inr (by rw [z]; exact r.lo.2)
 ·exact .inl z
end
inductive TokOut where
 | eof
 | word (w : List Nat) (rest : Option (List Nat))
 | bad (q : Bool)
noncomputable def qAf (m : Mode) (w : List Nat) (c : Nat) : Option (Mode × List Nat) := match m with
 | .gap => some (if isWs c then (.gap, []) else if c == 39 then (.sq, []) else if c == 34 then (.dq, []) else if c == 92 then (.kept, []) else (.word, [c]))
 | .word => if isWs c then none else some (if c == 39 then (.sq, w) else if c == 34 then (.dq, w) else if c == 92 then (.kept, w) else (.word, w ++ [c]))
 | .sq => some (if c == 39 then (.word, w) else (.sq, w ++ [c]))
 | .dq => some (if c == 34 then (.word, w) else if c == 92 then (.within, w) else (.dq, w ++ [c]))
 | .kept => some (.word, w ++ [c])
 | .within => some (.dq, (if c == 34 || c == 92 then w else w ++ [92]) ++ [c])
noncomputable def qHY : Mode → List Nat → TokOut
 | .gap, _ => .eof
 | .word, w => .word w none
 | .sq, _ => .bad true
 | .dq, _ => .bad true
 | .kept, _ => .bad false
 | .within, _ => .bad false
noncomputable def tokF : Mode → List Nat → List Nat → TokOut
 | m, w, [] => qHY m w
 | m, w, c :: l => match qAf m w c with
  | some (m', w') => tokF m' w' l
  | none => .word w (some l)
end
section
noncomputable def strL (w : List Nat) : Str := ⟨w.toArray⟩
theorem qDV (w : List Nat) (c : Nat) : strL w ++ ch c = strL (w ++ [c]) := Str.ext' (by
 show ((w.toArray ++ #[c]).toList) = _
 simp [strL])
theorem qCp (w : List Nat) : (strL w).length = w.length := by simp [strL, Str.length]
theorem qRo {w : List Nat} (h : w ≠ []) : ((strL w).cps.toList == ("" : Str).cps.toList) = false := by
 rw [beq_eq_false_iff_ne]
 intro e
 apply h
 have : (strL w).cps.toList = w := by simp [strL]
 rw [this] at e
 exact e
noncomputable def stAV : Mode → AV
 | .gap => sG | .word => sA | .sq => sQ1 | .dq => sQ2 | .kept => sB | .within => sB
theorem qQC : ∀ c ∈ qAn, (uN c = true → isWs c = true) ∧ uW c = isWs c ∧ uC c = false ∧ uE c = (c == 92) ∧ uQ c = (c == 39 || c == 34) ∧ u1 c = (c == 39) ∧ u2 c = (c == 34) ∧ v2 c = !(c == 34) ∧ v3 c = !(c == 92) := by decide +kernel
theorem qQB : uD 39 = false ∧ uD 34 = false := by decide +kernel
theorem qGk {ρ : Rho} : ∀ {fs fs' : LV} {es : List DictEntry}, All2 (fun f f' : Str × AV => f'.1 = f.1 ∧ ∀ v, vrel ρ f.2 v → vrel ρ f'.2 v) fs fs' → All2 (erel ρ) fs es → All2 (erel ρ) fs' es
 | _, _, _, .nil, .nil => .nil
 | _, _, _, .cons h r, .cons e q => .cons ⟨by rw [h.1]; exact e.1, h.2 _ e.2⟩ (qGk r q)
theorem qCX {α : Type} {R : α → α → Prop} (h : ∀ a, R a a) : ∀ l : List α, All2 R l l
 | [] => .nil
 | a :: l => .cons (h a) (qCX h l)
theorem qF8 (com : Str) (ws : Bool) (st tk : AV) (n : Int) : qFe com ws st tk n = (qFe com ws st tk n).take 11 ++ ((("state" : Str), st) :: ((qFe com ws st tk n).drop 12).take 3 ++ ((("token" : Str), tk) :: (qFe com ws st tk n).drop 16)) := rfl
theorem qIm {st st' tk tk' : AV} {n : Int} {r : List Nat} (h1 : ∀ ρ v, vrel ρ st v → vrel ρ st' v) (h2 : ∀ ρ v, vrel ρ tk v → vrel ρ tk' v) : View (qAh st tk n r) (qAh st' tk' n r) := by
 refine ⟨rfl, fun i o' h => ?_⟩
 match i, h with
 | 0, h =>
  cases h
  refine ⟨_, rfl, fun _ => rfl, fun ρ p hh ⟨a, es, m, b, q⟩ => ⟨a, es, m, b, qGk ?_ q⟩⟩
  rw [qF8, qF8 "" true st' tk' n]
  refine (qCX (fun a => ⟨rfl, fun _ h => h⟩) _).append (.cons ⟨rfl, fun v h => h1 ρ v h⟩ ((qCX (fun a => ⟨rfl, fun _ h => h⟩) _).append (.cons ⟨rfl, fun v h => h2 ρ v h⟩ (qCX (fun a => ⟨rfl, fun _ h => h⟩) _))))
 | 1, h => cases h; exact ⟨_, rfl, fun _ => rfl, fun _ _ _ x => x⟩
 | 2, h => cases h; exact ⟨_, rfl, fun _ => rfl, fun _ _ _ x => x⟩
 | 3, h => cases h; exact ⟨_, rfl, fun _ => rfl, fun _ _ _ x => x⟩
 | n + 4, h => cases h
theorem qEN {α : Type} {x : Str} {a : α} : ∀ {l m : List (Str × α)}, l.lookup x = some a → (l ++ m).lookup x = some a
 | [], _, h => by cases h
 | (y, b) :: l, m, h => by
  rw [List.cons_append, List.lookup_cons]
  rw [List.lookup_cons] at h
  split at h
  ·exact h
  ·exact qEN h
section
variable {cx : Cx} {ρ : Rho} {s : Shared} {A : Around} {E : VP} {m : Mode} {w rest : List Nat} {c : Nat} {q : Str} {a : Addr} {cd : Value}
noncomputable abbrev qDt (q : Bool) (e : Str) (st tk : AV) (n : Int) (rest : List Nat) : Sta := ⟨qCx q e, qAh st tk n rest, [], []⟩
theorem qCe {b : Bool} {e : Str} {ext : LV} {st st' tk tk' : AV} {n : Int} {o1 o2 : List Bool} (r : Rel cx ρ ⟨qCx b e ++ ext, qAh st tk n rest, o1, o2⟩ s) (h1 : ∀ ρ v, vrel ρ st v → vrel ρ st' v) (h2 : ∀ ρ v, vrel ρ tk v → vrel ρ tk' v) : Rel cx ρ (qDt b e st' tk' n rest) s :=
 r.re (S' := qDt b e st' tk' n rest) (r.hr.view (qIm h1 h2)) (qIm h1 h2).feet fun x a' h => ⟨a', qEN h, fun _ z => z⟩
def qQ6 (m : Mode) (w : List Nat) (b : Bool) (e : Str) : Prop := match m with
 | .gap => b = false ∧ w = [] ∧ e = " "
 | .word => w ≠ [] ∨ b = true
 | .kept => e = "a"
 | .within => e = "\""
 | _ => True
def qKa (cx : Cx) (ρ : Rho) (m : Mode) (w rest : List Nat) (s : Shared) : Prop := ∃ b e n, Rel cx ρ (qDt b e (stAV m) (.str (strL w)) n rest) s ∧ qQ6 m w b e
noncomputable def qGm : Option (List Nat) → AV
 | none => .none
 | some _ => sG
def qEo (cx : Cx) (ρ : Rho) (T : TokOut) (s : Shared) : Prop := match T with
 | .eof => ∃ n, Rel cx ρ (qDt false " " .none t0 n []) s
 | .word w r => ∃ b e n, Rel cx ρ (qDt b e (qGm r) (.str (strL w)) n (r.getD [])) s ∧ (w ≠ [] ∨ b = true)
 | .bad _ => False
noncomputable def qDv (b : Bool) : Str := if b then qBI else qD5
theorem qA3 {w : World} {ρ ρ' : Rho} {H H' : List AO} {h h' : Heap} (p : ρ <+: ρ') (r : HR w ρ H h) (r' : HR w ρ' H' h') (e : H'.length = H.length) : ρ' = ρ := by
 obtain ⟨t, rfl⟩ := p
 have h1 := r.len
 have h2 := r'.len
 rw [List.length_append, e, ← h1] at h2
 have : t = [] := List.length_eq_zero_iff.mp (by omega)
 rw [this, List.append_nil]
@[irreducible] def TurnE (cx : Cx) (A : Around) (E : VP) (q : Str) (a : Addr) (cd : Value) (Q : FP) (s : Shared) : Prop := wpAny (MM cx.w) A (execs qDr (envOf q scTok cx.L a cd)) Q E s
theorem TurnE.out {Q : FP} (h : TurnE cx A E q a cd Q s) : wpAny (MM cx.w) A (execs qDr (envOf q scTok cx.L a cd)) Q E s := by
 unfold TurnE at h; exact h
theorem qFN {b b' : Bool} {e e' : Str} {st tk st' tk' cv : AV} {n n' : Int} {rest' : List Nat} {orc ori : List Bool} {fl : Fl} {du : List Prop} {Q : FP} (hrun : tS cx.w.params b e st tk n rest orc ori = oS fl b' e' cv st' tk' n' rest' du) (hdu : ∀ p ∈ du, p)
  (r : Rel cx ρ (qDt b e st tk n rest) s) (ok : AOK cx A 5) (hfl : ∀ v, fl ≠ .ret v) (hE : ∀ v s' S', EX cx ρ fl S' v s' → E v s') (hQ : ∀ f s', (fl = .next → f = .next) → (fl = .cont → f = .cont) → (fl = .brk → f = .brk) → Rel cx ρ ⟨qCx b' e' ++ [(qTf, cv)], qAh st' tk' n' rest', [], []⟩ s' → Q f s') :
  TurnE cx A E q a cd Q s := by
 unfold TurnE
 refine wm (qAF (cx := cx) (q := q) (a := a) (cd := cd) (sc := scTok) (by kernel_rfl) (qET cx.w) qDr ⟨qCx b e, qAh st tk n rest, orc, ori⟩ _ _ _ hrun hdu A ρ s E ok ⟨r.hr, r.ns, r.ft, r.lo, r.kp, r.rest⟩ fun v s' x => hE v s' _ x) (fun f s' z => ?_)
 obtain ⟨ρ', p1, e1, r1⟩ := z
 obtain rfl : ρ' = ρ := qA3 p1 r.hr r1.hr rfl
 refine hQ f s' (fun h => ?_) (fun h => ?_) (fun h => ?_) r1 <;> (subst h; exact e1)
theorem qHZ {b b' : Bool} {e e' msg : Str} {st tk st' tk' cv : AV} {n n' : Int} {rest' : List Nat} {du : List Prop} {Q : FP} (hrun : tS cx.w.params b e st tk n rest [] [] = oS (.exc msg) b' e' cv st' tk' n' rest' du) (hdu : ∀ p ∈ du, p)
  (r : Rel cx ρ (qDt b e st tk n rest) s) (ok : AOK cx A 5) (hE : ∀ v s' S', EX cx ρ (.exc msg) S' v s' → E v s') : TurnE cx A E q a cd Q s := by
 unfold TurnE
 exact wm (qAF (cx := cx) (q := q) (a := a) (cd := cd) (sc := scTok) (by kernel_rfl) (qET cx.w) qDr ⟨qCx b e, qAh st tk n rest, [], []⟩ _ _ _ hrun hdu A ρ s E ok r fun v s' x => hE v s' _ x) (fun f s' ⟨_, _, e1, _⟩ => e1.elim)
noncomputable abbrev idV : ∀ {x : AV} (ρ : Rho) (v : Value), vrel ρ x v → vrel ρ x v := fun _ _ h => h
theorem nfT : nf := Nat.zero_le _
theorem qFH (hc : c ∈ qAn) (h : isWs c = false) : uN c = false := by
 cases e : uN c with
 | false => rfl
 | true => rw [(qQC c hc).1 e] at h; cases h
abbrev qNs (cx : Cx) (ρ : Rho) (x : Option (Mode × List Nat)) (w rest : List Nat) (f : Flow) (s' : Shared) : Prop := match x with
 | some (m', w') => (f = .next ∨ f = .cont) ∧ qKa cx ρ m' w' rest s'
 | none => f = .brk ∧ qEo cx ρ (.word w (some rest)) s'
theorem qAA {b b' : Bool} {e e' : Str} {st tk st' tk' cv : AV} {n n' : Int} {rest' w' : List Nat} {orc ori : List Bool} {m' : Mode} {fl : Fl} {du : List Prop} (hrun : tS cx.w.params b e st tk n rest orc ori = oS fl b' e' cv st' tk' n' rest' du) (hdu : ∀ p ∈ du, p) (hfl : fl = .next ∨ fl = .cont)
  (r : Rel cx ρ (qDt b e st tk n rest) s) (ok : AOK cx A 5) (h1 : ∀ ρ v, vrel ρ st' v → vrel ρ (stAV m') v) (h2 : ∀ ρ v, vrel ρ tk' v → vrel ρ (.str (strL w')) v) (hi : qQ6 m' w' b' e') : TurnE cx A E q a cd (qNs cx ρ (some (m', w')) w rest') s := by
 refine qFN hrun hdu r ok (fun v e => by rcases hfl with h | h <;> rw [h] at e <;> cases e) (fun v s' S' x => by rcases hfl with h | h <;> rw [h] at x <;> exact x.elim) fun f s' f1 f2 _ r1 => ⟨?_, b', e', n', qCe r1 h1 h2, hi⟩
 rcases hfl with h | h
 ·exact .inl (f1 h)
 ·exact .inr (f2 h)
theorem qFj {b b' : Bool} {e e' : Str} {st tk cv : AV} {n n' : Int} {rest' : List Nat} {orc ori : List Bool} {du : List Prop} (hrun : tS cx.w.params b e st tk n rest orc ori = oS .brk b' e' cv sG (.str (strL w)) n' rest' du) (hdu : ∀ p ∈ du, p)
  (r : Rel cx ρ (qDt b e st tk n rest) s) (ok : AOK cx A 5) (hi : w ≠ [] ∨ b' = true) : TurnE cx A E q a cd (qNs cx ρ none w rest') s := by
 refine qFN hrun hdu r ok (fun v e => nomatch e) (fun v s' S' x => x.elim) fun f s' _ _ f3 r1 => ⟨f3 rfl, b', e', n', qCe r1 idV idV, hi⟩
theorem qBr {c : Nat} {x : Str} (h : ch c = x) : ∀ (ρ : Rho) v, vrel ρ (.chr c) v → vrel ρ (.str x) v := fun _ _ ⟨t, e⟩ => ⟨t, by rw [← h]; exact e⟩
theorem qBa {w : List Nat} {c : Nat} : ∀ (ρ : Rho) v, vrel ρ (.str (strL w ++ ch c)) v → vrel ρ (.str (strL (w ++ [c]))) v := fun _ _ h => by rw [← qDV]; exact h
theorem qNH (hc : c ∈ qAn) (hz : w.length + 2 ≤ sizeLine) (h : qKa cx ρ m w (c :: rest) s) (ok : AOK cx A 5) : TurnE cx A E q a cd (qNs cx ρ (qAf m w c) w rest) s := by
 obtain ⟨b, e, n, r, hi⟩ := h
 obtain ⟨t1, t2, t3, t4, t5, t6, t7, t8, t9⟩ := qQC c hc
 have lfT : lf (strL w) := by show (strL w).length + 1 ≤ sizeLine; rw [qCp]; omega
 have lfL : (strL w).length ≤ sizeLine := by rw [qCp]; omega
 have w92 : strL w ++ "\\" = strL (w ++ [92]) := qDV w 92
 have lf92 : lf (strL w ++ "\\") := by show (strL w ++ "\\").length + 1 ≤ sizeLine; rw [w92, qCp, List.length_append]; exact hz
 have n1T : n1 := by decide
 cases m with
 | gap =>
  obtain ⟨rfl, rfl, rfl⟩ := hi
  cases hw : isWs c with
  | true =>
   rw [hw] at t2
   have es : qAf .gap [] c = some (.gap, []) := by simp [qAf, hw]
   rw [es]
   cases hn : uN c with
   | true => exact qAA (tkI 7 cx.w.params false "" "" c n rest rfl) (aCc nfT (aCc hn (aCc t2 (aCc nfT qAb)))) (.inr rfl) r ok idV idV ⟨rfl, rfl, rfl⟩
   | false => exact qAA (tkI 0 cx.w.params false "" "" c n rest rfl) (aCc nfT (aCc hn (aCc t2 (aCc nfT qAb)))) (.inr rfl) r ok idV idV ⟨rfl, rfl, rfl⟩
  | false =>
   rw [hw] at t2
   have hn := qFH hc hw
   cases h3 : (c == 92) with
   | true =>
    rw [h3] at t4
    have ec := beq_iff_eq.mp h3
    subst ec
    exact qAA (m' := .kept) (w' := []) (tkI 14 cx.w.params false "" "" 92 n rest rfl) (aCc nfT (aCc hn (aCc t2 (aCc t3 (aCc t4 qAb))))) (.inl rfl) r ok (qBr rfl) idV rfl
   | false =>
    rw [h3] at t4
    cases h1 : (c == 39) with
    | true =>
     have ec := beq_iff_eq.mp h1
     subst ec
     exact qAA (m' := .sq) (w' := []) (tkI 16 cx.w.params false "" "" 39 n rest rfl) (aCc nfT (aCc hn (aCc t2 (aCc t3 (aCc t4 (aCc qQB.1 (aCc t3 (aCc t5 qAb)))))))) (.inl rfl) r ok (qBr rfl) idV trivial
    | false =>
     cases h2 : (c == 34) with
     | true =>
      have ec := beq_iff_eq.mp h2
      subst ec
      exact qAA (m' := .dq) (w' := []) (tkI 16 cx.w.params false "" "" 34 n rest rfl) (aCc nfT (aCc hn (aCc t2 (aCc t3 (aCc t4 (aCc qQB.2 (aCc t3 (aCc t5 qAb)))))))) (.inl rfl) r ok (qBr rfl) idV trivial
     | false =>
      have es : qAf .gap [] c = some (.word, [c]) := by simp [qAf, hw, h1, h2, h3]
      rw [es]
      rw [h1, h2] at t5
      cases hd : uD c with
      | true => exact qAA (m' := .word) (w' := [c]) (tkI 15 cx.w.params false "" "" c n rest rfl) (aCc nfT (aCc hn (aCc t2 (aCc t3 (aCc t4 (aCc hd qAb)))))) (.inl rfl) r ok idV (qBr rfl) (.inl (by simp))
      | false => exact qAA (m' := .word) (w' := [c]) (tkI 17 cx.w.params false "" "" c n rest rfl) (aCc nfT (aCc hn (aCc t2 (aCc t3 (aCc t4 (aCc hd (aCc t3 (aCc t5 qAb)))))))) (.inl rfl) r ok idV (qBr rfl) (.inl (by simp))
 | word =>
  cases hw : isWs c with
  | true =>
   rw [hw] at t2
   have es : qAf .word w c = none := by simp [qAf, hw]
   rw [es]
   by_cases he : w = []
   ·have hb : b = true := hi.resolve_left (fun q => q he)
    subst hb
    have l0 : ((((strL w).length : Int) != 0) = false) := by rw [qCp, he]; rfl
    cases hn : uN c with
    | true => exact qFj (tkI 9 cx.w.params false e (strL w) c n rest rfl) (aCc nfT (aCc (by decide) (aCc hn (aCc (by decide) (aCc n1T (aCc t2 (aCc (by decide) (aCc lfL (aCc l0 qAb))))))))) r ok hi
    | false => exact qFj (tkI 2 cx.w.params false e (strL w) c n rest rfl) (aCc nfT (aCc (by decide) (aCc hn (aCc (by decide) (aCc n1T (aCc t2 (aCc (by decide) (aCc lfL (aCc l0 qAb))))))))) r ok hi
   ·have l0 : ((((strL w).length : Int) != 0) = true) := by
     rw [qCp]
     have : w.length ≠ 0 := fun q => he (List.length_eq_zero_iff.mp q)
     simpa using this
    cases hn : uN c with
    | true => exact qFj (tkI 8 cx.w.params b e (strL w) c n rest rfl) (aCc nfT (aCc (by decide) (aCc hn (aCc (by decide) (aCc n1T (aCc t2 (aCc (by decide) (aCc lfL (aCc l0 qAb))))))))) r ok hi
    | false => exact qFj (tkI 1 cx.w.params b e (strL w) c n rest rfl) (aCc nfT (aCc (by decide) (aCc hn (aCc (by decide) (aCc n1T (aCc t2 (aCc (by decide) (aCc lfL (aCc l0 qAb))))))))) r ok hi
  | false =>
   rw [hw] at t2
   have hn := qFH hc hw
   cases h1 : (c == 39) with
   | true =>
    have ec := beq_iff_eq.mp h1
    subst ec
    exact qAA (m' := .sq) (w' := w) (tkI 18 cx.w.params b e (strL w) 39 n rest rfl) (aCc nfT (aCc hn (aCc t2 (aCc t3 (aCc t5 qAb))))) (.inl rfl) r ok (qBr rfl) idV trivial
   | false =>
    cases h2 : (c == 34) with
    | true =>
     have ec := beq_iff_eq.mp h2
     subst ec
     exact qAA (m' := .dq) (w' := w) (tkI 18 cx.w.params b e (strL w) 34 n rest rfl) (aCc nfT (aCc hn (aCc t2 (aCc t3 (aCc t5 qAb))))) (.inl rfl) r ok (qBr rfl) idV trivial
    | false =>
     rw [h1, h2] at t5
     cases h3 : (c == 92) with
     | true =>
      rw [h3] at t4
      have ec := beq_iff_eq.mp h3
      subst ec
      exact qAA (m' := .kept) (w' := w) (tkI 19 cx.w.params b e (strL w) 92 n rest rfl) (aCc nfT (aCc hn (aCc t2 (aCc t3 (aCc t5 (aCc t4 qAb)))))) (.inl rfl) r ok (qBr rfl) idV rfl
     | false =>
      rw [h3] at t4
      have es : qAf .word w c = some (.word, w ++ [c]) := by simp [qAf, hw, h1, h2, h3]
      rw [es]
      cases hd : uD c with
      | true => exact qAA (m' := .word) (w' := w ++ [c]) (tkI 20 cx.w.params b e (strL w) c n rest rfl) (aCc nfT (aCc hn (aCc t2 (aCc t3 (aCc t5 (aCc t4 (aCc hd (aCc lfT qAb)))))))) (.inl rfl) r ok idV qBa (.inl (by simp))
      | false => exact qAA (m' := .word) (w' := w ++ [c]) (tkI 21 cx.w.params b e (strL w) c n rest rfl) (aCc nfT (aCc hn (aCc t2 (aCc t3 (aCc t5 (aCc t4 (aCc hd (aCc t5 (aCc (by rw [t3]; rfl) (aCc lfT qAb)))))))))) (.inl rfl) r ok idV qBa (.inl (by simp))
 | sq =>
  cases h1 : (c == 39) with
  | true =>
   rw [h1] at t6
   have ec := beq_iff_eq.mp h1
   subst ec
   exact qAA (m' := .word) (w' := w) (tkI 22 cx.w.params b e (strL w) 39 n rest rfl) (aCc nfT (aCc (qFH hc rfl) (aCc t6 qAb))) (.inl rfl) r ok idV idV (.inr rfl)
  | false =>
   rw [h1] at t6
   have es : qAf .sq w c = some (.sq, w ++ [c]) := by simp [qAf, h1]
   rw [es]
   cases h3 : (c == 92) with
   | true =>
    rw [h3] at t4
    have ec := beq_iff_eq.mp h3
    subst ec
    exact qAA (m' := .sq) (w' := w ++ [92]) (tkI 23 cx.w.params b e (strL w) 92 n rest rfl) (aCc nfT (aCc (qFH hc rfl) (aCc t6 (aCc t4 (aCc lfT qAb))))) (.inl rfl) r ok idV qBa trivial
   | false =>
    rw [h3] at t4
    cases hn : uN c with
    | true => exact qAA (m' := .sq) (w' := w ++ [c]) (tkI 10 cx.w.params b e (strL w) c n rest rfl) (aCc nfT (aCc hn (aCc t6 (aCc t4 (aCc lfT qAb))))) (.inl rfl) r ok idV qBa trivial
    | false => exact qAA (m' := .sq) (w' := w ++ [c]) (tkI 3 cx.w.params b e (strL w) c n rest rfl) (aCc nfT (aCc hn (aCc t6 (aCc t4 (aCc lfT qAb))))) (.inl rfl) r ok idV qBa trivial
 | dq =>
  cases h1 : (c == 34) with
  | true =>
   rw [h1] at t7
   have ec := beq_iff_eq.mp h1
   subst ec
   exact qAA (m' := .word) (w' := w) (tkI 24 cx.w.params b e (strL w) 34 n rest rfl) (aCc nfT (aCc (qFH hc rfl) (aCc t7 qAb))) (.inl rfl) r ok idV idV (.inr rfl)
  | false =>
   rw [h1] at t7
   cases h3 : (c == 92) with
   | true =>
    rw [h3] at t4
    have ec := beq_iff_eq.mp h3
    subst ec
    exact qAA (m' := .within) (w' := w) (tkI 25 cx.w.params b e (strL w) 92 n rest rfl) (aCc nfT (aCc (qFH hc rfl) (aCc t7 (aCc t4 qAb)))) (.inl rfl) r ok (qBr rfl) idV rfl
   | false =>
    rw [h3] at t4
    have es : qAf .dq w c = some (.dq, w ++ [c]) := by simp [qAf, h1, h3]
    rw [es]
    cases hn : uN c with
    | true => exact qAA (m' := .dq) (w' := w ++ [c]) (tkI 11 cx.w.params b e (strL w) c n rest rfl) (aCc nfT (aCc hn (aCc t7 (aCc t4 (aCc lfT qAb))))) (.inl rfl) r ok idV qBa trivial
    | false => exact qAA (m' := .dq) (w' := w ++ [c]) (tkI 4 cx.w.params b e (strL w) c n rest rfl) (aCc nfT (aCc hn (aCc t7 (aCc t4 (aCc lfT qAb))))) (.inl rfl) r ok idV qBa trivial
 | kept =>
  have hi : e = "a" := hi
  subst hi
  cases hn : uN c with
  | true => exact qAA (m' := .word) (w' := w ++ [c]) (tkI 12 cx.w.params b "" (strL w) c n rest rfl) (aCc nfT (aCc hn (aCc lfT qAb))) (.inl rfl) r ok idV qBa (.inl (by simp))
  | false => exact qAA (m' := .word) (w' := w ++ [c]) (tkI 5 cx.w.params b "" (strL w) c n rest rfl) (aCc nfT (aCc hn (aCc lfT qAb))) (.inl rfl) r ok idV qBa (.inl (by simp))
 | within =>
  have hi : e = "\"" := hi
  subst hi
  cases h3 : (c == 92) with
  | true =>
   rw [h3] at t9
   have ec := beq_iff_eq.mp h3
   subst ec
   exact qAA (m' := .dq) (w' := w ++ [92]) (tkI 26 cx.w.params b "" (strL w) 92 n rest rfl) (aCc nfT (aCc (qFH hc rfl) (aCc t9 (aCc lfT qAb)))) (.inl rfl) r ok idV qBa trivial
  | false =>
   rw [h3] at t9
   cases h1 : (c == 34) with
   | true =>
    rw [h1] at t8
    have ec := beq_iff_eq.mp h1
    subst ec
    exact qAA (m' := .dq) (w' := w ++ [34]) (tkI 27 cx.w.params b "" (strL w) 34 n rest rfl) (aCc nfT (aCc (qFH hc rfl) (aCc t9 (aCc t8 (aCc lfT qAb))))) (.inl rfl) r ok idV qBa trivial
   | false =>
    rw [h1] at t8
    have es : qAf .within w c = some (.dq, (w ++ [92]) ++ [c]) := by simp [qAf, h1, h3]
    rw [es]
    have h2 : ∀ (ρ : Rho) v, vrel ρ (.str (strL w ++ "\\" ++ ch c)) v → vrel ρ (.str (strL ((w ++ [92]) ++ [c]))) v := fun _ _ h => by rw [← qDV, ← w92]; exact h
    have l2 : (strL w).length + ("\\" : Str).length ≤ sizeLine := lfT
    cases hn : uN c with
    | true => exact qAA (m' := .dq) (w' := (w ++ [92]) ++ [c]) (tkI 13 cx.w.params b "" (strL w) c n rest rfl) (aCc nfT (aCc hn (aCc t9 (aCc t8 (aCc l2 (aCc lf92 qAb)))))) (.inl rfl) r ok idV h2 trivial
    | false => exact qAA (m' := .dq) (w' := (w ++ [92]) ++ [c]) (tkI 6 cx.w.params b "" (strL w) c n rest rfl) (aCc nfT (aCc hn (aCc t9 (aCc t8 (aCc l2 (aCc lf92 qAb)))))) (.inl rfl) r ok idV h2 trivial
theorem qNI (h : qKa cx ρ m w [] s) (ok : AOK cx A 5) (hE : ∀ b v s' S', qHY m w = .bad b → EX cx ρ (.exc (qDv b)) S' v s' → E v s') : TurnE cx A E q a cd (fun f s' => f = .brk ∧ qEo cx ρ (qHY m w) s') s := by
 obtain ⟨b, e, n, r, hi⟩ := h
 have no : ∀ {v : Value} {s' : Shared} {S' : Sta}, EX cx ρ .brk S' v s' → E v s' := fun x => x.elim
 cases m with
 | gap =>
  obtain ⟨rfl, rfl, rfl⟩ := hi
  exact qFN (tkI 28 cx.w.params false "" "" 0 n [] rfl) (aCc nfT (aCc nfT qAb)) r ok (fun v e => nomatch e) (fun v s' S' x => x.elim) fun f s' _ _ f3 r1 => ⟨f3 rfl, n, qCe r1 idV idV⟩
 | word => exact qFN (tkI 29 cx.w.params b e (strL w) 0 n [] rfl) (aCc nfT (aCc nfT qAb)) r ok (fun v e => nomatch e) (fun v s' S' x => x.elim) fun f s' _ _ f3 r1 => ⟨f3 rfl, b, e, n, qCe r1 idV idV, hi⟩
 | sq => exact qHZ (tkI 30 cx.w.params b e (strL w) 0 n [] rfl) (aCc nfT (aCc nfT qAb)) r ok fun v s' S' x => hE true v s' S' rfl x
 | dq => exact qHZ (tkI 31 cx.w.params b e (strL w) 0 n [] rfl) (aCc nfT (aCc nfT qAb)) r ok fun v s' S' x => hE true v s' S' rfl x
 | kept => exact qHZ (tkI 32 cx.w.params b e (strL w) 0 n [] rfl) (aCc nfT (aCc nfT qAb)) r ok fun v s' S' x => hE false v s' S' rfl x
 | within => exact qHZ (tkI 32 cx.w.params b e (strL w) 0 n [] rfl) (aCc nfT (aCc nfT qAb)) r ok fun v s' S' x => hE false v s' S' rfl x
end
end
section
section
variable {cx : Cx} {ρ : Rho} {S S' : Sta} {s : Shared} {A : Around} {E : VP} {o : List Prop} {d : Nat} {env : Env}
theorem nm {sc : Scope} {q y : Str} {a : Addr} {cd : Value} {yp : Pos} {u : AV} (hk : sc.kind = .function) (h : qAi (Kx cx) sc y S = some (u, S, o)) (r : Rel cx ρ S s) {Q : VP} (k : ∀ c s1, vrel ρ u c → Rel cx ρ S s1 → Q c s1) :
  wpAny (MM cx.w) A (eval (.Name y yp) (envOf q sc cx.L a cd)) Q E s :=
 wm (qAD hk h r) (fun c s1 z => oz13 z fun ρ1 p v r1 => by rw [qA3 p r.hr r1.hr rfl] at v r1; exact k c s1 v r1)
theorem nmL {sc : Scope} {q y : Str} {a : Addr} {cd : Value} {yp : Pos} {u : Value} (hk : sc.kind = .function) (h : qAi (Kx cx) sc y S = some (.lit u, S, o)) (r : Rel cx ρ S s) {Q : VP} (k : ∀ s1, Rel cx ρ S s1 → Q u s1) :
  wpAny (MM cx.w) A (eval (.Name y yp) (envOf q sc cx.L a cd)) Q E s := nm hk h r fun c s1 e r1 => by rw [show c = u from e]; exact k s1 r1
theorem nmS {sc : Scope} {q y : Str} {a : Addr} {cd : Value} {yp : Pos} {x : Str} (hk : sc.kind = .function) (h : qAi (Kx cx) sc y S = some (.str x, S, o)) (r : Rel cx ρ S s) {Q : VP} (k : ∀ t s1, Rel cx ρ S s1 → Q (.str x t) s1) :
  wpAny (MM cx.w) A (eval (.Name y yp) (envOf q sc cx.L a cd)) Q E s := nm hk h r fun c s1 e r1 => oz11 e fun t e => by rw [e]; exact k t s1 r1
theorem nmO {sc : Scope} {q y : Str} {a : Addr} {cd : Value} {yp : Pos} {i : Nat} {p : Addr × Addr} (hk : sc.kind = .function) (h : qAi (Kx cx) sc y S = some (.obj i, S, o)) (hp : ρ[i]? = some p) (r : Rel cx ρ S s) {Q : VP} (k : ∀ s1, Rel cx ρ S s1 → Q (.ref p.1) s1) :
  wpAny (MM cx.w) A (eval (.Name y yp) (envOf q sc cx.L a cd)) Q E s := nm hk h r fun c s1 e r1 => oz12 e fun p' e1 e => by rw [e, Option.some.inj (e1.symm.trans hp)]; exact k s1 r1
theorem evS {f : PySem.Expr → Sta → R AV} {e : PySem.Expr} {x : Str} (hf : qAY cx env d f) (h : f e S = some (.str x, S', o)) (ho : ∀ p ∈ o, p) (ok : AOK cx A d) (r : Rel cx ρ S s) (hl : S'.H.length = S.H.length) {Q : VP} (k : ∀ t s1, Rel cx ρ S' s1 → Q (.str x t) s1) :
  wpAny (MM cx.w) A (eval e env) Q E s :=
 wm (hf _ _ _ _ _ h ho A ρ s E ok r) (fun c s1 z => oz13 z fun ρ1 p v r1 => by rw [qA3 p r.hr r1.hr hl] at v r1; exact oz11 v fun t e => by rw [e]; exact k t s1 r1)
theorem evT {f : PySem.Expr → Sta → R Bool} {e : PySem.Expr} {b : Bool} (hf : qEY cx env d f) (h : f e S = some (b, S', o)) (ho : ∀ p ∈ o, p) (ok : AOK cx A d) (r : Rel cx ρ S s) (hl : S'.H.length = S.H.length) {Q : Bool → Shared → Prop} (k : ∀ s1, Rel cx ρ S' s1 → Q b s1) :
  wpAny (MM cx.w) A (isTrue e env (eval e env)) Q E s :=
 wm (hf _ _ _ _ _ h ho A ρ s E ok r) (fun c s1 z => oz02 z fun e z => oz12 z fun ρ1 p r1 => by rw [qA3 p r.hr r1.hr hl] at r1; rw [e]; exact k s1 r1)
theorem qLn {ρ ρ' : Rho} {H H' : List AO} {w : World} {h h' : Heap} (p : ρ <+: ρ') (r : HR w ρ H h) (r' : HR w ρ' H' h') (e : H'.length = H.length + 1) : ∃ q, ρ' = ρ ++ [q] := by
 obtain ⟨t, rfl⟩ := p
 have h1 := r'.len
 rw [List.length_append, e, r.len] at h1
 match t, h1 with
 | [q], _ => exact ⟨q, rfl⟩
 | [], h => exact absurd h (by simp)
 | _ :: _ :: _, h => exact absurd h (by simp)
theorem evO {f : PySem.Expr → Sta → R AV} {e : PySem.Expr} (hf : qAY cx env d f) (h : f e S = some (.obj S.H.length, S', o)) (ho : ∀ p ∈ o, p) (ok : AOK cx A d) (r : Rel cx ρ S s) (hl : S'.H.length = S.H.length + 1) {Q : VP} (k : ∀ q s1, Rel cx (ρ ++ [q]) S' s1 → Q (.ref (Prod.fst q)) s1) :
  wpAny (MM cx.w) A (eval e env) Q E s :=
 wpAny_mono (hf _ _ _ _ _ h ho A ρ s E ok r) (fun c s1 z => oz13 z fun ρ1 p v r1 => oz11 (qLn p r.hr r1.hr hl) fun q e => by
  rw [e] at v r1
  refine oz12 v fun q' e1 e2 => ?_
  rw [← r.hr.len, List.getElem?_concat_length] at e1
  rw [e2, ← Option.some.inj e1]; exact k q s1 r1) fun _ _ x => x
theorem rnN {cs : Cs} {sc : Scope} {q : Str} {a : Addr} {cd : Value} {body : List Stmt} (hk : sc.kind = .function) (hcs : Csv cx.w cs d) (h : run (Kx cx) cs sc body S = some (.next, S', o)) (ho : ∀ p ∈ o, p) (ok : AOK cx A (d + 1)) (r : Rel cx ρ S s) (hl : S'.H.length = S.H.length) {Q : FP} (k : ∀ s1, Rel cx ρ S' s1 → Q .next s1) :
  wpAny (MM cx.w) A (execs body (envOf q sc cx.L a cd)) Q E s :=
 wm (qAF hk hcs body _ _ _ _ h ho A ρ s E ok r fun _ _ x => x.elim) (fun c s1 z => oz13 z fun ρ1 p v r1 => by rw [qA3 p r.hr r1.hr hl] at r1; rw [show c = .next from v]; exact k s1 r1)
theorem rnR {cs : Cs} {sc : Scope} {q : Str} {a : Addr} {cd : Value} {body : List Stmt} {v : AV} (hk : sc.kind = .function) (hcs : Csv cx.w cs d) (h : run (Kx cx) cs sc body S = some (.ret v, S', o)) (ho : ∀ p ∈ o, p) (ok : AOK cx A (d + 1)) (r : Rel cx ρ S s) {Q : FP} (k : ∀ ρ1 c s1, ρ <+: ρ1 → vrel ρ1 v c → Rel cx ρ1 S' s1 → Q (.ret c) s1) :
  wpAny (MM cx.w) A (execs body (envOf q sc cx.L a cd)) Q E s :=
 wm (qAF hk hcs body _ _ _ _ h ho A ρ s E ok r fun _ _ x => x.elim) (fun f s1 z => oz13 z fun ρ1 p v r1 => oz12 v fun c e v => by rw [e]; exact k ρ1 c s1 p v r1)
theorem nmLK {sc : Scope} {q y : Str} {a : Addr} {cd : Value} {yp : Pos} {u : Value} (hk : sc.kind = .function) (h : qAi (Kx cx) sc y S = some (.lit u, S, o)) (r : Rel cx ρ S s) {Q : VP} (k : ∀ s1, Rel cx ρ S s1 → Kp (cx.L :: feet S.H ρ) cx.F s.heap s1.heap → Q u s1) :
  wpAny (MM cx.w) A (eval (.Name y yp) (envOf q sc cx.L a cd)) Q E s := nmL (cx := cx.now ρ S s) hk h r.now fun s1 r1 => k s1 (r.later r1) r1.kp
theorem nmSK {sc : Scope} {q y : Str} {a : Addr} {cd : Value} {yp : Pos} {x : Str} (hk : sc.kind = .function) (h : qAi (Kx cx) sc y S = some (.str x, S, o)) (r : Rel cx ρ S s) {Q : VP} (k : ∀ t s1, Rel cx ρ S s1 → Kp (cx.L :: feet S.H ρ) cx.F s.heap s1.heap → Q (.str x t) s1) :
  wpAny (MM cx.w) A (eval (.Name y yp) (envOf q sc cx.L a cd)) Q E s := nmS (cx := cx.now ρ S s) hk h r.now fun t s1 r1 => k t s1 (r.later r1) r1.kp
theorem evTK {f : PySem.Expr → Sta → R Bool} {e : PySem.Expr} {b : Bool} (hf : qEY (cx.now ρ S s) env d f) (h : f e S = some (b, S, o)) (ho : ∀ p ∈ o, p) (ok : AOK cx A d) (r : Rel cx ρ S s) {Q : Bool → Shared → Prop} (k : ∀ s1, Rel cx ρ S s1 → Kp (cx.L :: feet S.H ρ) cx.F s.heap s1.heap → Q b s1) :
  wpAny (MM cx.w) A (isTrue e env (eval e env)) Q E s := evT (cx := cx.now ρ S s) hf h ho (ok.now r) r.now rfl fun s1 r1 => k s1 (r.later r1) r1.kp
theorem stK {sc : Scope} {q x : Str} {a : Addr} {cd : Value} {w : AV} {c : Value} {u : Unit} (hk : sc.kind = .function) (h : qA0 sc x w S = some (u, S', o)) (rv : vrel ρ w c) (r : Rel cx ρ S s) {Q : Unit → Shared → Prop} (k : ∀ v s1, Rel cx ρ S' s1 → Kp (cx.L :: feet S.H ρ) cx.F s.heap s1.heap → Q v s1) :
  wpAny (MM cx.w) A (storeName (envOf q sc cx.L a cd) x c) Q E s := wm (qAu (cx := cx.now ρ S s) hk h rv r.now) (fun v s1 r1 => k v s1 (r.later r1) r1.kp)
end
end
section
noncomputable def whT : Stmt → PySem.Expr
 | .While t _ _ _ => t
 | _ => default
noncomputable def whP : Stmt → Pos
 | .While _ _ _ p => p
 | _ => default
theorem qKo : bTok = bTok.take 2 ++ .While (whT (nthS bTok 2)) qDr [] (whP (nthS bTok 2)) :: bTok.drop 3 := by kernel_rfl
theorem qHV (P : Params) (S : Sta) : (evs (KK P) (qFu P) scTok 2).t (whT (nthS bTok 2)) S = some (true, S, []) := by kernel_rfl
theorem qNZ {m m' : Mode} {w w' : List Nat} {c : Nat} (hs : qAf m w c = some (m', w')) : w'.length ≤ w.length + 2 := by
 cases m <;> simp only [qAf] at hs
 ·split at hs <;> (try split at hs) <;> (try split at hs) <;> (try split at hs) <;> (cases hs; simp)
 ·split at hs
  ·cases hs
  ·split at hs <;> (try split at hs) <;> (try split at hs) <;> (cases hs; simp)
 ·split at hs <;> (cases hs; simp)
 ·split at hs <;> (try split at hs) <;> (cases hs; simp)
 ·cases hs; simp
 ·cases hs; split <;> simp
theorem qDB : scTok.kind = .function := by kernel_rfl
section
variable {cx : Cx} {ρ : Rho} {s : Shared} {A : Around} {E : VP} {q : Str} {a : Addr} {cd : Value}
theorem qNK {T : TokOut} {m : Mode} {w rest : List Nat} {N : Nat} (hN : N + 2 ≤ sizeLine) (h : qKa cx ρ m w rest s) (hT : tokF m w rest = T) (hc : ∀ c ∈ rest, c ∈ qAn) (hl : w.length + 2 * rest.length ≤ N) (ok : AOK cx A 5) {Q : FP}
  (hE : ∀ b v s' S', T = .bad b → EX cx ρ (.exc (qDv b)) S' v s' → E v s') (hP : PassesOwn (MM cx.w) A (envOf q scTok cx.L a cd) E) (hQ : ∀ s', qEo cx ρ T s' → Q .next s') :
  wpAny (MM cx.w) A (exec (.While (whT (nthS bTok 2)) qDr [] (whP (nthS bTok 2))) (envOf q scTok cx.L a cd)) Q E s := by
 refine wpAny_While (codeAny_whileLoop (fun k s => ∃ m w rest, rest.length = k ∧ qKa cx ρ m w rest s ∧ tokF m w rest = T ∧ (∀ c ∈ rest, c ∈ qAn) ∧ w.length + 2 * rest.length ≤ N) ?_ rest.length ⟨m, w, rest, rfl, h, hT, hc, hl⟩)
 clear hT hc hl h
 rintro k s1 ⟨m, w, rest, hk, ⟨b, e, n, r, hi⟩, hT, hc, hl⟩
 refine wpAny_passesOwn hP (evT (qAt qDB (qET cx.w) 2).t (qHV cx.w.params _) qAb ok r rfl fun s2 r2 => ?_)
 rw [if_pos rfl]
 refine wpAny_passesOwn hP ?_
 cases rest with
 | nil =>
  refine wpAny_mono (qNI ⟨b, e, n, r2, hi⟩ ok fun b v s' S' hb x => hE b v s' S' (hT.symm.trans hb) x).out (fun f s3 zz => ?_) fun _ _ x => x
  obtain ⟨e3, z⟩ := zz
  subst e3
  have : qHY m w = T := hT
  rw [this] at z
  exact hQ s3 z
 | cons c rest =>
  simp only [List.length_cons] at hl hk
  refine wpAny_mono (qNH (hc c (.head _)) (by omega) ⟨b, e, n, r2, hi⟩ ok).out (fun f s3 z => ?_) fun _ _ x => x
  have hT' : (match qAf m w c with | some (m', w') => tokF m' w' rest | none => .word w (some rest)) = T := hT
  cases hs : qAf m w c with
  | none =>
   rw [hs] at z hT'
   obtain ⟨e3, z⟩ := z
   subst e3
   have hT' : TokOut.word w (some rest) = T := hT'
   rw [hT'] at z
   exact hQ s3 z
  | some y =>
   obtain ⟨m', w'⟩ := y
   rw [hs] at z hT'
   obtain ⟨e3, z⟩ := z
   have hw := qNZ hs
   have inv : ∃ m_1 w_1 rest_1, rest_1.length = rest.length ∧ qKa cx ρ m_1 w_1 rest_1 s3 ∧ tokF m_1 w_1 rest_1 = T ∧ (∀ c ∈ rest_1, c ∈ qAn) ∧ w_1.length + 2 * rest_1.length ≤ N := ⟨m', w', rest, rfl, z, hT', fun c hx => hc c (.tail _ hx), by omega⟩
   rcases e3 with e3 | e3
   ·subst e3; exact ⟨rest.length, by omega, inv⟩
   ·subst e3; exact ⟨rest.length, by omega, inv⟩
end
noncomputable abbrev qEx : TokOut → Value → Prop
 | .eof, v => v = .none
 | .word w _, v => ∃ t, v = .str (strL w) t
 | .bad _, _ => False
noncomputable abbrev qGM : TokOut → AV
 | .eof => .none
 | .word _ r => qGm r
 | .bad _ => .none
noncomputable abbrev qCD : TokOut → List Nat
 | .word _ r => r.getD []
 | _ => []
noncomputable def ends (Q E : VP) : RP := fun r s' => match r with | .ok (.ret v) => Q v s' | .ok _ => False | .error e => E e s'
section
variable {cx : Cx} {ρ : Rho} {s : Shared} {A : Around} {E : VP} {q : Str} {a : Addr} {cd : Value}
theorem qGL (ok : AOK cx A 5) {b : Bool} {e x : Str} {sv rv : AV} {n1 : Int} {r1 : List Nat} {ori : List Bool} {du : List Prop} {loc : LV} (hrun : run (Kx cx) (qFu cx.w.params) scTok (bTok.drop 3) ⟨qCx b e, qAh sv (.str x) n1 r1, [], ori⟩ = some (.ret rv, ⟨loc, qAh sv t0 n1 r1, [], []⟩, du)) (hdu : ∀ p ∈ du, p)
  (r : Rel cx ρ (qDt b e sv (.str x) n1 r1) s) {Q : FP} (k : ∀ cv s', vrel ρ rv cv → Rel cx ρ ⟨loc, qAh sv t0 n1 r1, [], []⟩ s' → Q (.ret cv) s') : wpAny (MM cx.w) A (execs (bTok.drop 3) (envOf q scTok cx.L a cd)) Q E s :=
 rnR (S := ⟨qCx b e, qAh sv (.str x) n1 r1, [], ori⟩) qDB (qET cx.w) hrun hdu ok ⟨r.hr, r.ns, r.ft, r.lo, r.kp, r.rest⟩ fun ρ' c s' p v r' => by rw [qA3 p r.hr r'.hr rfl] at v r'; exact k c s' v r'
theorem qHW {T : TokOut} (ok : AOK cx A 5) (z : qEo cx ρ T s) {Q : FP} (k : ∀ cv n1 loc s', qEx T cv → Rel cx ρ ⟨loc, qAh (qGM T) t0 n1 (qCD T), [], []⟩ s' → Q (.ret cv) s') : wpAny (MM cx.w) A (execs (bTok.drop 3) (envOf q scTok cx.L a cd)) Q E s := by
 cases T with
 | eof => exact oz11 z fun n3 r3 => qGL ok (qKp cx.w.params " " .none n3 []) qAb r3 fun cv s' v r' => k cv n3 _ s' v r'
 | word w' r' =>
  obtain ⟨b, e, n3, r3, hi⟩ := z
  cases b with
  | true => exact qGL ok (qKr cx.w.params e (strL w') (qGm r') n3 (r'.getD [])) qAb r3 fun cv s' v r' => k cv n3 _ s' v r'
  | false => exact qGL ok (qKq cx.w.params e (strL w') (qGm r') n3 (r'.getD [])) (aCc (qRo (hi.resolve_right (by decide))) (aCc (by decide) qAb)) r3 fun cv s' v r' => k cv n3 _ s' v r'
 | bad b => exact z.elim
theorem qNJ {n : Int} (ok : AOK cx A 5) (r : Rel cx ρ (qDt false " " .none t0 n []) s) (hP : PassesOwn (MM cx.w) A (envOf q scTok cx.L a cd) E) {Q : FP} (k : ∀ s', qEo cx ρ .eof s' → Q .next s') :
  wpAny (MM cx.w) A (exec (.While (whT (nthS bTok 2)) qDr [] (whP (nthS bTok 2))) (envOf q scTok cx.L a cd)) Q E s := by
 refine wpAny_While (codeAny_whileLoop (fun k s3 => k = 0 ∧ Rel cx ρ (qDt false " " .none t0 n []) s3) ?_ 0 ⟨rfl, r⟩)
 intro _ s3 z
 refine oz02 z fun _ r3 => wpAny_passesOwn hP (evT (qAt qDB (qET cx.w) 2).t (qHV cx.w.params _) qAb ok r3 rfl fun s4 r4 => ?_)
 rw [if_pos rfl]
 refine wpAny_passesOwn hP (qFN (tkI 33 cx.w.params false "" "" 0 n [] rfl) (aCc nfT qAb) r4 ok (fun v e => nomatch e) (fun v s' S' x => x.elim) fun f s' _ _ f3 r5 => ?_).out
 rw [f3 rfl]
 exact k s' ⟨n, qCe r5 idV idV⟩
theorem qNM {T : TokOut} {st : AV} {n : Int} {rest : List Nat} (ok : AOK cx A 5) (r : Rel cx ρ ⟨[(qAB, .obj 0)], qAh st t0 n rest, [], []⟩ s) (hT : (st = sG ∧ tokF .gap [] rest = T) ∨ (st = .none ∧ rest = [] ∧ T = .eof)) (hc : ∀ c ∈ rest, c ∈ qAn) (hl : 2 * rest.length + 2 ≤ sizeLine)
  (hP : PassesOwn (MM cx.w) A (envOf q scTok cx.L a cd) E) (hE : ∀ b v s' S', T = .bad b → EX cx ρ (.exc (qDv b)) S' v s' → E v s') {Q : FP} (k : ∀ cv n1 loc s', qEx T cv → Rel cx ρ ⟨loc, qAh (qGM T) t0 n1 (qCD T), [], []⟩ s' → Q (.ret cv) s') :
  wpAny (MM cx.w) A (execs bTok (envOf q scTok cx.L a cd)) Q E s := by
 rw [qKo]
 refine qBz (rnN qDB (qET cx.w) (qRd cx.w.params st t0 n rest) qAb ok r rfl fun s2 r1 => wpAny_execs_cons ?_)
 rcases hT with ⟨rfl, hT⟩ | ⟨rfl, rfl, rfl⟩
 ·exact qNK (N := 2 * rest.length) (m := .gap) (w := []) hl ⟨false, " ", n, r1, rfl, rfl, rfl⟩ hT hc (by simp) ok hE hP fun s' z => qHW ok z k
 ·exact qNJ ok r1 hP fun s' z => qHW ok z k
end
theorem qOb (P : Params) : (qDx P).scope = scTok := by kernel_rfl
theorem qNL {w : World} {A : Around} {s : Shared} {ρ : Rho} {p : Addr × Addr} {st : AV} {n : Int} {rest : List Nat} {T : TokOut} {Q E : VP} (rm : Room A 6) (hr : HR w ρ (qAh st t0 n rest) s.heap) (hp : ρ[0]? = some p) (hF : ∀ a ∈ qAa A, a ∉ feet (qAh st t0 n rest) ρ) (hst : Stk A s.heap)
  (hT : (st = sG ∧ tokF .gap [] rest = T) ∨ (st = .none ∧ rest = [] ∧ T = .eof)) (hc : ∀ c ∈ rest, c ∈ qAn) (hl : 2 * rest.length + 2 ≤ sizeLine)
  (hQ : ∀ v s' n', qEx T v → HR w ρ (qAh (qGM T) t0 n' (qCD T)) s'.heap → Kp (feet (qAh st t0 n rest) ρ) (qAa A) s.heap s'.heap → s'.gens = s.gens ∧ s'.drawn = s.drawn ∧ s'.os = s.os → Q v s')
  (hE : ∀ b v s', T = .bad b → (∃ t, Thrown A s (feet (qAh st t0 n rest) ρ) "ValueError" [.str (qDv b) t] v s') → E v s') : codeAny (MM w) A (.call (.ref 707) ⟨[.ref p.1], []⟩) (ends Q E) s := by
 refine qPR (d := 4) (args := [.obj 0]) (qMQ w) rm hr (fun a ha => ⟨let ⟨o, e, _⟩ := hst.there a ha; ⟨o, e⟩, hF a ha⟩) (.cons ⟨p, hp, rfl⟩ .nil) rfl fun s1 r ok => ?_
 have hkind : (qDx w.params).scope.kind = .function := by kernel_rfl
 have hP := PassesOwn.leaving (M := MM w) (A := A.deeper (envOf (qDx w.params).qualname (qDx w.params).scope s.heap.objs.size 707 (qDx w.params).code)) (env := envOf (qDx w.params).qualname (qDx w.params).scope s.heap.objs.size 707 (qDx w.params).code) (Q₁ := fun v s'' => ends Q E (.error v) s'') (E₁ := fun e' s'' => ends Q E (.error e') s'')
 have hL : ∀ b v s' S', T = .bad b → EX (cxIn w A s (qAh st t0 n rest) ρ) ρ (.exc (qDv b)) S' v s' → qMd w A (ends Q E) (envOf (qDx w.params).qualname (qDx w.params).scope s.heap.objs.size 707 (qDx w.params).code) v s' := fun b v s' S' hb x =>
  oz55 x fun e t s3 h' ρ' ev p1 r1 hm es => by subst ev es; exact wm (qC9 hst hF hkind rfl r1 hm) (fun _ s'' x => hE b _ s'' hb ⟨t, x⟩)
 rw [qOb] at ok hL hP ⊢
 exact qNM (cx := cxIn w A s (qAh st t0 n rest) ρ) ok r hT hc hl hP hL fun cv n1 loc s' hv r' => hQ cv s' n1 hv r'.hr r'.kp r'.rest
end
section
noncomputable def stE : Stmt → PySem.Expr
 | .Assign _ e _ => e
 | .Return (some e) _ => e
 | .Expr e _ => e
 | .If e _ _ _ => e
 | _ => default
noncomputable def stT : Stmt → PySem.Expr
 | .Assign [t] _ _ => t
 | _ => default
noncomputable def stP : Stmt → Pos
 | .Assign _ _ p => p
 | .Return _ p => p
 | .If _ _ _ p => p
 | .Raise _ _ p => p
 | .Try _ _ _ _ p => p
 | .Expr _ p => p
 | _ => default
noncomputable def cF : PySem.Expr → PySem.Expr
 | .Call f _ _ _ => f
 | .Attribute o _ _ => o
 | .Subscript o _ _ => o
 | _ => default
noncomputable def cA (i : Nat) : PySem.Expr → PySem.Expr
 | .Call _ as _ _ => as.getD i default
 | .Tuple es _ _ => es.getD i default
 | .Compare _ _ qs _ => qs.getD i default
 | .BoolOp _ es _ => es.getD i default
 | _ => default
noncomputable def cP : PySem.Expr → Pos
 | .Call _ _ _ p => p
 | .Attribute _ _ p => p
 | .Name _ p => p
 | .Tuple _ _ p => p
 | .Compare _ _ _ p => p
 | .Subscript _ _ p => p
 | .BoolOp _ _ p => p
 | _ => default
noncomputable def stX : Stmt → PySem.Expr
 | .Raise (some e) _ _ => e
 | _ => default
noncomputable def qE5 (y m : Str) (st : Stmt) : Stmt := .Assign [.Name y (cP (stT st))] (.Call (.Attribute (.Name qAB (cP (cF (cF (stE st))))) m (cP (cF (stE st)))) [] [] (cP (stE st))) (stP st)
noncomputable def qE4 (st : Stmt) : Bool := (cP (cF (stE st))).endLine == (cP (stE st)).line
theorem qJO {H H' : List AO} {ρ : Rho} (h : ∀ (i : Nat) o, H[i]? = some o → ∃ o', H'[i]? = some o' ∧ ∀ p, foot o p = foot o' p) : ∀ a ∈ feet H ρ, a ∈ feet H' ρ := fun a ha => by
 obtain ⟨i, o, p, h1, h2, h3⟩ := qAw ha
 obtain ⟨o', e1, e2⟩ := h i o h1
 rw [e2] at h3
 exact qAo e1 h2 a h3
theorem qCS {st tk st' tk' : AV} {n n' : Int} {r r' : List Nat} {ρ : Rho} : ∀ a ∈ feet (qAh st tk n r) ρ, a ∈ feet (qAh st' tk' n' r') ρ :=
 qJO fun i o h => match i, h with
  | 0, h => ⟨_, rfl, fun p => by cases h; rfl⟩
  | 1, h => ⟨_, rfl, fun p => by cases h; rfl⟩
  | 2, h => ⟨_, rfl, fun p => by cases h; rfl⟩
  | 3, h => ⟨_, rfl, fun p => by cases h; rfl⟩
  | n + 4, h => by cases h
section
variable {cx : Cx} {ρ : Rho} {S : Sta} {s : Shared} {A : Around} {E : VP} {q : Str} {a : Addr} {cd : Value} {sc : Scope}
theorem qBH {x : Str} {T : String} {pos : Pos} {Q : VP} (hk : sc.kind = .function) (hd : (x == ("__debug__" : Str)) = false) (hl : sc.names.lookup x = some .globalImplicit) (g : nsIn (Kx cx) mainGlobals x = some none) (g2 : nsIn (Kx cx) builtinsNs x = some (some (.type T))) (X : (Kx cx).In s.heap) (h : Q (.type T) s) :
  wpAny (MM cx.w) A (eval (.Name x pos) (envOf q sc cx.L a cd)) Q E s := by
 refine wpAny_Name ?_ hd
 have e : loadName (envOf q sc cx.L a cd) x = loadGlobal (envOf q sc cx.L a cd) x := by
  have hl' : (envOf q sc cx.L a cd).kindOf x = some .globalImplicit := hl
  have hk' : (envOf q sc cx.L a cd).scope.kind = .function := hk
  unfold loadName
  simp only [Env.blockKind, hk', hl', ScopeKind.isAnnotationScope, Bool.false_and, Bool.false_eq_true, if_false]
 rw [e]
 unfold loadGlobal
 exact wpAny_bind ((looks_nsIn X g).here (wpAny_bind ((looks_nsIn (ns := builtinsNs) X g2).here (wpAny_pure h))))
theorem qIR {y m : Str} {st : Stmt} {C g : Addr} {fs : LV} {p : Addr × Addr} {Q : FP} (hk : sc.kind = .function) (hline : qE4 st = true) (r : Rel cx ρ S s) (hx : qAi (Kx cx) sc qAB S = some (.obj 0, S, [])) (hi : S.H[0]? = some (.inst C fs)) (hp : ρ[0]? = some p)
  (hg : plainGet (Kx cx) C m = true) (hl : fs.lookup m = none) (hfi : findIn (Kx cx) (.ref C) m = some (some (.ref g))) (hfn : isFn (Kx cx) (.ref g) = true) (hkp : keepIn (Kx cx) (.ref g) = true)
  (h : ∀ s1, Rel cx ρ S s1 → codeAny (MM cx.w) A (.call (.ref g) ⟨[.ref p.1], []⟩) (ends (fun v s' => wpAny (MM cx.w) A (storeName (envOf q sc cx.L a cd) y v) (fun _ => Q .next) E s') E) s1) :
  wpAny (MM cx.w) A (exec (qE5 y m st) (envOf q sc cx.L a cd)) Q E s := by
 refine wpAny_Assign_Name (qCY rfl hline (by decide) rfl (wm (qAD hk hx r) (fun ov s1 zz => ?_))) (qBj rfl)
 obtain ⟨ρ1, p1, ⟨p', e1, e2⟩, r1⟩ := zz
 obtain rfl : ρ1 = ρ := qA3 p1 r.hr r1.hr rfl
 rw [hp] at e1
 cases e1
 subst e2
 intro pl
 obtain ⟨h1, es, n, h2, hes⟩ := r1.hr.obj _ _ _ hi hp
 obtain ⟨m', F⟩ := r1.fr
 refine method_inst F (qHk cx.w.params) (qGc (C := C) (fs := fs) h1 h2) hg hfi hfn (qCT hes hl) ?_
 refine qAx (K := Kx cx) (es := []) rfl hkp (Calls.spliced_nil ⟨r1.X, ?_⟩)
 refine wpAny_call (codeAny_mono (h s1 r1) fun rr s' z => ?_)
 rcases rr with e | (_ | _ | _ | u) <;> exact z
theorem qDW {w : World} {A : Around} {s s1 : Shared} {H : List AO} {ρ ρ1 : Rho} {S1 : Sta} {env : Env} (st : Stk A s.heap) (hF : ∀ a ∈ qAa A, a ∉ feet H ρ) (hk : env.scope.kind = .function) (hf : env.frame = some s.heap.objs.size) (r : Rel (cxIn w A s H ρ) ρ1 S1 s1) : Stk (A.deeper env) s1.heap := by
 obtain ⟨m, n, _⟩ := r.ns
 exact (st.kp r.kp hF).deeper hk hf n
end
noncomputable abbrev xRaw : Str := "raw"
noncomputable abbrev qDN : Str := "token"
noncomputable abbrev qJP (P : Params) : FuncData := fdOf (o700 P)
noncomputable abbrev bGet : List Stmt := qBh (F2 22 5)
noncomputable abbrev scGet : Scope := qAM (F2 22 5)
theorem qMY (w : World) : FnFacts w 700 (qJP w.params) bGet [qAB] :=
 .of1 (by kernel_rfl) (by kernel_rfl) (by kernel_rfl) fun _ => by kernel_rfl
noncomputable abbrev qVd (P : Params) : FuncData := fdOf (o736 P)
noncomputable abbrev bNxt : List Stmt := qBh (F2 22 10)
noncomputable abbrev scNxt : Scope := qAM (F2 22 10)
theorem qMU (w : World) : FnFacts w 736 (qVd w.params) bNxt [qAB] :=
 .of1 (by kernel_rfl) (by kernel_rfl) (by kernel_rfl) fun _ => by kernel_rfl
theorem qMz : bGet = bGet.take 1 ++ qE5 xRaw "read_token" (nthS bGet 1) :: bGet.drop 2 := by kernel_rfl
theorem qPH : qE4 (nthS bGet 1) = true := by kernel_rfl
theorem qSL (P : Params) (st : AV) (n : Int) (r : List Nat) : run (KK P) cs0 scGet (bGet.take 1) ⟨[(qAB, .obj 0)], qAh st t0 n r, [], []⟩ = some (.next, ⟨[(qAB, .obj 0)], qAh st t0 n r, [], []⟩, []) := by kernel_rfl
theorem qMB (P : Params) (st : AV) (n : Int) (r : List Nat) : run (KK P) cs0 scGet (bGet.drop 2) ⟨[(qAB, .obj 0), (xRaw, .none)], qAh st t0 n r, [], []⟩ = some (.ret .none, ⟨[(qAB, .obj 0), (xRaw, .none)], qAh st t0 n r, [], []⟩, []) := by kernel_rfl
theorem qMA (P : Params) (x : Str) (st : AV) (n : Int) (r : List Nat) : run (KK P) cs0 scGet (bGet.drop 2) ⟨[(qAB, .obj 0), (xRaw, .str x)], qAh st t0 n r, [], []⟩ = some (.ret (.str x), ⟨[(qAB, .obj 0), (xRaw, .str x)], qAh st t0 n r, [], []⟩, []) := by kernel_rfl
theorem qPG (P : Params) (H : List AO) : qAi (KK P) scGet qAB ⟨[(qAB, .obj 0)], H, [], []⟩ = some (.obj 0, ⟨[(qAB, .obj 0)], H, [], []⟩, []) := by kernel_rfl
theorem qMy (v : AV) (H : List AO) : qA0 scGet xRaw v ⟨[(qAB, .obj 0)], H, [], []⟩ = some ((), ⟨[(qAB, .obj 0), (xRaw, v)], H, [], []⟩, []) := by kernel_rfl
theorem qLI : bNxt = qE5 qDN "get_token" (nthS bNxt 0) :: .If (stE (nthS bNxt 1)) [.Raise (some (.Name "StopIteration" (cP (stX (qDm (nthS bNxt 1)))))) none (stP (qDm (nthS bNxt 1)))] [] (stP (nthS bNxt 1)) :: bNxt.drop 2 := by kernel_rfl
theorem qOT : qE4 (nthS bNxt 0) = true := by kernel_rfl
theorem qOR (P : Params) (H : List AO) : qAi (KK P) scNxt qAB ⟨[(qAB, .obj 0)], H, [], []⟩ = some (.obj 0, ⟨[(qAB, .obj 0)], H, [], []⟩, []) := by kernel_rfl
theorem qLH (v : AV) (H : List AO) : qA0 scNxt qDN v ⟨[(qAB, .obj 0)], H, [], []⟩ = some ((), ⟨[(qAB, .obj 0), (qDN, v)], H, [], []⟩, []) := by kernel_rfl
theorem qLG (P : Params) (st : AV) (n : Int) (r : List Nat) : (evs (KK P) cs0 scNxt 5).t (stE (nthS bNxt 1)) ⟨[(qAB, .obj 0), (qDN, .none)], qAh st t0 n r, [], []⟩ = some (true, ⟨[(qAB, .obj 0), (qDN, .none)], qAh st t0 n r, [], []⟩, []) := by kernel_rfl
theorem qOS (P : Params) (x : Str) (st : AV) (n : Int) (r : List Nat) : run (KK P) cs0 scNxt (bNxt.drop 1) ⟨[(qAB, .obj 0), (qDN, .str x)], qAh st t0 n r, [], []⟩ = some (.ret (.str x), ⟨[(qAB, .obj 0), (qDN, .str x)], qAh st t0 n r, [], []⟩, []) := by kernel_rfl
theorem qOi (P : Params) : (qJP P).scope = scGet := by kernel_rfl
theorem qOe (P : Params) : (qVd P).scope = scNxt := by kernel_rfl
theorem gl1 (P : Params) : plainGet (KK P) 739 "read_token" = true := qLy rfl
theorem gl2 (P : Params) : findIn (KK P) (.ref 739) "read_token" = some (some (.ref 707)) := by kernel_rfl
theorem gl3 (P : Params) : isFn (KK P) (.ref 707) = true := by kernel_rfl
theorem gl4 (P : Params) : keepIn (KK P) (.ref 707) = true := by kernel_rfl
theorem gl5 (P : Params) : plainGet (KK P) 739 "get_token" = true := qLy rfl
theorem gl6 (P : Params) : findIn (KK P) (.ref 739) "get_token" = some (some (.ref 700)) := by kernel_rfl
theorem gl7 (P : Params) : isFn (KK P) (.ref 700) = true := by kernel_rfl
theorem gl8 (P : Params) : keepIn (KK P) (.ref 700) = true := by kernel_rfl
theorem gl9 (st tk : AV) (n : Int) : (qFe "" true st tk n).lookup ("read_token" : Str) = none := by kernel_rfl
theorem gl10 (st tk : AV) (n : Int) : (qFe "" true st tk n).lookup ("get_token" : Str) = none := by kernel_rfl
theorem gs1 (P : Params) : scNxt.names.lookup ("StopIteration" : Str) = some .globalImplicit := by kernel_rfl
theorem gs2 (P : Params) : nsIn (KK P) mainGlobals ("StopIteration" : Str) = some none := by kernel_rfl
theorem gs3 (P : Params) : nsIn (KK P) builtinsNs ("StopIteration" : Str) = some (some (.type "StopIteration")) := by kernel_rfl
end
structure LexAt (w : World) (A : Around) (s : Shared) (ρ : Rho) (st : AV) (n : Int) (rest : List Nat) (p : Addr × Addr) : Prop where
 hr : HR w ρ (qAh st t0 n rest) s.heap
 hp : ρ[0]? = some p
 hF : ∀ a ∈ qAa A, a ∉ feet (qAh st t0 n rest) ρ
 stk : Stk A s.heap
def qDM (st : AV) (rest : List Nat) (T : TokOut) : Prop := ((st = sG ∧ tokF .gap [] rest = T) ∨ (st = .none ∧ rest = [] ∧ T = .eof)) ∧ (∀ c ∈ rest, c ∈ qAn) ∧ 2 * rest.length + 2 ≤ sizeLine
abbrev LexQ (w : World) (A : Around) (s : Shared) (ρ : Rho) (st : AV) (n : Int) (rest : List Nat) (T : TokOut) (Q : VP) : Prop := ∀ v s' n', qEx T v → HR w ρ (qAh (qGM T) t0 n' (qCD T)) s'.heap → Kp (feet (qAh st t0 n rest) ρ) (qAa A) s.heap s'.heap → s'.gens = s.gens ∧ s'.drawn = s.drawn ∧ s'.os = s.os → Q v s'
abbrev LexE (A : Around) (s : Shared) (ρ : Rho) (st : AV) (n : Int) (rest : List Nat) (T : TokOut) (E : VP) : Prop := ∀ b v s', T = .bad b → (∃ t, Thrown A s (feet (qAh st t0 n rest) ρ) "ValueError" [.str (qDv b) t] v s') → E v s'
theorem qIO {cx : Cx} {ρ : Rho} {s s' : Shared} {A : Around} {d : Nat} {loc : LV} {st st' : AV} {n n' : Int} {r r' : List Nat} (x : Rel cx ρ ⟨loc, qAh st t0 n r, [], []⟩ s) (ok : AOK cx A d) (hr : HR cx.w ρ (qAh st' t0 n' r') s'.heap) (k : Kp (feet (qAh st t0 n r) ρ) (qAa A) s.heap s'.heap) (e : s'.gens = s.gens ∧ s'.drawn = s.drawn ∧ s'.os = s.os) :
  Rel cx ρ ⟨loc, qAh st' t0 n' r', [], []⟩ s' :=
 x.called (H' := qAh st' t0 n' r') ok (List.prefix_refl _) hr k (fun a ha => .inl (qCS a ha)) e
theorem qKj {ρ : Rho} {T : TokOut} {v : Value} (h : qEx T v) : ∃ av, vrel ρ av v ∧ ((T = .eof ∧ av = .none) ∨ ∃ w r, T = .word w r ∧ av = .str (strL w)) := by
 cases T with
 | eof => exact ⟨.none, h, .inl ⟨rfl, rfl⟩⟩
 | word w r => exact ⟨.str (strL w), h, .inr ⟨w, r, rfl, rfl⟩⟩
 | bad b => exact h.elim
theorem qPI {w : World} {A : Around} {s : Shared} {ρ : Rho} {p : Addr × Addr} {st : AV} {n : Int} {rest : List Nat} {T : TokOut} {Q E : VP} (rm : Room A 8) (x : LexAt w A s ρ st n rest p) (hT : qDM st rest T)
  (hQ : LexQ w A s ρ st n rest T Q) (hE : LexE A s ρ st n rest T E) : codeAny (MM w) A (.call (.ref 700) ⟨[.ref p.1], []⟩) (ends Q E) s := by
 refine qBl (d := 6) (args := [.obj 0]) (qMY w) rm x.hr (fun a ha => ⟨let ⟨o, e, _⟩ := x.stk.there a ha; ⟨o, e⟩, x.hF a ha⟩) (.cons ⟨p, x.hp, rfl⟩ .nil) rfl fun s1 E' hL r ok => ?_
 rw [qOi] at ok ⊢
 rw [qMz]
 have hkind : scGet.kind = .function := by kernel_rfl
 refine qBz (wm (qAF (cx := cxIn w A s (qAh st t0 n rest) ρ) (sc := scGet) hkind (csv0 w 6) (bGet.take 1) _ _ _ _ (qSL w.params st n rest) qAb _ _ _ _ ok r fun _ _ x => x.elim) (fun f s2 z => ?_))
 obtain ⟨ρ1, p1, e1, r1⟩ := z
 cases e1
 obtain rfl : ρ1 = ρ := qA3 p1 x.hr r1.hr rfl
 dsimp only
 refine wpAny_execs_cons (qIR (cx := cxIn w A s (qAh st t0 n rest) ρ1) (g := 707) hkind qPH r1 (qPG w.params _) rfl x.hp (gl1 w.params) (gl9 _ _ _) (gl2 w.params) (gl3 w.params) (gl4 w.params) fun s3 r3 => ?_)
 refine qNL (ok.room.le (by decide)) r3.hr x.hp (fun a ha => (ok.disj r3 a ha).2) (qDW x.stk x.hF hkind rfl r3) hT.1 hT.2.1 hT.2.2 (fun v s4 n' hv hr4 k4 e4 => ?_) fun b v s4 hb ⟨t, th⟩ => ?_
 ·have r4 := qIO r3 ok hr4 k4 e4
  obtain ⟨av, hav, hcase⟩ := qKj (ρ := ρ1) hv
  refine wm (qAu (cx := cxIn w A s (qAh st t0 n rest) ρ1) hkind (qMy av _) hav r4) (fun _ s5 r5 => ?_)
  have fin : ∀ {rv : AV} {S' : Sta}, run (KK w.params) cs0 scGet (bGet.drop 2) ⟨[(qAB, .obj 0), (xRaw, av)], qAh (qGM T) t0 n' (qCD T), [], []⟩ = some (.ret rv, S', []) → S'.H = qAh (qGM T) t0 n' (qCD T) → (∀ v, vrel ρ1 rv v → qEx T v) →
    ∀ E', wpAny (MM w) (A.deeper (envOf (qJP w.params).qualname scGet s.heap.objs.size 700 (qJP w.params).code)) (execs (bGet.drop 2) (envOf (qJP w.params).qualname scGet s.heap.objs.size 700 (qJP w.params).code)) (fun fl s' => ends Q E (.ok (.ret (match fl with | .ret v => v | _ => .none))) s') E' s5 := by
   intro rv S' hrun hH hv E'
   refine wm (qAF (cx := cxIn w A s (qAh st t0 n rest) ρ1) (sc := scGet) hkind (csv0 w 6) (bGet.drop 2) _ _ _ _ hrun qAb _ ρ1 s5 E' ok r5 fun _ _ x => x.elim) (fun f s6 z => ?_)
   obtain ⟨ρ6, p6, ⟨cv, rfl, v6⟩, r6⟩ := z
   have h6 := r6.hr
   rw [hH] at h6
   obtain rfl : ρ6 = ρ1 := qA3 p6 hr4 h6 rfl
   exact hQ cv s6 n' (hv cv v6) h6 r6.kp r6.rest
  rcases hcase with ⟨hT, rfl⟩ | ⟨w', r', hT, rfl⟩
  ·exact fin (qMB w.params _ n' _) rfl (fun v h => by rw [hT]; exact h) _
  ·exact fin (qMA w.params (strL w') _ n' _) rfl (fun v h => by rw [hT]; exact h) _
 ·exact hL _ _ (wm (qFf x.stk x.hF hkind rfl r3 rfl th) (fun _ s5 y => hE b v s5 hb ⟨t, y⟩))
theorem qOU {w : World} {A : Around} {s : Shared} {ρ : Rho} {p : Addr × Addr} {st : AV} {n : Int} {rest : List Nat} {T : TokOut} {Q E : VP} (rm : Room A 10) (x : LexAt w A s ρ st n rest p) (hT : qDM st rest T)
  (hQ : ∀ w' r', T = .word w' r' → LexQ w A s ρ st n rest T Q) (hE : LexE A s ρ st n rest T E) (hS : T = .eof → ∀ v s', Thrown A s (feet (qAh st t0 n rest) ρ) "StopIteration" [] v s' → E v s') : codeAny (MM w) A (.call (.ref 736) ⟨[.ref p.1], []⟩) (ends Q E) s := by
 refine qBl (d := 8) (args := [.obj 0]) (qMU w) rm x.hr (fun a ha => ⟨let ⟨o, e, _⟩ := x.stk.there a ha; ⟨o, e⟩, x.hF a ha⟩) (.cons ⟨p, x.hp, rfl⟩ .nil) rfl fun s1 E' hL r1 ok => ?_
 rw [qOe] at ok ⊢
 have hkind : scNxt.kind = .function := by kernel_rfl
 rw [qLI]
 refine wpAny_execs_cons (qIR (cx := cxIn w A s (qAh st t0 n rest) ρ) (g := 700) hkind qOT r1 (qOR w.params _) rfl x.hp (gl5 w.params) (gl10 _ _ _) (gl6 w.params) (gl7 w.params) (gl8 w.params) fun s3 r3 => ?_)
 refine qPI (ok.room.le (by decide)) ⟨r3.hr, x.hp, fun a ha => (ok.disj r3 a ha).2, qDW x.stk x.hF hkind rfl r3⟩ hT (fun v s4 n' hv hr4 k4 e4 => ?_) fun b v s4 hb ⟨t, th⟩ => ?_
 ·have r4 := qIO r3 ok hr4 k4 e4
  obtain ⟨av, hav, hcase⟩ := qKj (ρ := ρ) hv
  refine wm (qAu (cx := cxIn w A s (qAh st t0 n rest) ρ) hkind (qLH av _) hav r4) (fun _ s5 r5 => ?_)
  dsimp only
  rcases hcase with ⟨hT, rfl⟩ | ⟨w', r', hT', rfl⟩
  ·refine wpAny_execs_cons (wpAny_If (wm ((qAt (cx := cxIn w A s (qAh st t0 n rest) ρ) (sc := scNxt) hkind (csv0 w 8) 5).t _ _ _ _ _ (qLG w.params _ n' _) qAb _ ρ s5 _ ok r5) (fun c s6 zz => ?_)))
   obtain ⟨e1, ρ6, p6, r6⟩ := zz
   subst e1
   rw [if_pos rfl]
   refine wpAny_execs_cons (owsi_raiseC ok.room.2 (qBH (cx := cxIn w A s (qAh st t0 n rest) ρ) hkind (by decide) (gs1 w.params) (gs2 w.params) (gs3 w.params) r6.X ⟨rfl, rfl⟩) fun h' e hm => ?_)
   exact hL _ _ (wm (qC9 x.stk x.hF hkind rfl r6 hm) (fun _ s7 y => hS hT _ s7 y))
  ·have hsp : (PySem.Stmt.If (stE (nthS bNxt 1)) [.Raise (some (.Name "StopIteration" (cP (stX (qDm (nthS bNxt 1)))))) none (stP (qDm (nthS bNxt 1)))] [] (stP (nthS bNxt 1)) :: bNxt.drop 2) = bNxt.drop 1 := by kernel_rfl
   rw [hsp]
   refine wm (qAF (cx := cxIn w A s (qAh st t0 n rest) ρ) (sc := scNxt) hkind (csv0 w 8) (bNxt.drop 1) _ _ _ _ (qOS w.params (strL w') _ n' _) qAb _ ρ s5 _ ok r5 fun _ _ x => x.elim) (fun f s6 z => ?_)
   obtain ⟨ρ6, p6, ⟨cv, rfl, v6⟩, r6⟩ := z
   obtain rfl : ρ6 = ρ := qA3 p6 x.hr r6.hr rfl
   exact hQ w' r' hT' cv s6 n' (by rw [hT']; exact v6) r6.hr r6.kp r6.rest
 ·exact hL _ _ (wm (qFf x.stk x.hF hkind rfl r3 rfl th) (fun _ s5 y => hE b v s5 hb ⟨t, y⟩))
noncomputable def lexF : Nat → Option (List Nat) → List (List Nat) × Option Bool
 | 0, _ => ([], none)
 | _ + 1, none => ([], none)
 | k + 1, some rest => match tokF .gap [] rest with
  | .eof => ([], none)
  | .bad b => ([], some b)
  | .word w r => (w :: (lexF k r).1, (lexF k r).2)
noncomputable def mu : Option (List Nat) → Nat
 | none => 0
 | some l => l.length + 1
theorem qDA : ∀ {l : List Nat} {m : Mode} {w w' l' : List Nat}, tokF m w l = .word w' (some l') → l'.length < l.length ∧ ∀ c ∈ l', c ∈ l
 | [], m, w, w', l', h => by cases m <;> cases h
 | c :: l, m, w, w', l', h => by
  have h : (match qAf m w c with | some (m', w') => tokF m' w' l | none => TokOut.word w (some l)) = .word w' (some l') := h
  split at h
  ·obtain ⟨h1, h2⟩ := qDA h
   exact ⟨by simp; omega, fun c hc => .tail _ (h2 c hc)⟩
  ·cases h
   exact ⟨by simp, fun c hc => .tail _ hc⟩
theorem Thrown.from {A : Around} {s0 s s' : Shared} {X : List Addr} {cls : String} {args : List Value} {v : Value} (x : Thrown A s X cls args v s') (k : Kp X (qAa A) s0.heap s.heap) (e : s.gens = s0.gens ∧ s.drawn = s0.drawn ∧ s.os = s0.os) : Thrown A s0 X cls args v s' := by
 obtain ⟨⟨ea, t, l, h1, h2, h3, h4, h5⟩, kp, r⟩ := x
 have hb : (hideAll s0.heap (X ++ qAa A)).StaysIn (hideAll s.heap (X ++ qAa A)) := fun b o q => by
  have q1 := of_hideAll _ q
  have q2 : b ∉ X ++ qAa A := fun z => by rw [hideAll_none _ z] at q; cases q
  obtain ⟨sl, e1, e2⟩ := k.keep b o q1 fun z => q2 (List.mem_append_left _ z)
  rw [e2 fun z => q2 (List.mem_append_right _ z)] at e1
  exact hideAll_get _ e1 q2
 exact ⟨⟨ea, t, l, h1, h2, flyingW_base hb h3, h4, fresh_of_stays hb h5⟩, k.trans kp (fun a ha => .inl ha) (fun a ha => .inl ha), ⟨r.1.trans e.1, r.2.1.trans e.2.1, r.2.2.trans e.2.2⟩⟩
theorem Thrown.sub {A A' : Around} {s s' : Shared} {X Y : List Addr} {cls : String} {args : List Value} {v : Value} (x : Thrown A s X cls args v s') (hA : A.frames = A'.frames) (h1 : ∀ a ∈ X, a ∈ Y) (h2 : ∀ a ∈ Y, a ∈ X) : Thrown A' s Y cls args v s' := by
 have fA : qAa A = qAa A' := by unfold qAa; rw [hA]
 obtain ⟨⟨ea, t, l, e1, e2, e3, e4, e5⟩, kp, r⟩ := x
 have hb : (hideAll s.heap (Y ++ qAa A')).StaysIn (hideAll s.heap (X ++ qAa A)) := fun b o q => by
  have q1 := of_hideAll _ q
  have q2 : b ∉ Y ++ qAa A' := fun z => by rw [hideAll_none _ z] at q; cases q
  refine hideAll_get _ q1 fun z => q2 ?_
  rcases List.mem_append.mp z with z | z
  ·exact List.mem_append_left _ (h1 b z)
  ·exact List.mem_append_right _ (by rw [← fA]; exact z)
 exact ⟨⟨ea, t, l, e1, hA.symm.trans e2, flyingW_base hb e3, e4, fresh_of_stays hb e5⟩, by rw [← fA]; exact kp.mono h1, r⟩
theorem qH0 {A : Around} {s s' : Shared} {X : List Addr} {cls : String} {args : List Value} {v : Value} (x : Thrown A s X cls args v s') : ∃ e, v = .ref e ∧ s'.TypeIs (.ref e) cls := by
 obtain ⟨⟨e, t, l, h1, h2, h3, _⟩, _⟩ := x
 obtain ⟨ob, q1, q2⟩ := h3.there
 exact ⟨e, h1, ⟨ob, q1, q2⟩⟩
theorem qKJ : isSubtype (.type "StopIteration") (.type "StopIteration") = pure true := by rw [isSubtype_type]; kernel_rfl
theorem qND : isSubtype (.type "ValueError") (.type "StopIteration") = pure false := by rw [isSubtype_type]; kernel_rfl
theorem nx1 (P : Params) : findIn (KK P) (.ref 739) "__next__" = some (some (.ref 736)) := by kernel_rfl
theorem nx2 (P : Params) : isFn (KK P) (.ref 736) = true := by kernel_rfl
theorem nx3 (P : Params) : findIn (KK P) (.ref 739) "__iter__" = some (some (.ref 729)) := by kernel_rfl
theorem nx4 (P : Params) : isFn (KK P) (.ref 729) = true := by kernel_rfl
theorem nx5 (P : Params) : findIn (KK P) (.ref 739) "__len__" = some none := by kernel_rfl
theorem nx6 (P : Params) : findIn (KK P) (.ref 739) "__length_hint__" = some none := by kernel_rfl
noncomputable abbrev qVf (P : Params) : FuncData := fdOf (o729 P)
noncomputable abbrev qVs : List Stmt := qBh (F2 22 9)
noncomputable abbrev qTD : Scope := qAM (F2 22 9)
theorem qJT (w : World) : FnFacts w 729 (qVf w.params) qVs [qAB] :=
 .of1 (by kernel_rfl) (by kernel_rfl) (by kernel_rfl) fun _ => by kernel_rfl
theorem qOz (P : Params) (st : AV) (n : Int) (r : List Nat) : qBb (KK P) cs0 qTD qVs [qAB] [] [] [.obj 0] (qAh st t0 n r) = some (.obj 0, qAh st t0 n r, []) := by kernel_rfl
def NsAt (s : Shared) (H : List AO) (ρ : Rho) : Prop := ∃ L m, s.heap.Ns L m ∧ nS ≤ L ∧ L ∉ feet H ρ
theorem NsAt.fr {w : World} {s : Shared} {H : List AO} {ρ : Rho} (x : NsAt s H ρ) (k : Kept w s.heap) : ∃ L m, Fr (Hx w.params) L s.heap m := by
 obtain ⟨L, m, n, h1, _⟩ := x
 exact ⟨L, m, n, k.hx, by rw [qNv]; exact h1⟩
theorem NsAt.kp {s s' : Shared} {H H' : List AO} {ρ : Rho} {F : List Addr} (x : NsAt s H ρ) (k : Kp (feet H ρ) F s.heap s'.heap) (h : ∀ a ∈ feet H' ρ, a ∈ feet H ρ) : NsAt s' H' ρ := by
 obtain ⟨L, m, n, h1, h2⟩ := x
 exact ⟨L, m, k.ns n h2, h1, fun q => h2 (h L q)⟩
theorem LexAt.inst {w : World} {A : Around} {s : Shared} {ρ : Rho} {st : AV} {n : Int} {rest : List Nat} {p : Addr × Addr} (x : LexAt w A s ρ st n rest p) : ∃ es m, InstAt s.heap p.1 (instObj 739 p.2) 739 (some (dictOf es m)) := by
 obtain ⟨h1, es, m, h2, _⟩ := x.hr.obj 0 _ _ rfl x.hp
 exact ⟨es, m, qGc (fs := qFe "" true st t0 n) h1 h2⟩
theorem LexAt.on {w : World} {A : Around} {s s' : Shared} {ρ : Rho} {st st' : AV} {n n' : Int} {rest rest' : List Nat} {p : Addr × Addr} (x : LexAt w A s ρ st n rest p) (hr : HR w ρ (qAh st' t0 n' rest') s'.heap) (k : Kp (feet (qAh st t0 n rest) ρ) (qAa A) s.heap s'.heap) : LexAt w A s' ρ st' n' rest' p :=
 ⟨hr, x.hp, fun a ha q => x.hF a ha (qCS a q), x.stk.kp k x.hF⟩
theorem LexAt.around {w : World} {A A' : Around} {s : Shared} {ρ : Rho} {st : AV} {n : Int} {rest : List Nat} {p : Addr × Addr} (x : LexAt w A s ρ st n rest p) (h : A'.frames = A.frames) : LexAt w A' s ρ st n rest p := by
 refine ⟨x.hr, x.hp, fun a ha => x.hF a (by unfold qAa at ha ⊢; rw [← h]; exact ha), ?_⟩
 obtain ⟨l, e, q⟩ := x.stk
 exact ⟨l, h.trans e, q⟩
theorem qPg {w : World} {A : Around} {s : Shared} {ρ : Rho} {p : Addr × Addr} {st : AV} {n : Int} {rest : List Nat} {T : TokOut} {Q : Option Value → Shared → Prop} {E : VP} (rm : Room A 10) (x : LexAt w A s ρ st n rest p) (nx : NsAt s (qAh st t0 n rest) ρ) (hT : qDM st rest T)
  (hQ : ∀ w' r', T = .word w' r' → ∀ t s' n', HR w ρ (qAh (qGM T) t0 n' (qCD T)) s'.heap → Kp (feet (qAh st t0 n rest) ρ) (qAa A) s.heap s'.heap → s'.gens = s.gens ∧ s'.drawn = s.drawn ∧ s'.os = s.os → Q (some (.str (strL w') t)) s')
  (hE : LexE A s ρ st n rest T E) (hS : T = .eof → ∀ s', Kp (feet (qAh st t0 n rest) ρ) (qAa A) s.heap s'.heap → s'.gens = s.gens ∧ s'.drawn = s.drawn ∧ s'.os = s.os → Q none s') : wpAny (MM w) A (pyNext (.ref p.1)) Q E s := by
 obtain ⟨L, m, F⟩ := nx.fr x.hr.kept
 obtain ⟨es, mm, I⟩ := x.inst
 refine owit_next F (qHk w.params) I (nx1 w.params) (nx2 w.params) (wpAny_call (codeAny_mono (qOU (Q := fun v s' => Q (some v) s') (E := OwitStop (MM w) A Q E) rm x hT (fun w' r' hw v s' n' hv h1 h2 h3 => ?_) (fun b v s' hb ⟨t, th⟩ => ?_) (fun he v s' th => ?_)) fun rr s' z => ?_))
 ·rw [hw] at hv
  obtain ⟨t, rfl⟩ := hv
  exact hQ w' r' hw t s' n' h1 h2 h3
 ·obtain ⟨e, rfl, ht⟩ := qH0 th
  unfold OwitStop
  refine wpAny_isInstance ht qND ?_
  exact hE b _ s' hb ⟨t, th⟩
 ·obtain ⟨e, rfl, ht⟩ := qH0 th
  unfold OwitStop
  refine wpAny_isInstance ht qKJ ?_
  exact hS he s' th.kp th.rest
 ·rcases rr with e | (_ | _ | _ | u) <;> exact z
theorem qKE {vals : List Value} {ys : List Str} {x : Str} {t : Tok} (h : StrsAre vals ys) : StrsAre (vals ++ [.str x t]) (ys ++ [x]) := by
 induction h with
 | nil => exact .cons _ _ .nil
 | cons a b h ih => exact .cons _ _ ih
noncomputable abbrev lexX (ρ : Rho) : List Addr := feet (qAh sG t0 0 []) ρ
theorem toX {st tk : AV} {n : Int} {r : List Nat} {ρ : Rho} : ∀ a ∈ feet (qAh st tk n r) ρ, a ∈ lexX ρ := qCS
theorem ofX {st tk : AV} {n : Int} {r : List Nat} {ρ : Rho} : ∀ a ∈ lexX ρ, a ∈ feet (qAh st tk n r) ρ := qCS
structure ListAt (w : World) (B : Around) (s0 s : Shared) (ρ : Rho) (p : Addr × Addr) (S : Addr) (r : Option (List Nat)) (n : Int) (vals : List Value) (c : Nat) : Prop where
 x : LexAt w B s ρ (qGm r) n (r.getD []) p
 nx : NsAt s (qAh (qGm r) t0 n (r.getD [])) ρ
 lst : s.heap.get? S = some (qD8 vals c)
 out : S ∉ lexX ρ ∧ S ∉ qAa B ∧ nS ≤ S ∧ s0.heap.get? S = none
 kp : Kp (lexX ρ) (qAa B) s0.heap s.heap
 rest : s.gens = s0.gens ∧ s.drawn = s0.drawn ∧ s.os = s0.os
theorem qOE {r : Option (List Nat)} {N : Nat} (hc : ∀ c ∈ r.getD [], c ∈ qAn) (hl : 2 * mu r + 2 ≤ sizeLine) : ∃ T, qDM (qGm r) (r.getD []) T ∧ (r = none → T = .eof) ∧ ∀ l, r = some l → T = tokF .gap [] l := by
 cases r with
 | none => exact ⟨.eof, ⟨.inr ⟨rfl, rfl, rfl⟩, hc, by simp only [mu] at hl; simpa using hl⟩, fun _ => rfl, fun _ h => nomatch h⟩
 | some l => exact ⟨tokF .gap [] l, ⟨.inl ⟨rfl, rfl⟩, hc, by simp only [mu] at hl; simp only [Option.getD_some]; omega⟩, fun h => (nomatch h), fun _ h => by cases h; rfl⟩
theorem NsAt.same {s s' : Shared} {H : List AO} {ρ : Rho} {S : Addr} {vals : List Value} {c : Nat} (x : NsAt s H ρ) (hS : s.heap.get? S = some (qD8 vals c)) (h : Heap.SameBut S s.heap s'.heap) : NsAt s' H ρ := by
 obtain ⟨L, m, ⟨o, es, ep, h1, h2, h3⟩, h4, h5⟩ := x
 refine ⟨L, m, ⟨o, es, ep, (h.2 L fun e => ?_).trans h1, h2, h3⟩, h4, h5⟩
 rw [e, hS] at h1
 cases h1
 cases h2
theorem LexAt.same {w : World} {A : Around} {s s' : Shared} {ρ : Rho} {st : AV} {n : Int} {rest : List Nat} {p : Addr × Addr} {S : Addr} (x : LexAt w A s ρ st n rest p) (sb : Heap.SameBut S s.heap s'.heap) (h1 : S ∉ lexX ρ) (h2 : S ∉ qAa A) (h3 : nS ≤ S) : LexAt w A s' ρ st n rest p := by
 refine ⟨x.hr.out (Chg.same sb) fun a ha => by rw [ls ha]; exact ⟨h3, fun q => h1 (toX S q)⟩, x.hp, x.hF, ?_⟩
 obtain ⟨l, e, q⟩ := x.stk
 refine ⟨l, e, fun env he => ?_⟩
 obtain ⟨q1, L, o, q2, q3, q4⟩ := q env he
 refine ⟨q1, L, o, q2, (sb.2 L fun z => h2 ?_).trans q3, q4⟩
 unfold qAa
 rw [e, ← z]
 exact List.mem_filterMap.mpr ⟨env, he, q2⟩
theorem qIE {w : World} {B : Around} {s0 : Shared} {ρ : Rho} {p : Addr × Addr} {S : Addr} {R : RP} (rm : Room B 11) : ∀ (k : Nat) (r : Option (List Nat)) (s : Shared) (n : Int) (vals : List Value) (c : Nat) (done : List Str),
  mu r < k → ListAt w B s0 s ρ p S r n vals c → StrsAre vals done → (∀ c ∈ r.getD [], c ∈ qAn) → 2 * (vals.length + mu r) + 2 ≤ sizeLine →
  (∀ vals c s', StrsAre vals (done ++ (lexF k r).1.map strL) → (lexF k r).2 = none → s'.heap.get? S = some (qD8 vals c) → Kp (lexX ρ) (qAa B) s0.heap s'.heap → s'.gens = s0.gens ∧ s'.drawn = s0.drawn ∧ s'.os = s0.os → R (.ok (.ret .none)) s') →
  (∀ b v s', (lexF k r).2 = some b → (∃ t, Thrown B s0 (lexX ρ) "ValueError" [.str (qDv b) t] v s') → R (.error v) s') →
  codeAny (MM w) B (.builtin "list.extend.loop" ⟨[.ref S, .ref p.1, .none], []⟩) R s
 | 0, _, _, _, _, _, _, h, _, _, _, _, _, _ => absurd h (Nat.not_lt_zero _)
 | k + 1, r, s, n, vals, c, done, hk, L, hv, hc, hl, hQ, hE => by
  obtain ⟨T, hT, hT0, hT1⟩ := qOE (N := 0) (r := r) hc (by omega)
  refine codeAny_builtin F.entry_extend_loop ?_
  rw [Around.under_plainId F.plain_extend_loop _]
  show wpAny _ B.in1 (pyNext (.ref p.1) >>= _) _ _ s
  have lx : ∀ w' r', T = .word w' r' → ∃ l, r = some l ∧ lexF (k + 1) r = (w' :: (lexF k r').1, (lexF k r').2) ∧ mu r' < mu r ∧ ∀ c ∈ r'.getD [], c ∈ qAn := fun w' r' hw => by
   cases r with
   | none => rw [hT0 rfl] at hw; cases hw
   | some l =>
    have e := (hT1 l rfl).symm.trans hw
    refine ⟨l, rfl, by simp only [lexF, e], ?_⟩
    cases r' with
    | none => exact ⟨Nat.succ_pos _, fun c hc => nomatch hc⟩
    | some l' =>
     obtain ⟨h1, h2⟩ := qDA e
     exact ⟨by simp only [mu]; omega, fun c h => hc c (h2 c h)⟩
  have le : T = .eof → lexF (k + 1) r = ([], none) := fun hw => by
   cases r with
   | none => rfl
   | some l => simp only [lexF, (hT1 l rfl).symm.trans hw]
  have lb : ∀ b, T = .bad b → (lexF (k + 1) r).2 = some b := fun b hw => by
   cases r with
   | none => rw [hT0 rfl] at hw; cases hw
   | some l => simp only [lexF, (hT1 l rfl).symm.trans hw]
  refine wpAny_bind (qPg ⟨⟨by have := rm.1.1; show B.depth + 10 ≤ 900; omega, by have := rm.1.2; show B.units + 1 + 20 * 10 ≤ 9000; omega⟩, rm.2⟩ (L.x.around (A' := B.in1) rfl) L.nx hT (fun w' r' hw t s' n' hr k1 e1 => ?_) (fun b v s' hb ⟨t, th⟩ => ?_) (fun he s' k1 e1 => ?_))
  ·obtain ⟨l, hr0, hF, hm, hs⟩ := lx w' r' hw
   rw [hw] at hr
   have hlen := qDU hv
   have k1' : Kp (lexX ρ) (qAa B) s.heap s'.heap := k1.mono toX
   obtain ⟨sl, hS1, hS2⟩ := k1.keep S _ L.lst fun q => L.out.1 (toX S q)
   rw [hS2 L.out.2.1] at hS1
   show wpAny _ B.in1 (updateSeq S (·.push (.str (strL w') t)) >>= _) _ _ _
   have sb := Heap.SameBut.update s'.heap S (Obj.mapSeq (·.push (.str (strL w') t)))
   have nx' := L.nx.kp k1 (H' := qAh (qGm r') t0 n' (r'.getD [])) qCS
   refine wpAny_bind (wpAny_updateSeq hS1 rfl (wpAny_pure ⟨plainId_quiet F.plain_extend_loop _, qIE (s0 := s0) (ρ := ρ) rm k r' _ n' (vals ++ [.str (strL w') t]) (if (vals.toArray.push (Value.str (strL w') t)).size == vals.toArray.size then c else c + 1) (done ++ [strL w']) (by omega) ?_ (qKE hv) hs (by rw [List.length_append]; simp; omega) (fun vals2 c2 s2 h1 h2 h3 h4 h5 => ?_) fun b v s2 h1 h2 => ?_⟩) ?_ ?_)
   ·refine ⟨(L.x.on hr k1).same (s' := { s' with heap := _ }) sb L.out.1 L.out.2.1 L.out.2.2.1, nx'.same (s' := { s' with heap := _ }) hS1 sb, ?_, L.out, ?_, ⟨e1.1.trans L.rest.1, e1.2.1.trans L.rest.2.1, e1.2.2.trans L.rest.2.2⟩⟩
    ·have z := Heap.get?_update_self (Obj.mapSeq (·.push (.str (strL w') t))) hS1 rfl
     have ex : vals.toArray.push (Value.str (strL w') t) = (vals ++ [Value.str (strL w') t]).toArray := by simp
     show _ = some ({ cls := .type "list", data := .seq (vals ++ [Value.str (strL w') t]).toArray _ } : Obj)
     rw [← ex]; exact z
    ·exact (L.kp.trans k1' (fun a ha => .inl ha) fun a ha => .inl ha).step (Chg.same sb) fun a ha => by rw [ls ha]; exact .inr L.out.2.2.2
   ·exact hQ vals2 c2 s2 (by rw [hF]; simpa using h1) (by rw [hF]; exact h2) h3 h4 h5
   ·exact hE b v s2 (by rw [hF]; exact h1) h2
   ·simp only [List.size_toArray]; omega
   ·simp only [Array.size_push, List.size_toArray]; omega
  ·refine hE b v s' (lb b hb) ⟨t, ?_⟩
   exact (th.sub (A' := B) rfl toX ofX).from L.kp L.rest
  ·have k1' : Kp (lexX ρ) (qAa B) s.heap s'.heap := k1.mono toX
   obtain ⟨sl, hS1, hS2⟩ := k1'.keep S _ L.lst L.out.1
   rw [hS2 L.out.2.1] at hS1
   exact wpAny_pure (hQ vals c s' (by rw [le he]; simpa using hv) (by rw [le he]) hS1 (L.kp.trans k1' (fun a ha => .inl ha) fun a ha => .inl ha) ⟨e1.1.trans L.rest.1, e1.2.1.trans L.rest.2.1, e1.2.2.trans L.rest.2.2⟩)
theorem qPh {w : World} {A : Around} {s : Shared} {ρ : Rho} {p : Addr × Addr} {n : Int} {rest : List Nat} {st : AV} {Q E : VP} (rm : Room A 2) (x : LexAt w A s ρ st n rest p) (nx : NsAt s (qAh st t0 n rest) ρ)
  (hQ : ∀ s3, HR w ρ (qAh st t0 n rest) s3.heap → Kp (feet (qAh st t0 n rest) ρ) (qAa A) s.heap s3.heap → s3.gens = s.gens ∧ s3.drawn = s.drawn ∧ s3.os = s.os → Q (.ref p.1) s3) : wpAny (MM w) A (pyIter (.ref p.1)) Q E s := by
 obtain ⟨L2, m2, F2'⟩ := nx.fr x.hr.kept
 obtain ⟨es2, k2, I2⟩ := x.inst
 refine owit_iter F2' (qHk w.params) I2 (nx3 w.params) (nx4 w.params) (wpAny_call (codeAny_mono ((qDn (qJT w) rfl (csv0 w 0) : Fn w 729 2 _) A s ρ _ _ _ _ _ [.ref p.1] (qOz w.params st n rest) qAb rm x.hr (fun a ha => ⟨let ⟨o, e, _⟩ := x.stk.there a ha; ⟨o, e⟩, x.hF a ha⟩) (.cons ⟨p, x.hp, rfl⟩ .nil)
  (fun v s3 => OwitIt (MM w) A Q E v s3) E fun v s3 ρ3 p3 v3 r3 kp3 f3 e3 => ?_) fun rr s3 z => ?_))
 ·obtain rfl : ρ3 = ρ := qA3 p3 x.hr r3 rfl
  obtain ⟨p', hp', rfl⟩ := v3
  rw [x.hp] at hp'
  cases hp'
  have x3 := x.on r3 kp3
  have nx3' : NsAt s3 (qAh st t0 n rest) ρ3 := nx.kp kp3 fun a h => h
  obtain ⟨L3, m3, F3'⟩ := nx3'.fr x3.hr.kept
  obtain ⟨es3, k3, I3⟩ := x3.inst
  exact owit_it F3' (qHk w.params) I3 (nx1 w.params) (hQ s3 r3 kp3 e3)
 ·rcases rr with e | (_ | _ | _ | u) <;> exact z
theorem qO9 {w : World} {A : Around} {s : Shared} {ρ : Rho} {p : Addr × Addr} {n : Int} {rest : List Nat} {Q E : VP} (rm : Room A 13) (x : LexAt w A s ρ sG n rest p) (nx : NsAt s (qAh sG t0 n rest) ρ) (hc : ∀ c ∈ rest, c ∈ qAn) (hl : 2 * rest.length + 4 ≤ sizeLine)
  (hQ : ∀ S vals c s', StrsAre vals ((lexF (rest.length + 2) (some rest)).1.map strL) → (lexF (rest.length + 2) (some rest)).2 = none → s'.heap.get? S = some (qD8 vals c) → nS ≤ S → S ∉ lexX ρ → s.heap.get? S = none → Kp (lexX ρ) (qAa A) s.heap s'.heap → s'.gens = s.gens ∧ s'.drawn = s.drawn ∧ s'.os = s.os → Q (.ref S) s')
  (hE : ∀ b v s', (lexF (rest.length + 2) (some rest)).2 = some b → (∃ t, Thrown A s (lexX ρ) "ValueError" [.str (qDv b) t] v s') → E v s') : wpAny (MM w) A (call (.type "list") [.ref p.1]) Q E s := by
 refine callType_codes (Q₁ := fun obj s1 => obj = .ref s.heap.objs.size ∧ s1 = { s with heap := s.heap.push { cls := .type "list", data := .seq #[] } }) F.called_list (F.typeCall_list_1 _) F.entry_list_init (code_list_new _ ⟨rfl, rfl⟩) fun obj s1 h₁ => ?_
 obtain ⟨rfl, rfl⟩ := h₁
 obtain ⟨S, hSe⟩ : ∃ S, S = s.heap.objs.size := ⟨_, rfl⟩
 rw [← hSe]
 have hS : (s.heap.push { cls := .type "list", data := .seq #[] }).get? S = some { cls := .type "list", data := .seq #[] } := by rw [hSe]; exact Heap.get?_push_size _ rfl
 refine ⟨⟨_, hS, rfl⟩, F.args_list_init_2 _ _, ?_⟩
 have fresh : s.heap.get? S = none := by rw [hSe]; exact qEW (Nat.le_refl _)
 have big : nS ≤ S := by
  obtain ⟨L, m, ⟨o, _, _, h1, _⟩, h2, _⟩ := nx
  rw [hSe]; exact Nat.le_trans h2 (Nat.le_of_lt (Heap.lt_size h1))
 have out : S ∉ lexX ρ := fun q => by
  obtain ⟨ob, e⟩ := x.hr.below S (ofX S q)
  rw [fresh] at e; cases e
 have outF : S ∉ qAa A := fun q => by
  obtain ⟨o, e, _⟩ := x.stk.there S q
  rw [fresh] at e; cases e
 show wpAny _ A.in1.in1 (do let old ← Builtin.List.listItems (.ref S); Builtin.List.listUpdate (.ref S) (fun _ => #[]); letGo old.toList.reverse; Builtin.List.listExtendWith (.ref S) (.ref p.1) .none) _ _ _
 refine wpAny_bind ?_
 unfold Builtin.List.listItems
 refine wpAny_bind (wpAny_seqItems hS rfl (wpAny_pure ?_))
 show wpAny _ A.in1.in1 (updateSeq S (fun _ => #[]) >>= fun _ => letGo (#[] : Array Value).toList.reverse >>= fun _ => Builtin.List.listExtendWith (.ref S) (.ref p.1) .none) _ _ _
 refine wpAny_bind (wpAny_updateSeq hS rfl ?_ (by show 0 ≤ sizeLine; exact Nat.zero_le _) (by show 0 ≤ sizeLine + 1; exact Nat.zero_le _))
 have hS2 := Heap.get?_update_self (Obj.mapSeq (fun _ => (#[] : Array Value))) hS rfl
 have keep2 : ∀ b o, s.heap.get? b = some o → ((s.heap.push { cls := .type "list", data := .seq #[] }).update S (Obj.mapSeq fun _ => #[])).get? b = some o := fun b o e =>
  (Heap.get?_update_other _ _ (fun z => by rw [← z, fresh] at e; cases e)).trans (Heap.get?_push_of_some _ e)
 refine wpAny_bind (wpAny_letGo ?_)
 generalize hg : ((s.heap.push { cls := .type "list", data := .seq #[] }).update S (Obj.mapSeq fun _ => #[])) = h2 at keep2 hS2
 have x2 : LexAt w A.in1.in1 { s with heap := h2 } ρ sG n rest p := LexAt.around (A := A) ⟨x.hr.out (Y := []) ⟨fun b o e _ => keep2 b o e⟩ (by simp), x.hp, x.hF, by
  obtain ⟨l, e, q⟩ := x.stk
  exact ⟨l, e, fun env he => let ⟨q1, L, o, q2, q3, q4⟩ := q env he; ⟨q1, L, o, q2, keep2 L o q3, q4⟩⟩⟩ rfl
 have nx2 : NsAt { s with heap := h2 } (qAh sG t0 n rest) ρ := by
  obtain ⟨L, m, ⟨o, es, ep, q1, q2⟩, q3⟩ := nx
  exact ⟨L, m, ⟨o, es, ep, keep2 L o q1, q2⟩, q3⟩
 have kp2 : Kp (lexX ρ) (qAa A) s.heap h2 := ⟨fun b o e _ => ⟨o.slots, keep2 b o e, fun _ => rfl⟩⟩
 obtain ⟨L2, m2, F2'⟩ := nx2.fr x2.hr.kept
 obtain ⟨es2, k2, I2⟩ := x2.inst
 have hne : S ≠ p.1 := fun q => out (by rw [q]; exact qAo (i := 0) rfl x.hp _ (by simp [foot]))
 show wpAny (MM w) A.in1.in1 (Builtin.List.listExtendWith (.ref S) (.ref p.1) .none) _ _ { s with heap := h2 }
 unfold Builtin.List.listExtendWith
 refine wpAny_bind (I2.type.here ?_)
 have g1 : Builtin.List.listSameRef (.ref S) (.ref p.1) = false := by simp [Builtin.List.listSameRef, hne]
 have g2 : (Value.ref 739 == Value.type "list") = false := by decide
 have g3 : (Value.ref 739 == Value.type "tuple") = false := by decide
 simp only [g1, g2, g3, Bool.or_false, Bool.false_eq_true, if_false]
 refine wpAny_bind (qPh ⟨⟨by have := rm.1.1; show A.depth + 2 ≤ 900; omega, by have := rm.1.2; show A.units + 1 + 1 + 20 * 2 ≤ 9000; omega⟩, rm.2⟩ x2 nx2 fun s3 r3 kp3 e3 => ?_)
 have x3 : LexAt w A.in1.in1 s3 ρ sG n rest p := x2.on r3 kp3
 have nx3' : NsAt s3 (qAh sG t0 n rest) ρ := nx2.kp kp3 fun a h => h
 obtain ⟨es3, k3, I3⟩ := x3.inst
 have X3 := r3.kept.kk
 have hint : ∀ {Q' : Bool → Shared → Prop} {E'}, Q' true s3 → wpAny (MM w) A.in1.in1 (Builtin.List.listLengthHint (.ref p.1)) Q' E' s3 := fun {Q' E'} hq => by
  unfold Builtin.List.listLengthHint
  refine wpAny_bind (wpAny_bind (I3.type.here ((looks_findIn X3 (nx5 w.params)).here ?_)))
  show wpAny _ _ (specialOf (.ref p.1) (Str.ofString "__length_hint__") >>= _) _ _ _
  exact wpAny_bind (wpAny_bind (I3.type.here ((looks_findIn X3 (nx6 w.params)).here (wpAny_pure hq))))
 refine wpAny_bind (wpAny_holding (hint ?_))
 show wpAny _ A.in1.in1 (rule "list.extend.makes-room" >>= fun _ => Builtin.List.listTouch (.ref S) >>= fun _ => again (.builtin "list.extend.loop" ⟨[.ref S, .ref p.1, .none], []⟩)) _ _ _
 refine wpAny_bind (wpAny_rule (wpAny_bind ?_))
 show wpAny _ A.in1.in1 (updateSeq S (·.push .none) >>= fun _ => updateSeq S (·.pop)) _ _ _
 obtain ⟨sl3, hS3, hS3'⟩ := kp3.keep S _ hS2 fun q => out (toX S q)
 rw [hS3' outF] at hS3
 refine wpAny_bind (wpAny_updateSeq hS3 rfl ?_ (by show 0 ≤ sizeLine; exact Nat.zero_le _) (by show 1 ≤ sizeLine + 1; exact Nat.le_add_left 1 _))
 have hS4 := Heap.get?_update_self (Obj.mapSeq (·.push Value.none)) hS3 rfl
 refine wpAny_updateSeq hS4 rfl ?_ (by show 1 ≤ sizeLine; decide) (by show 0 ≤ sizeLine + 1; exact Nat.zero_le _)
 have hS5 := Heap.get?_update_self (Obj.mapSeq (·.pop)) hS4 rfl
 have sb5 : Heap.SameBut S s3.heap ((s3.heap.update S (Obj.mapSeq (·.push Value.none))).update S (Obj.mapSeq (·.pop))) := (Heap.SameBut.update ..).trans (Heap.SameBut.update ..)
 refine wpAny_pure ⟨plainId_quiet F.plain_extend_loop _, qIE (B := A.in1) (R := wants (fun r s2 => r = .none ∧ Q (.ref S) s2) E) (s0 := s) (ρ := ρ) (S := S) (p := p) ⟨⟨by have := rm.1.1; show A.depth + 11 ≤ 900; omega, by have := rm.1.2; show A.units + 1 + 20 * 11 ≤ 9000; omega⟩, rm.2⟩ (rest.length + 2) (some rest) _ n [] _ [] (by simp [mu]) ⟨((x3.around (A' := A.in1) rfl).same (s' := { s3 with heap := _ }) sb5 out outF big), nx3'.same (vals := []) (s' := { s3 with heap := _ }) hS3 sb5, hS5, ⟨out, outF, big, fresh⟩, ?_, e3⟩ .nil hc (by simp [mu]; omega) (fun vals c s' h1 h2 h3 h4 h5 => ⟨rfl, hQ S vals c s' (by simpa using h1) h2 h3 big out fresh h4 h5⟩) fun b v s' h1 ⟨t, h2⟩ => hE b v s' h1 ⟨t, h2.sub rfl (fun _ h => h) fun _ h => h⟩⟩
 exact (kp2.trans (kp3.mono toX) (fun a ha => .inl ha) fun a ha => .inl ha).step (Chg.same sb5) fun a ha => by rw [ls ha]; exact .inr fresh
section
noncomputable abbrev qNA : Str := "comments"
noncomputable abbrev xLex : Str := "lex"
noncomputable abbrev qFn (P : Params) : FuncData := fdOf (o751 P)
noncomputable abbrev bSplit : List Stmt := qBh (F1 23)
noncomputable abbrev scSplit : Scope := qAM (F1 23)
theorem qHG {w : World} {s : Shared} (k : Kept w s.heap) (v : Value) : BindsTo s (qFn w.params) ⟨[v], []⟩ [(xS, v), (qNA, .bool false), (qBC, .bool true)] :=
 qEm (o := o744 w.params) (items := #[.bool false, .bool true]) (n := 0) k rfl (by kernel_rfl) rfl rfl (by kernel_rfl)
theorem qGv {w : World} {s : Shared} (k : Kept w s.heap) (v x y : Value) : BindsTo s (qFn w.params) ⟨[v, x, y], []⟩ [(xS, v), (qNA, x), (qBC, y)] :=
 qEm (o := o744 w.params) (items := #[.bool false, .bool true]) (n := 0) k rfl (by kernel_rfl) rfl rfl (by kernel_rfl)
theorem qHu (w : World) : FnFacts w 751 (qFn w.params) bSplit [xS, qNA, qBC] :=
 .of (by kernel_rfl) (by kernel_rfl) (by kernel_rfl) fun _ k => len3 (qGv k)
noncomputable def cK (e : PySem.Expr) : Keyword := match e with
 | .Call _ _ (k :: _) _ => k
 | _ => ⟨none, default, default⟩
noncomputable def qLO (st : Stmt) : Stmt := .Assign [.Name xLex (cP (stT st))] (.Call (.Name "shlex" (cP (cF (stE st)))) [.Name xS (cP (cA 0 (stE st)))] [⟨some qBC, .Name qBC (cP (cK (stE st)).value), (cK (stE st)).pos⟩] (cP (stE st))) (stP st)
noncomputable def qDD (f x : Str) (st : Stmt) : Stmt := .Return (some (.Call (.Name f (cP (cF (stE st)))) [.Name x (cP (cA 0 (stE st)))] [] (cP (stE st)))) (stP st)
theorem qGV : bSplit = bSplit.take 1 ++ (qLO (nthS bSplit 1) :: ((bSplit.drop 2).take 2 ++ [qDD "list" xLex (nthS bSplit 4)])) := by kernel_rfl
noncomputable abbrev qBL (x : Str) : LV := [(xS, .str x), (qNA, .bool false), (qBC, .bool true)]
theorem qKO (P : Params) (x : Str) : run (KK P) cs0 scSplit (bSplit.take 1) ⟨qBL x, [], [], []⟩ = some (.next, ⟨qBL x, [], [], []⟩, []) := by kernel_rfl
theorem qKQ (P : Params) (x : Str) (n : Int) (r : List Nat) : run (KK P) cs0 scSplit ((bSplit.drop 2).take 2) ⟨qBL x ++ [(xLex, .obj 0)], lexH "#" false (.str " ") "" n r, [], []⟩ = some (.next, ⟨qBL x ++ [(xLex, .obj 0)], qAh sG t0 n r, [], []⟩, []) := by kernel_rfl
theorem qN5 (P : Params) (x : Str) : qAi (KK P) scSplit "shlex" ⟨qBL x, [], [], []⟩ = some (.lit (.ref 739), ⟨qBL x, [], [], []⟩, []) := by kernel_rfl
theorem qN4 (P : Params) (x : Str) : qAi (KK P) scSplit xS ⟨qBL x, [], [], []⟩ = some (.str x, ⟨qBL x, [], [], []⟩, []) := by kernel_rfl
theorem qN3 (P : Params) (x : Str) : qAi (KK P) scSplit qBC ⟨qBL x, [], [], []⟩ = some (.bool true, ⟨qBL x, [], [], []⟩, []) := by kernel_rfl
theorem qN2 (P : Params) (x : Str) (H : List AO) : qAi (KK P) scSplit "list" ⟨qBL x ++ [(xLex, .obj 0)], H, [], []⟩ = some (.lit (.type "list"), ⟨qBL x ++ [(xLex, .obj 0)], H, [], []⟩, []) := by kernel_rfl
theorem qN1 (P : Params) (x : Str) (H : List AO) : qAi (KK P) scSplit xLex ⟨qBL x ++ [(xLex, .obj 0)], H, [], []⟩ = some (.obj 0, ⟨qBL x ++ [(xLex, .obj 0)], H, [], []⟩, []) := by kernel_rfl
theorem qGU (x : Str) (H : List AO) : qA0 scSplit xLex (.obj 0) ⟨qBL x, H, [], []⟩ = some ((), ⟨qBL x ++ [(xLex, .obj 0)], H, [], []⟩, []) := by kernel_rfl
theorem qPt (P : Params) : keepIn (KK P) (.ref 739) = true := by kernel_rfl
theorem qJg (P : Params) : (qFn P).scope = scSplit := by kernel_rfl
theorem Kp.kept {w : World} {X F : List Addr} {h h' : Heap} (kp : Kp X F h h') (k : Kept w h) (hX : ∀ a ∈ X, nS ≤ a) (hF : ∀ a ∈ F, nS ≤ a) : Kept w h' := fun b o e => by
 have lt := Kept.lt e
 have go : ∀ ob, h.get? b = some ob → h'.get? b = some ob := fun ob z => by
  obtain ⟨sl, e1, e2⟩ := kp.keep b ob z fun q => absurd (hX b q) (Nat.not_le.mpr lt)
  rw [e2 fun q => absurd (hF b q) (Nat.not_le.mpr lt)] at e1
  exact e1
 exact ⟨fun n => go o ((k b o e).1 n), let ⟨ob, z⟩ := (k b o e).2; ⟨ob, go ob z⟩⟩
theorem NsAt.of {cx : Cx} {ρ : Rho} {S : Sta} {s : Shared} (r : Rel cx ρ S s) : NsAt s S.H ρ := by
 obtain ⟨m, n, _⟩ := r.ns
 exact ⟨cx.L, m, n, r.lo.1, fun q => (r.ft _ q).1 rfl⟩
noncomputable abbrev qBx (x : Str) : List (List Nat) × Option Bool := lexF (x.cps.toList.length + 2) (some x.cps.toList)
section
variable {cx : Cx} {A : Around} {s : Shared} {E : VP} {q0 : Str} {cd : Value} {x : Str}
theorem qAR : scSplit.kind = .function := by kernel_rfl
theorem qKP (ok : AOK cx A 14) (hlen : x.length ≤ 100000) (r : Rel cx [] ⟨qBL x, [], [], []⟩ s) {Q : FP} (k : ∀ p ρ' s', ρ'[0]? = some p → Rel cx ρ' ⟨qBL x ++ [(xLex, .obj 0)], lexH "#" false (.str " ") "" 1 x.cps.toList, [], []⟩ s' → Q .next s') :
  wpAny (MM cx.w) A (exec (qLO (nthS bSplit 1)) (envOf q0 scSplit cx.L 751 cd)) Q E s := by
 unfold qLO
 refine wpAny_Assign_Name (wpAny_Call_ofName (nmL qAR (qN5 cx.w.params x) r fun s3 r3 => callWith_KW (K := KK cx.w.params) r3.X (qPt cx.w.params) rfl (Calls.spliced_cons (nmS qAR (qN4 cx.w.params x) r3 fun t4 s4 r4 => Calls.spliced_nil (wpAny_evalAll_cons (wpAny_bind (nm qAR (qN3 cx.w.params x) r4 fun c s5 e5 r5 => ?_))))))) (qBj rfl)
 rw [show c = .bool true from e5]
 refine wpAny_bind (wpAny_standAt (wpAny_pure (wpAny_evalAll_nil ⟨r5.X, ?_⟩)))
 refine wpAny_call (codeAny_mono (qSr (E := fun _ _ => False) (Q := fun v s' => ∃ p ρ', v = .ref p.1 ∧ ρ'[0]? = some p ∧ Rel cx ρ' ⟨qBL x, lexH "#" false (.str " ") "" 1 x.cps.toList, [], []⟩ s') (ok.room.le (by decide)) r5.hr.kept (fun a ha => (ok.disj r5 a ha).1) hlen fun p s6 ρ6 h6 hr6 k6 f6 e6 => ?_) fun rr s6 z => ?_)
 ·exact ⟨p, ρ6, rfl, h6, r5.called (H' := lexH "#" false (.str " ") "" 1 x.cps.toList) ok List.nil_prefix hr6 k6 (fun a ha => .inr (f6 a ha)) e6⟩
 rcases rr with e | (_ | _ | _ | v) <;> first | exact z.elim | skip
 refine oz23 z fun p ρ6 ev h6 r6 => ?_
 rw [ev]
 exact wm (qAu qAR (qGU x _) ⟨p, h6, rfl⟩ r6) (fun _ s7 r7 => k p ρ6 s7 h6 r7)
theorem qJa (ok : AOK cx A 14) (hlen : x.length ≤ 100000) (r : Rel cx [] ⟨qBL x, [], [], []⟩ s) {Q : FP}
  (k : ∀ p ρ' s', ρ'[0]? = some p → Rel cx ρ' ⟨qBL x ++ [(xLex, .obj 0)], qAh sG t0 1 x.cps.toList, [], []⟩ s' → wpAny (MM cx.w) A (call (.type "list") [.ref p.1]) (fun v s'' => Q (.ret v) s'') E s') :
  wpAny (MM cx.w) A (execs bSplit (envOf q0 scSplit cx.L 751 cd)) Q E s := by
 rw [qGV]
 refine qBz (rnN qAR (csv0 cx.w 13) (qKO cx.w.params x) qAb ok r rfl fun s2 r1 => wpAny_execs_cons (qKP ok hlen r1 fun p ρ6 s7 h6 r7 => ?_))
 refine qBz (rnN qAR (csv0 cx.w 13) (qKQ cx.w.params x 1 x.cps.toList) qAb ok r7 rfl fun s8 r8 => wpAny_execs_cons ?_)
 unfold qDD
 exact wpAny_Return_some (Call_Name rfl (nmL qAR (qN2 cx.w.params x _) r8 fun s9 r9 => qB4 rfl (Calls.spliced_cons (nmO qAR (qN1 cx.w.params x _) h6 r9 fun s10 r10 => Calls.spliced_nil (k p ρ6 s10 h6 r10)))))
end
theorem qI9 {w : World} {A : Around} {s : Shared} {x : Str} {t : Tok} {Q E : VP} (rm : Room A 15) (k : Kept w s.heap) (hst : Stk A s.heap) (hx : ∀ c ∈ x.cps.toList, c ∈ qAn) (hl : x.cps.toList.length ≤ 100000)
  (hQ : ∀ S vals c s', StrsAre vals ((qBx x).1.map strL) → (qBx x).2 = none → s'.heap.get? S = some (qD8 vals c) → nS ≤ S → s.heap.get? S = none → Kp [] (qAa A) s.heap s'.heap → s'.gens = s.gens ∧ s'.drawn = s.drawn ∧ s'.os = s.os → Q (.ref S) s')
  (hE : ∀ b v s', (qBx x).2 = some b → (∃ t, Thrown A s [] "ValueError" [.str (qDv b) t] v s') → E v s') : codeAny (MM w) A (.call (.ref 751) ⟨[.str x t], []⟩) (ends Q E) s := by
 refine qIz (d := 13) (ρ := []) (H := []) (args := [.str x, .bool false, .bool true]) (qHu w) rm (HR.nil k) (fun a ha => ⟨let ⟨o, e, _⟩ := hst.there a ha; ⟨o, e⟩, nofun⟩) (.cons ⟨t, rfl⟩ (.cons rfl (.cons rfl .nil))) rfl (qHG k _) fun s1 E' hL r ok => ?_
 rw [qJg] at ok ⊢
 have hFF : ∀ a ∈ qAa A, a ∉ feet [] [] := fun a ha h => nomatch h
 refine qJa (cx := cxIn w A s [] []) ok (by simpa [Str.length] using hl) r fun p ρ' s10 h6 r10 => ?_
 refine qO9 (ok.room.le (by decide)) ⟨r10.hr, h6, fun a ha => (ok.disj r10 a ha).2, qDW hst hFF qAR rfl r10⟩ (NsAt.of r10) hx (by rw [sizeLine_eq]; omega) (fun S vals c s11 h1 h2 h3 h4 h5 h7 h8 h9 => ?_) fun b v s11 h1 ⟨t1, h2⟩ => ?_
 ·refine hQ S vals c s11 h1 h2 h3 h4 ?_ (r10.kp.trans h8 (fun a ha => (r10.ft a (ofX a ha)).2) fun a ha => (ok.fr a ha).imp id fun (e : a = s.heap.objs.size) => .inr (by rw [e]; exact qEW (Nat.le_refl _))) ⟨h9.1.trans r10.rest.1, h9.2.1.trans r10.rest.2.1, h9.2.2.trans r10.rest.2.2⟩
  cases e : s.heap.get? S with
  | none => rfl
  | some o => exact oz12 (r10.kp.keep S o e (by simp [feet])) fun sl e' _ => nos (h7.symm.trans e')
 ·exact hL _ _ (wm (qFf (H := []) (ρ := []) hst hFF qAR rfl r10 rfl (h2.sub rfl ofX toX)) (fun _ s12 y => hE b v s12 h1 ⟨t1, y⟩))
end
section
def wpS {α : Type} (M : Model) (A : Around) (L : List Code) (t : Sem α) (Q : α → Shared → Prop) (E : VP) (s : Shared) : Prop :=
 ∀ Γ p, Γ.In A → (∃ r, Γ.code :: Γ.below.map (·.1) = L ++ r) → Sem.wp M Γ t (fun a _ s' => Q a s') (fun e _ s' => E e s') p s
def qEt (M : Model) (A : Around) (L : List Code) (c : Code) (R : RP) (s : Shared) : Prop :=
 ∀ Γ p, Γ.code = c → Γ.Below A → (∃ r, Γ.below.map (·.1) = L ++ r) → wpCode M Γ R p s
section
variable {α β : Type} {M : Model} {A : Around} {L : List Code} {E : VP} {s : Shared}
theorem qAO {t : Sem α} {Q : α → Shared → Prop} (h : wpAny M A t Q E s) : wpS M A L t Q E s := fun Γ p hΓ _ => h Γ p hΓ
theorem qHN {t : Sem α} {Q Q' : α → Shared → Prop} {E' : VP} (h : wpS M A L t Q E s) (hQ : ∀ a s, Q a s → Q' a s) (hE : ∀ e s, E e s → E' e s) : wpS M A L t Q' E' s :=
 fun Γ p hΓ hr => Sem.wp_mono M Γ t (fun a _ s => hQ a s) (fun e _ s => hE e s) p s (h Γ p hΓ hr)
theorem qAr {m : Sem α} {f : α → Sem β} {Q : β → Shared → Prop} (h : wpS M A L m (fun a s' => wpS M A L (f a) Q E s') E s) : wpS M A L (m >>= f) Q E s := fun Γ p hΓ hr => by
 rw [Sem.wp_bind']
 exact Sem.wp_mono M Γ m (fun a p' s' h' => h' Γ p' hΓ hr) (fun _ _ _ h' => h') p s (h Γ p hΓ hr)
theorem qFD {m : Sem α} {f : α → Sem β} {Q : β → Shared → Prop} (h : wpS M A L m (fun _ _ => False) E s) : wpS M A L (m >>= f) Q E s :=
 qAr (qHN h (fun _ _ x => x.elim) fun _ _ x => x)
theorem qDQ {vs : List Value} {m : Sem α} {Q : α → Shared → Prop} (h : wpS M A L m Q E s) : wpS M A L (holding vs m) Q E s :=
 fun Γ p hΓ hr => by rw [Sem.wp_holding]; exact h Γ p hΓ hr
theorem qHP {f : Value} {pos : List Value} {kw : List (Str × Value)} {Q : VP}
  (hc : qEt M A L (.call f ⟨pos, kw⟩) (fun r s' => match r with | .ok (.ret v) => Q v s' | .ok _ => False | .error e => E e s') s) : wpS M A L (call f pos kw) Q E s := fun Γ p hΓ hr => by
 show Sem.wp M Γ (runValue _) _ _ p s
 rw [Sem.wp_runValue]
 refine hc _ p rfl (hΓ.enter _ none p (by intro x; cases x)) ?_
 obtain ⟨r, e⟩ := hr
 exact ⟨r, e⟩
theorem qBq {c : Code} {R : RP}
  (h : wpS M (A.under c) (c :: L) (M.den c) (fun fin s' => match fin with | .done f => R (.ok f) s' | .again c' => c'.quiet = true ∧ qEt M A L c' R s') (fun e s' => R (.error e) s') s) : qEt M A L c R s := fun Γ p hc hΓ hr => by
 rw [wpCode_iff_wp, hc]
 refine Sem.wp_mono M Γ _ (fun fin p' s' h' => ?_) (fun _ _ _ h' => h') p s (h Γ p (hc ▸ hΓ.in) ?_)
 ·cases fin with
  | done f => exact h'
  | again c' => exact ⟨h'.1, h'.2 (Γ.goto c') p' rfl (hΓ.goto c') hr⟩
 ·obtain ⟨r, e⟩ := hr
  exact ⟨r, by rw [hc, e]; rfl⟩
theorem qDy {c : Code} {R : RP} (h : qEt M A [] c R s) : codeAny M A c R s := fun Γ p hc hΓ => h Γ p hc hΓ ⟨_, rfl⟩
theorem qKf {Q : List (Code × Pos) → Shared → Prop} (h : ∀ st r, st.map (·.1) = L ++ r → Q st s) : wpS M A L stack Q E s := fun Γ p hΓ hr => by
 show Q ((Γ.code, p) :: Γ.below) s
 obtain ⟨r, e⟩ := hr
 exact h _ r e
theorem qSc {own : List String} {L r : List Code} {id : String} {a : Args} (h : Code.builtin id a ∈ L) (h1 : own.contains id = false) (h2 : (id == "type.__call__") = false) (hL : L.all (·.env?.isNone) = true) : pythonCodeMadeTheCall own (L ++ r) = false := by
 unfold pythonCodeMadeTheCall
 have e : (L ++ r).takeWhile (·.env?.isNone) = L ++ r.takeWhile (·.env?.isNone) := List.takeWhile_append_of_pos fun a ha => by simpa using List.all_eq_true.mp hL a ha
 rw [e, List.all_append, Bool.and_eq_false_iff]
 refine .inr ?_
 rw [Bool.and_eq_false_iff]
 refine .inl (List.all_eq_false.mpr ⟨_, h, ?_⟩)
 simp only [h1, h2, Bool.false_and, Bool.or_false]
 exact Bool.false_ne_true
theorem qHO {own : List String} {e : Value} {Q : Unit → Shared → Prop} (h : ∀ r, pythonCodeMadeTheCall own (L ++ r) = false) (hq : Q () s) : wpS M A L (markTheRefusal own e) Q E s := by
 unfold markTheRefusal
 refine qAr (qKf fun st r hst => ?_)
 rw [hst, h r]
 exact qAO (wpAny_pure hq)
end
end
section
open PySem.NumText
theorem qTp (v : Value) : ∃ k, Builtin.«type.__call__» ⟨[.type "int", v], []⟩ = (holding [.builtin "int.__new__"] (call (.builtin "int.__new__") [.type "int", v] [])) >>= k := by
 have h1 := F.called_int.notType
 have h2 := F.called_int.canCreate
 have h3 := F.called_int.made
 have h4 := F.mro_int
 have h5 := F.typeCall_int_1 v
 unfold Builtin.«type.__call__»
 dsimp only
 rw [if_neg (by rw [h1]; exact Bool.false_ne_true)]
 simp only [h2, h3, h4, h5, pure_bind, List.isEmpty_cons, Bool.false_eq_true, if_false]
 exact ⟨_, rfl⟩
theorem qUV (x : Str) (u : Tok) : ∃ k, Builtin.«int.__new__» ⟨[.type "int", .str x u], []⟩ = ((int_private% "intFromText") (.str x u) (numTextOf x) 10) >>= k := by
 have f1 := F.conv_sub_int
 have f2 := F.madeHere_int
 unfold Builtin.«int.__new__»
 dsimp only
 simp only [f1, f2, isType, pure_bind]
 exact ⟨_, rfl⟩
section
variable {w : World} {A : Around} {L : List Code} {E : VP} {s : Shared}
noncomputable def qEU (x : Str) : Str := ((s!"invalid literal for int() with base {(10 : Nat)}: " : String) ++ (⟨(reprText x).cps.extract 0 200⟩ : Str) : Str)
theorem qQG (x : Str) (hx : x.length ≤ 640) : (numSeenOf x).length ≤ 640 := Nat.le_trans (seen_length x) hx
theorem qFC {α : Type} {M : Model} {c : Prop} [Decidable c] {a b : Sem α} {Q : α → Shared → Prop} (hc : c) (h : wpS M A L a Q E s) : wpS M A L (if c then a else b) Q E s := by rw [if_pos hc]; exact h
theorem qCK {α : Type} {M : Model} {c : Prop} [Decidable c] {a b : Sem α} {Q : α → Shared → Prop} (hc : ¬ c) (h : wpS M A L b Q E s) : wpS M A L (if c then a else b) Q E s := by rw [if_neg hc]; exact h
theorem qGz (x : Str) : (qEU x).length ≤ sizeLine := by
 have h1 : (Str.ofString (s!"invalid literal for int() with base {(10 : Nat)}: ")).cps.size = 40 := by kernel_rfl
 have h2 : (qEU x).length = (Str.ofString (s!"invalid literal for int() with base {(10 : Nat)}: ")).cps.size + ((reprText x).cps.extract 0 200).size := by
  show (_ ++ _ : Array Nat).size = _
  rw [Array.size_append]
 rw [h2, h1, Array.size_extract, sizeLine_eq]
 omega
theorem qMP {Q : VP} {x : Str} {u : Tok} (hh : A.handled = none) (hx : x.length ≤ 640) (hr : (reprText x).length ≤ sizeLine) (hn : PySem.intText? x = none) (hL : ∀ r, pythonCodeMadeTheCall ["int.__new__"] (L ++ r) = false)
  (hE : ∀ tk h' e t, Heap.MadeExc s.heap h' e "ValueError" [.str (qEU x) t] → E (.ref e) { s with heap := h', toks := tk }) :
  wpS (MM w) A L ((int_private% "intFromText") (.str x u) (numTextOf x) 10) Q E s := by
 rcases read0 x (qQG x hx) with ⟨n, e, _⟩ | ⟨_, e⟩
 ·rw [hn] at e; cases e
 refine qFC (qQG x hx) ?_
 with_reducible refine qAr (qAO (wpAny_pure ?_))
 have tl : ∀ (h' : Heap) (e : Addr), Heap.MadeExc s.heap h' e "ValueError" [.str (qEU x) (s.toks + 1)] → E (.ref e) { s with heap := h', toks := s.toks + 1 + 1 } := fun h' e hm => hE _ _ _ _ hm
 rcases e with e | ⟨i, e, ne⟩
 ·have e' := e
  unfold numSeenOf at e'
  dsimp only
  rw [e']
  dsimp only
  with_reducible refine qAr (qAO (wpAny_pure ?_))
  with_reducible refine qCK (by simp) ?_
  with_reducible refine qAr (qAO (wpAny_rule ?_))
  with_reducible refine qAr (qAO (wpAny_pure ?_))
  with_reducible refine qAr (qAO (wpAny_pyRepr_str ?_ hr))
  with_reducible refine qAr (qAO (wpAny_mkStr ?_ ?_))
  rotate_left
  exact qGz x
  with_reducible refine qAr (qAO (wpAny_newExc_plain plainExc_ValueError fun h' e hm => ?_))
  with_reducible refine qAr (qHO hL ?_)
  exact qAO (wpAny_raiseNew_none hh (tl _ _ hm))
 ·have e' := e
  unfold numSeenOf at e' ne
  dsimp only
  rw [e']
  dsimp only
  with_reducible refine qCK ne ?_
  with_reducible refine qAr (qAO (wpAny_rule ?_))
  with_reducible refine qAr (qAO (wpAny_pure ?_))
  with_reducible refine qAr (qAO (wpAny_pyRepr_str ?_ hr))
  with_reducible refine qAr (qAO (wpAny_mkStr ?_ ?_))
  rotate_left
  exact qGz x
  with_reducible refine qAr (qAO (wpAny_newExc_plain plainExc_ValueError fun h' e hm => ?_))
  with_reducible refine qAr (qHO hL ?_)
  exact qAO (wpAny_raiseNew_none hh (tl _ _ hm))
theorem qB3 {id : String} {args : Args} {b : Builtin} {R : RP} (hb : entryFor table id = some b)
  (h : wpS (MM w) (A.under (.builtin id args)) (.builtin id args :: L) (b args) (fun fin s' => match fin with | .done f => R (.ok f) s' | .again c' => c'.quiet = true ∧ qEt (MM w) A L c' R s') (fun e s' => R (.error e) s') s) : qEt (MM w) A L (.builtin id args) R s := by
 refine qBq ?_
 show wpS _ _ _ (match entryFor table id with | some b => b args | none => unsupported ((withoutEnding? id "#data").getD id)) _ _ s
 rw [hb]; exact h
theorem qCU {id : String} {args : Args} {b : Builtin} {R : RP} (hq : plainId id = true) (hc : checkBuiltinCall id args = pure ()) (hb : entryFor table id = some b)
  (h : wpS (MM w) A.in1 (.builtin id args :: L) (b args) (fun fin s' => match fin with | .done f => R (.ok f) s' | .again c' => c'.quiet = true ∧ qEt (MM w) A L c' R s') (fun e s' => R (.error e) s') s) : qEt (MM w) A L (.call (.builtin id) args) R s := by
 refine qBq ?_
 show wpS _ A.in1 _ (do checkBuiltinCall id args; again (.builtin id args)) _ _ s
 rw [hc]
 refine qAr (qAO (wpAny_pure (qAO (wpAny_pure (And.intro (plainId_quiet hq args) (qB3 hb ?_))))))
 rw [Around.under_plainId hq args]; exact h
theorem qMl {Q : VP} {x : Str} {u : Tok} {aM : Args} (hh : A.handled = none) (hx : x.length ≤ 640) (hr : (reprText x).length ≤ sizeLine) (hn : PySem.intText? x = none)
  (hE : ∀ tk h' e t, Heap.MadeExc s.heap h' e "ValueError" [.str (qEU x) t] → E (.ref e) { s with heap := h', toks := tk }) :
  wpS (MM w) A [.builtin "map.__next__" aM] (call (.type "int") [.str x u]) Q E s := by
 refine qHP (qBq ?_)
 show wpS _ _ _ (callAny (.type "int") _) _ _ _
 refine qAO (wpAny_pure ⟨Code.quiet_builtin _ (by decide +kernel), qB3 F.entry_type_call ?_⟩)
 rw [Around.under_plain (weight_type_call_type "int" _ []) (units_type_call_type "int" _ [])]
 obtain ⟨k, e⟩ := qTp (.str x u)
 rw [e]
 refine qFD (qDQ (qHP (qCU (by decide +kernel) (F.newCall_int_1 _) F.entry_int_new ?_)))
 obtain ⟨k2, e2⟩ := qUV x u
 rw [e2]
 refine qFD (qMP hh hx hr hn (fun r => qSc (id := "map.__next__") (a := aM) ?_ ?_ ?_ ?_) hE)
 ·exact .tail _ (.tail _ (.head _))
 ·rfl
 ·rfl
 ·rfl
end
end
section
open PySem.NumText
theorem sl_map_iter : Slot "map" "__iter__" "map.__iter__" :=
 .of (owner := "map") (n := "__iter__") (by rw [typeLookup_type, builtinLookup_eq_fast]; kernel_rfl) (by decide +kernel) (by decide +kernel) (by decide +kernel)
  (by first | exact .inl (by decide +kernel) | exact .inr (by decide +kernel)) (by rw [isSubtype_type]; kernel_rfl)
theorem sl_map_next : Slot "map" "__next__" "map.__next__" :=
 .of (owner := "map") (n := "__next__") (by rw [typeLookup_type, builtinLookup_eq_fast]; kernel_rfl) (by decide +kernel) (by decide +kernel) (by decide +kernel)
  (by first | exact .inl (by decide +kernel) | exact .inr (by decide +kernel)) (by rw [isSubtype_type]; kernel_rfl)
theorem qHC : entryFor table "map.__iter__" = some Builtin.«dict_keyiterator.__iter__» :=   entryFor_alias (id' := "dict_keyiterator.__iter__") (by rw [fastTable_eq_tree]; kernel_rfl) (by first | rfl | decide +kernel | (unfold String.splitOn; simp +decide [String.splitOnAux])) (by decide +kernel) (by rw [fastTable_eq_tree]; kernel_rfl)
theorem qHA : entryFor table "map.__next__" = some Builtin.«map.__next__» := entryFor_of_tree (by kernel_rfl)
theorem qJX : entryFor table "map.__new__" = some Builtin.«map.__new__» := entryFor_of_tree (by kernel_rfl)
theorem qHL (a : Value) : argsOk "map.__iter__" ⟨[a], []⟩ := by unfold argsOk; kernel_rfl
theorem qHK (a : Value) : argsOk "map.__next__" ⟨[a], []⟩ := by unfold argsOk; kernel_rfl
theorem qKB : isSubtype (.type "ValueError") (.type "StopIteration") = pure false := by rw [isSubtype_type]; kernel_rfl
noncomputable def qIh (T : Addr) : Obj := { cls := .type "map", data := .fields #[.ref T, .type "int"] }
noncomputable def qDl (it : Addr) : Obj := { cls := .type "tuple", data := .seq #[.ref it] }
structure IsMap (h : Heap) (mp T I D : Addr) (i : Nat) (items : Array Value) : Prop where
 m : h.get? mp = some (qIh T)
 t : h.get? T = some (qDl I)
 it : h.IsListIter I D i
 lst : h.IsList D items
 ne : mp ≠ I ∧ T ≠ I ∧ D ≠ I
section
variable {w : World} {A : Around} {L : List Code} {E : VP} {s : Shared}
theorem IsMap.next {h h' : Heap} {mp T I D : Addr} {i j : Nat} {items : Array Value} (m : IsMap h mp T I D i items) (hs : Heap.SameBut I h h') (hit : h'.IsListIter I D j) : IsMap h' mp T I D j items :=
 ⟨(hs.2 _ m.ne.1).trans m.m, (hs.2 _ m.ne.2.1).trans m.t, hit, m.lst.extBut hs.extBut m.ne.2.2, m.ne⟩
theorem qLU {mp T I D : Addr} {i : Nat} {items : Array Value} {aM : Args} {Q : Fin → Shared → Prop} (m : IsMap s.heap mp T I D i items)
  (h : wpAny (MM w) A (Builtin.SmallTypes.nextOf (.ref I)) (fun x s1 => ∃ h', s1 = { s with heap := h' } ∧ IsMap h' mp T I D (i + 1) items ∧ wpS (MM w) A [.builtin "map.__next__" aM] (call (.type "int") [x]) (fun v s2 => Q (.done (.ret v)) s2) E s1) E s) :
  wpS (MM w) A [.builtin "map.__next__" aM] (Builtin.«map.__next__» ⟨[.ref mp], []⟩) Q E s := by
 unfold Builtin.«map.__next__»
 refine qAr (m := slotArgs "__next__" 0 _) (qAO (wpAny_pure ?_))
 dsimp only
 refine qAr (qAO (wpAny_field m.m rfl (x := .ref T) rfl ?_))
 refine qAr (qAO (wpAny_seqItems m.t rfl ?_))
 dsimp only
 rw [← Array.forIn_toList]
 simp only [List.forIn_cons, List.forIn_nil, bind_assoc, pure_bind]
 refine qAr (qAO (wpAny_holding (wpAny_mono h (fun x s1 zz => ?_) fun _ _ x => x)))
 obtain ⟨h', e, m1, h1⟩ := zz
 subst e
 refine qAr (qAO (wpAny_field m1.m rfl (x := .type "int") rfl ?_))
 refine qAr (qDQ (qHN h1 (fun v s2 h2 => ?_) fun _ _ x => x))
 exact qAO (wpAny_bind (wpAny_letGo (wpAny_pure h2)))
theorem qEk {T id : String} {name : Str} {self : Value} {rest : List Value} {b : Builtin} {R : RP} (sl : Slot T name id) (hT : s.TypeIs self T) (ha : argsOk id ⟨self :: rest, []⟩) (hb : entryFor table id = some b)
  (h : wpS (MM w) A.in1 (.builtin id ⟨self :: rest, []⟩ :: L) (b ⟨self :: rest, []⟩) (fun fin s' => match fin with | .done f => R (.ok f) s' | .again c' => c'.quiet = true ∧ qEt (MM w) A L c' R s') (fun e s' => R (.error e) s') s) : qEt (MM w) A L (.call (.builtin id) ⟨self :: rest, []⟩) R s := by
 refine qBq ?_
 show wpS _ A.in1 _ (do checkBuiltinCall id ⟨self :: rest, []⟩; again (.builtin id ⟨self :: rest, []⟩)) _ _ s
 refine qAr (qAO (sl.check _ _ _ _ _ _ _ _ hT ha (qAO (wpAny_pure (And.intro (plainId_quiet sl.plain _) (qB3 hb ?_))))))
 rw [Around.under_plainId sl.plain _]; exact h
theorem qFa {mp T I D : Addr} {i : Nat} {items : Array Value} {Q : VP} (m : IsMap s.heap mp T I D i items)
  (h : wpAny (MM w) A.in1 (Builtin.SmallTypes.nextOf (.ref I)) (fun x s1 => ∃ h', s1 = { s with heap := h' } ∧ IsMap h' mp T I D (i + 1) items ∧ wpS (MM w) A.in1 [.builtin "map.__next__" ⟨[.ref mp], []⟩] (call (.type "int") [x]) Q E s1) E s) :
  wpAny (MM w) A (call (.builtin "map.__next__") [.ref mp]) Q E s := by
 refine wpAny_call (qDy (qEk sl_map_next ⟨_, m.m, rfl⟩ (qHK _) qHA ?_))
 exact qLU m h
theorem qHd {mp T I D : Addr} {i : Nat} {items : Array Value} {x : Str} {u : Tok} {n : Int} {Q : Option Value → Shared → Prop} (m : IsMap s.heap mp T I D i items) (hx : items[i]? = some (.str x u)) (hl : x.length ≤ 640) (hn : PySem.intText? x = some n)
  (hq : ∀ h', IsMap h' mp T I D (i + 1) items → Heap.SameBut I s.heap h' → Q (some (.int n s.toks)) { s with heap := h', toks := s.toks + 1 }) : wpAny (MM w) A (pyNext (.ref mp)) Q E s := by
 unfold pyNext
 refine wpAny_bind (wpAny_attempt (wpAny_callSpecial?_slot (name := Str.ofString "__next__") (T := "map") ⟨_, m.m, rfl⟩ sl_map_next (qFa m ?_)))
 refine wpAny_nextOf_list_item m.it m.lst hx fun h' hit hs => ⟨h', rfl, m.next hs hit, qAO (KIN.call_text hn hl ?_)⟩
 exact wpAny_pure (hq h' (m.next hs hit) hs)
theorem qP5 {h : Heap} {s : Shared} {e : Addr} {cls : String} {args : List Value} (hm : Heap.MadeExc h s.heap e cls args) : s.TypeIs (.ref e) cls := by
 obtain ⟨t, ht, _⟩ := hm.there
 exact ⟨_, ht, rfl⟩
theorem qHf {mp T I D : Addr} {i : Nat} {items : Array Value} {x : Str} {u : Tok} {Q : Option Value → Shared → Prop} (hh : A.handled = none) (m : IsMap s.heap mp T I D i items) (hx : items[i]? = some (.str x u)) (hl : x.length ≤ 640) (hr : (reprText x).length ≤ sizeLine) (hn : PySem.intText? x = none)
  (hE : ∀ h1 tk h' e t, Heap.SameBut I s.heap h1 → Heap.MadeExc h1 h' e "ValueError" [.str (qEU x) t] → E (.ref e) { s with heap := h', toks := tk }) : wpAny (MM w) A (pyNext (.ref mp)) Q E s := by
 unfold pyNext
 refine wpAny_bind (wpAny_attempt (wpAny_callSpecial?_slot (name := Str.ofString "__next__") (T := "map") ⟨_, m.m, rfl⟩ sl_map_next (qFa m ?_)))
 refine wpAny_nextOf_list_item m.it m.lst hx fun h' hit hs => ⟨h', rfl, m.next hs hit, qMl hh hl hr hn fun tk h2 e t hm => ?_⟩
 refine wpAny_bind (wpAny_isInstance (T := "ValueError") (b := false) (qP5 hm) qKB ?_)
 exact wpAny_throw (hE _ _ _ _ _ hs hm)
theorem qHe {mp T I D : Addr} {i : Nat} {items : Array Value} {Q : Option Value → Shared → Prop} (hh : A.handled = none) (m : IsMap s.heap mp T I D i items) (hx : items[i]? = none)
  (hq : ∀ h', Heap.ExtBut I s.heap h' → Q none { s with heap := h' }) : wpAny (MM w) A (pyNext (.ref mp)) Q E s := by
 unfold pyNext
 refine wpAny_bind (wpAny_attempt (wpAny_callSpecial?_slot (name := Str.ofString "__next__") (T := "map") ⟨_, m.m, rfl⟩ sl_map_next (qFa m ?_)))
 refine wpAny_nextOf_list_end hh m.it m.lst hx fun h' e hs zz => ?_
 obtain ⟨o, ho, hc⟩ := zz
 refine wpAny_bind (wpAny_isInstance (T := "StopIteration") (b := true) ⟨_, ho, hc⟩ isSubtype_stop ?_)
 exact wpAny_pure (hq h' hs)
end
end
section
open PySem.NumText
noncomputable def qBw : List Str → OI
 | [x, y] => match PySem.intText? x, PySem.intText? y with
  | some a, some b => some (a, b)
  | _, _ => none
 | _ => none
theorem Chg.past {h0 h h' : Heap} {I : Addr} (c : Chg [] h0 h) (s : Heap.SameBut I h h') (hI : h0.get? I = none) : Chg [] h0 h' :=
 ⟨fun b o e _ => (s.2 b fun q => by subst q; rw [hI] at e; cases e).trans (c.keep b o e (by simp))⟩
theorem Chg.pastE {h0 h h' : Heap} {I : Addr} (c : Chg [] h0 h) (s : Heap.ExtBut I h h') (hI : h0.get? I = none) : Chg [] h0 h' :=
 ⟨fun b o e _ => s b o (fun q => by subst q; rw [hI] at e; cases e) (c.keep b o e (by simp))⟩
section
variable {α : Type} {M : Model} {w : World} {A : Around} {E : VP} {s : Shared}
theorem qC3 {cls msg : String} {Q : α → Shared → Prop} (hp : PlainExc cls) (hh : A.handled = none) (h : ∀ h' e t, Heap.MadeExc s.heap h' e cls [.str (Str.ofString msg) t] → E (.ref e) { s with heap := h', toks := s.toks + 1 })
  (hm : (Str.ofString msg).length ≤ sizeLine) : wpAny M A (raiseErrorMade cls msg : Sem α) Q E s := by
 unfold raiseErrorMade
 exact wpAny_bind (wpAny_mkStr (wpAny_bind (wpAny_newExc_plain hp fun h' e hx => wpAny_raiseNew_none hh (h _ _ _ hx))) hm)
theorem qO1 {mp T I D : Addr} {i : Nat} {items : Array Value} {Q : VP} (m : IsMap s.heap mp T I D i items) (h : Q (.ref mp) s) : wpAny (MM w) A (pyIter (.ref mp)) Q E s := by
 have hT : s.TypeIs (.ref mp) "map" := ⟨_, m.m, rfl⟩
 refine wpAny_pyIter_slot hT sl_map_iter (wpAny_call_entry sl_map_iter hT qHC ?_ (qHL _))
 show wpAny _ _ (ret (.ref mp)) _ _ s
 exact wpAny_pure ⟨_, rfl, "map", _, hT, sl_map_next.lookup, h⟩
theorem qML (n : Nat) (h : n < 2) : (Str.ofString (s!"not enough values to unpack (expected {(2 : Nat)}, got {n})")).length ≤ sizeLine := by
 rw [sizeLine_eq]
 rcases n with _ | _ | n
 ·decide +kernel
 ·decide +kernel
 ·omega
theorem qO2 : (Str.ofString (s!"too many values to unpack (expected {(2 : Nat)})")).length ≤ sizeLine := by
 rw [sizeLine_eq]; decide +kernel
theorem qIZ {mp T I D : Addr} {l : List (Str × Tok)} {s0 : Shared} {Q : List Value → Shared → Prop} (hh : A.handled = none) (m : IsMap s.heap mp T I D 0 (strValues l).toArray) (c : Chg [] s0.heap s.heap) (hI : s0.heap.get? I = none)
  (hl : ∀ x ∈ l, x.1.length ≤ 640 ∧ (reprText x.1).length ≤ sizeLine)
  (hQ : ∀ a b ta tb h' tk, qBw (l.map (·.1)) = some (a, b) → Chg [] s0.heap h' → Q [.int a ta, .int b tb] { s with heap := h', toks := tk })
  (hE : ∀ h1 tk h' e args, qBw (l.map (·.1)) = none → Chg [] s0.heap h1 → Heap.MadeExc h1 h' e "ValueError" args → E (.ref e) { s with heap := h', toks := tk }) :
  wpAny (MM w) A (unpackItems (.ref mp) 2 none) Q E s := by
 unfold unpackItems
 with_reducible refine wpAny_bind ?_
 unfold notIterableAtAll
 refine wpAny_bind (wpAny_specialOf ⟨_, m.m, rfl⟩ sl_map_iter.lookup ?_)
 refine wpAny_pure ?_
 simp only [Bool.false_eq_true, if_false]
 with_reducible refine wpAny_bind (wpAny_holding (qO1 m ?_))
 with_reducible refine wpAny_bind (wpAny_holding ?_)
 show wpAny _ _ (pyNext (.ref mp) >>= _) _ _ _
 cases l with
 | nil =>
  with_reducible refine wpAny_bind (qHe hh m rfl fun h1 x1 => wpAny_pure ?_)
  rw [if_pos (by decide)]
  refine wpAny_bind (wpAny_rule (wpAny_bind (qC3 plainExc_ValueError hh (fun h' e t hm => hE _ _ _ _ _ rfl (c.pastE x1 hI) hm) (qML 0 (by decide)))))
 | cons a l =>
  have ha := hl a (.head _)
  have e0 : (strValues (a :: l)).toArray[0]? = some (.str a.1 a.2) := rfl
  cases hn : PySem.intText? a.1 with
  | none =>
   have bad : qBw ((a :: l).map (·.1)) = none := by
    rcases l with _ | ⟨b, _ | ⟨b2, l⟩⟩
    ·rfl
    ·show (match PySem.intText? a.1, PySem.intText? b.1 with | some a, some b => some (a, b) | _, _ => none) = none
     rw [hn]
    ·rfl
   with_reducible exact wpAny_bind (qHf hh m e0 ha.1 ha.2 hn fun h1 tk h' e t x1 hm => hE _ _ _ _ _ bad (c.past x1 hI) hm)
  | some n =>
   with_reducible refine wpAny_bind (qHd m e0 ha.1 hn fun h1 m1 x1 => ?_)
   dsimp only
   with_reducible refine wpAny_bind (wpAny_holding ?_)
   show wpAny _ _ (pyNext (.ref mp) >>= _) _ _ _
   have c1 := c.past x1 hI
   cases l with
   | nil =>
    with_reducible refine wpAny_bind (qHe hh m1 rfl fun h2 x2 => wpAny_pure (wpAny_pure ?_))
    rw [if_pos (by simp)]
    refine wpAny_bind (wpAny_rule (wpAny_bind (qC3 plainExc_ValueError hh (fun h' e t hm => hE _ _ _ _ _ rfl (c1.pastE x2 hI) hm) (qML 1 (by decide)))))
   | cons b l =>
    have hb := hl b (.tail _ (.head _))
    have e1 : (strValues (a :: b :: l)).toArray[1]? = some (.str b.1 b.2) := rfl
    cases hn2 : PySem.intText? b.1 with
    | none =>
     have bad : qBw ((a :: b :: l).map (·.1)) = none := by
      rcases l with _ | ⟨b2, l⟩
      ·show (match PySem.intText? a.1, PySem.intText? b.1 with | some a, some b => some (a, b) | _, _ => none) = none
       rw [hn, hn2]
      ·rfl
     with_reducible exact wpAny_bind (qHf hh m1 e1 hb.1 hb.2 hn2 fun h1 tk h' e t x2 hm => hE _ _ _ _ _ bad (c1.past x2 hI) hm)
    | some n2 =>
     with_reducible refine wpAny_bind (qHd m1 e1 hb.1 hn2 fun h2 m2 x2 => ?_)
     dsimp only
     have c2 := c1.past x2 hI
     refine wpAny_bind (wpAny_holding (wpAny_pure (wpAny_pure (wpAny_pure ?_))))
     rw [if_neg (by simp)]
     cases l with
     | nil =>
      with_reducible refine wpAny_bind (wpAny_holding (qHe hh m2 rfl fun h3 x3 => ?_))
      dsimp only [Option.isSome]
      simp only [Bool.false_eq_true, if_false]
      with_reducible refine wpAny_pure (hQ _ _ _ _ _ _ ?_ (c2.pastE x3 hI))
      show (match PySem.intText? a.1, PySem.intText? b.1 with | some a, some b => some (a, b) | _, _ => none) = _
      rw [hn, hn2]
     | cons d l =>
      have hd := hl d (.tail _ (.tail _ (.head _)))
      have e2 : (strValues (a :: b :: d :: l)).toArray[2]? = some (.str d.1 d.2) := rfl
      cases hn3 : PySem.intText? d.1 with
      | none => exact wpAny_bind (wpAny_holding (qHf hh m2 e2 hd.1 hd.2 hn3 fun h1 tk h' e t x3 hm => hE _ _ _ _ _ rfl (c2.past x3 hI) hm))
      | some n3 =>
       with_reducible refine wpAny_bind (wpAny_holding (qHd m2 e2 hd.1 hn3 fun h3 m3 x3 => ?_))
       dsimp only [Option.isSome]
       simp only [if_true]
       with_reducible refine wpAny_bind (wpAny_rule (wpAny_bind (qC3 plainExc_ValueError hh (fun h' e t hm => hE _ _ _ _ _ rfl (c2.past x3 hI) hm) qO2)))
end
end
section
open PySem.NumText
theorem qLR : mroOf (.type "map") = pure [.type "map", .type "object"] := by rw [mroOf_type]; kernel_rfl
theorem qR8 : typeLookup (.type "map") "__new__" = pure (some (.builtin "map.__new__")) := by rw [typeLookup_type, builtinLookup_eq_fast]; kernel_rfl
theorem qKD : isSubtype (.type "map") (.type "map") = pure true := by rw [isSubtype_type]; kernel_rfl
theorem qGX : Slot "map" "__init__" "object.__init__" :=
 .of (owner := "object") (n := "__init__") (by rw [typeLookup_type, builtinLookup_eq_fast]; kernel_rfl) (by decide +kernel) (by decide +kernel) (by decide +kernel)
  (by first | exact .inl (by decide +kernel) | exact .inr (by decide +kernel)) (by rw [isSubtype_type]; kernel_rfl)
theorem qJZ : TypeCalled "map" "map.__new__" "object.__init__" :=
 ⟨by decide +kernel, by decide +kernel, ⟨_, _, qLR⟩, madeBy_type qLR qR8 (by decide +kernel), by decide +kernel, qKD, qGX⟩
theorem qKy (a b : Value) : checkTypeCall "map" ⟨[a, b], []⟩ = pure () := by kernel_rfl
theorem qLP (a b : Value) : checkBuiltinCall "map.__new__" ⟨[.type "map", a, b], []⟩ = pure () := by kernel_rfl
noncomputable def qBN (D : Addr) : Obj := { cls := .type "list_iterator", data := .fields #[.ref D, .int 0 0] }
noncomputable def qFb (h : Heap) (D : Addr) : Heap := ((h.push (qBN D)).push (qDl h.objs.size)).push (qIh (h.objs.size + 1))
theorem qEL {h : Heap} {D : Addr} {items : Array Value} (hl : h.IsList D items) : IsMap (qFb h D) (h.objs.size + 2) (h.objs.size + 1) h.objs.size D 0 items := by
 have z1 : (h.push (qBN D)).objs.size = h.objs.size + 1 := Heap.size_push ..
 have z2 : ((h.push (qBN D)).push (qDl h.objs.size)).objs.size = h.objs.size + 2 := by rw [Heap.size_push, z1]
 have hD : D < h.objs.size := by obtain ⟨o, ho, _⟩ := hl; exact Heap.lt_size ho
 refine ⟨?_, ?_, ?_, ((hl.push _).push _).push _, Nat.ne_of_gt (by omega), Nat.ne_of_gt (by omega), Nat.ne_of_lt hD⟩
 ·have := Heap.get?_push_size ((h.push (qBN D)).push (qDl h.objs.size)) (o := qIh (h.objs.size + 1)) rfl
  rw [z2] at this; exact this
 ·have := Heap.get?_push_size (h.push (qBN D)) (o := qDl h.objs.size) rfl
  rw [z1] at this
  exact Heap.get?_push_of_some _ this
 ·exact ⟨_, Heap.get?_push_of_some _ (Heap.get?_push_of_some _ (Heap.get?_push_size _ rfl)), rfl, rfl⟩
theorem qHg (h : Heap) (D : Addr) : Chg [] h (qFb h D) := ⟨fun b o e _ => Heap.get?_push_of_some _ (Heap.get?_push_of_some _ (Heap.get?_push_of_some _ e))⟩
theorem qLT (D : Addr) (items : Array Value) : Meets (Builtin.«map.__new__» ⟨[.type "map", .type "int", .ref D], []⟩) (fun _ R s => s.heap.IsList D items ∧ R (.ok (.ret (.ref (s.heap.objs.size + 2)))) { s with heap := qFb s.heap D }) :=
 .of_wp fun prog w A R s h => by
  obtain ⟨hp, g, d, tk, os⟩ := s; obtain ⟨hl, h⟩ := h
  replace hl : hp.IsList D items := hl
  have f1 := qKD
  have z1 : (hp.push (qBN D)).objs.size = hp.objs.size + 1 := Heap.size_push ..
  have z2 : ((hp.push (qBN D)).push (qDl hp.objs.size)).objs.size = hp.objs.size + 2 := by rw [Heap.size_push, z1]
  wp_walk using wpAny_pyIter_list hl
  refine ⟨_, rfl, ?_⟩
  show R (.ok (.ret (.ref ((hp.push (qBN D)).push (qDl hp.objs.size)).objs.size))) ⟨((hp.push (qBN D)).push (qDl hp.objs.size)).push (qIh (hp.push (qBN D)).objs.size), g, d, tk, os⟩
  rw [z2, z1]
  exact h
section
variable {w : World} {A : Around} {E : VP} {s : Shared}
theorem qQr {D : Addr} {items : Array Value} {Q : VP} (hl : s.heap.IsList D items) (hq : Q (.ref (s.heap.objs.size + 2)) { s with heap := qFb s.heap D }) : wpAny (MM w) A (call (.type "map") [.type "int", .ref D]) Q E s := by
 refine callType_new qJZ (by decide) (qKy _ _) (qLP _ _) (fun obj => by unfold argsOk; kernel_rfl) qJX (qLT D items) ⟨hl, ?_⟩
 exact ⟨⟨_, (qEL hl).m, rfl⟩, hq⟩
end
end
section
open PySem.NumText
noncomputable abbrev qFB : Str := "index"
noncomputable abbrev qNy : Str := "line"
noncomputable abbrev xCol : Str := "col"
noncomputable abbrev qVg (P : Params) : FuncData := fdOf (o51 P)
noncomputable abbrev bGlc : List Stmt := qBh (F1 2)
noncomputable abbrev scGlc : Scope := qAM (F1 2)
theorem qMX (w : World) : FnFacts w 51 (qVg w.params) bGlc [qFB] :=
 .of1 (by kernel_rfl) (by kernel_rfl) (by kernel_rfl) fun _ => by kernel_rfl
theorem qOh (P : Params) : (qVg P).scope = scGlc := by kernel_rfl
noncomputable def cKn : PySem.Expr → Nat
 | .Tuple _ k _ => k
 | .Constant _ k _ => k
 | _ => 0
noncomputable def qU2 (st : Stmt) : Stmt := .Assign [.Tuple [.Name qNy (cP (cA 0 (stT st))), .Name xCol (cP (cA 1 (stT st)))] (cKn (stT st)) (cP (stT st))]
 (.Call (.Name "map" (cP (cF (stE st)))) [.Name "int" (cP (cA 0 (stE st))), .Call (.Attribute (.Name qFB (cP (cF (cF (cA 1 (stE st)))))) "split" (cP (cF (cA 1 (stE st))))) [cA 0 (cA 1 (stE st))] [] (cP (cA 1 (stE st)))] [] (cP (stE st))) (stP st)
theorem qMv : bGlc = qU2 (nthS bGlc 0) :: bGlc.drop 1 := by kernel_rfl
noncomputable abbrev qQU : PySem.Expr := cA 0 (cA 1 (stE (nthS bGlc 0)))
noncomputable abbrev qDw (x : Str) : LV := [(qFB, .str x)]
noncomputable abbrev qMx (x : Str) (a b : Int) : LV := [(qFB, .str x), (qNy, .int a), (xCol, .int b)]
theorem qU1 (P : Params) (x : Str) : qAi (KK P) scGlc "map" ⟨qDw x, [], [], []⟩ = some (.lit (.type "map"), ⟨qDw x, [], [], []⟩, []) := by kernel_rfl
theorem qU0 (P : Params) (x : Str) : qAi (KK P) scGlc "int" ⟨qDw x, [], [], []⟩ = some (.lit (.type "int"), ⟨qDw x, [], [], []⟩, []) := by kernel_rfl
theorem qUZ (P : Params) (x : Str) : qAi (KK P) scGlc qFB ⟨qDw x, [], [], []⟩ = some (.str x, ⟨qDw x, [], [], []⟩, []) := by kernel_rfl
theorem qUY (P : Params) (x : Str) : (evs (KK P) cs0 scGlc 3).e qQU ⟨qDw x, [], [], []⟩ = some (.str ".", ⟨qDw x, [], [], []⟩, []) := by kernel_rfl
theorem qUX (x : Str) (a b : Int) (p q : Pos) : qBf scGlc [.Name qNy p, .Name xCol q] [.int a, .int b] ⟨qDw x, [], [], []⟩ = some ((), ⟨qMx x a b, [], [], []⟩, []) := by kernel_rfl
theorem qSK (P : Params) (x : Str) (a b : Int) : run (KK P) cs0 scGlc (bGlc.drop 1) ⟨qMx x a b, [], [], []⟩ = some (.ret (.obj 0), ⟨qMx x a b, [.tup [.int a, .int b]], [], []⟩, []) := by kernel_rfl
theorem qPD : ((cP (cF (cA 1 (stE (nthS bGlc 0))))).endLine == (cP (cA 1 (stE (nthS bGlc 0)))).line) = true := by kernel_rfl
theorem qMw : qBG qQU = true := by kernel_rfl
end
section
open PySem.NumText
theorem qF0 {x y : Str} (hx : x.length + 2 ≤ sizeLine) : (Builtin.Str.partsBetween x (Builtin.Str.occurrences x y 0 x.length (x.length + 1)) y.length).length ≤ sizeLine := by
 rw [length_partsBetween]
 have e1 := StrLaws.occ_length_le x y 0 x.length (x.length + 1)
 omega
section
variable {cx : Cx} {A : Around} {s : Shared} {E : VP} {q0 : Str} {cd : Value} {x : Str}
theorem qB0 : scGlc.kind = .function := by kernel_rfl
theorem qPF (ok : AOK cx A 2) (hx : x.length + 2 ≤ sizeLine) (hp : ∀ y ∈ Txt.split x ".", y.length ≤ 640 ∧ (reprText y).length ≤ sizeLine) (r : Rel cx [] ⟨qDw x, [], [], []⟩ s) {Q : FP}
  (k : ∀ a b ρ' p s', qBw (Txt.split x ".") = some (a, b) → ρ'[0]? = some p → (∃ loc, Rel cx ρ' ⟨loc, [.tup [.int a, .int b]], [], []⟩ s') → Q (.ret (.ref p.1)) s')
  (kE : ∀ v s1 h' e args, qBw (Txt.split x ".") = none → v = .ref e → Rel cx [] ⟨qDw x, [], [], []⟩ s1 → Heap.MadeExc s1.heap h' e "ValueError" args → E v { s1 with heap := h' }) :
  wpAny (MM cx.w) A (execs bGlc (envOf q0 scGlc cx.L 51 cd)) Q E s := by
 rw [qMv]
 refine wpAny_execs_cons ?_
 unfold qU2
 refine Assign_Tuple (Call_Name rfl (nmL qB0 (qU1 cx.w.params x) r fun s3 r3 => qB4 rfl (Calls.spliced_cons (nmL qB0 (qU0 cx.w.params x) r3 fun s4 r4 => Calls.spliced_cons (Call_method1 rfl (qAy qMw) qPD (nmS qB0 (qUZ cx.w.params x) r4 fun t5 s5 r5 => ?_))))))
 refine SBG.split1 (Fm := fun s' => Rel cx [] ⟨qDw x, [], [], []⟩ s') (fun s' ob kk rr => rr.push ob kk) (evS (qAt qB0 (csv0 cx.w 1) 3).e (qUY cx.w.params x) qAb ok r5 rfl fun t6 s6 r6 => ⟨_, _, rfl, by decide +kernel, r6, qF0 hx, fun D l s7 hl r7 hL => ?_⟩) (by omega)
 refine Calls.spliced_nil (qQr hL ?_)
 show wpAny _ _ (do standAt _; unpack (.ref (s7.heap.objs.size + 2)) (assignEach _ _)) _ _ _
 refine wpAny_bind (wpAny_standAt ?_)
 unfold unpack
 refine oz02 (qB9 (es := [.Name qNy (cP (cA 0 (stT (nthS bGlc 0)))), .Name xCol (cP (cA 1 (stT (nthS bGlc 0))))]) (env := envOf q0 scGlc cx.L 51 cd) rfl) fun z1 z2 => ?_
 rw [z1, z2]
 refine wpAny_bind (wpAny_holding (qIZ (s0 := s7) (l := l) ok.room.2 (qEL hL) (qHg _ _) (Heap.get?_none_of_le (Nat.le_refl _)) (fun y hy => hp _ (by rw [← hl]; exact List.mem_map_of_mem hy)) (fun a b ta tb h' tk e c => ?_) (fun h1 tk h' e args e2 c hm => ?_)))
 ·rw [hl] at e
  refine wm (qCd qB0 (qUX x a b _ _) (.cons ⟨ta, rfl⟩ (.cons ⟨tb, rfl⟩ .nil)) ((r7.grow c).toks tk)) (fun _ s9 r9 => ?_)
  exact rnR qB0 (csv0 cx.w 1) (qSK cx.w.params x a b) qAb ok r9 fun ρ' c2 s10 p' v' r10 => oz12 v' fun p e3 e4 => by rw [e4]; exact k a b ρ' p s10 e e3 ⟨_, r10⟩
 ·rw [hl] at e2
  exact kE _ _ h' e args e2 rfl ((r7.grow c).toks tk) hm
end
theorem qPE {w : World} {A : Around} {s : Shared} {x : Str} {t : Tok} {Q E : VP} (rm : Room A 3) (k : Kept w s.heap) (hst : Stk A s.heap) (hx : x.length + 2 ≤ sizeLine) (hp : ∀ y ∈ Txt.split x ".", y.length ≤ 640 ∧ (reprText y).length ≤ sizeLine)
  (hQ : ∀ a b ρ' p s', qBw (Txt.split x ".") = some (a, b) → HR w ρ' [.tup [.int a, .int b]] s'.heap → (∀ q ∈ feet [.tup [.int a, .int b]] ρ', s.heap.get? q = none) → ρ'[0]? = some p → Kp [] (qAa A) s.heap s'.heap → s'.gens = s.gens ∧ s'.drawn = s.drawn ∧ s'.os = s.os → Q (.ref p.1) s')
  (hE : ∀ v s', qBw (Txt.split x ".") = none → (∃ args, Thrown A s [] "ValueError" args v s') → E v s') : codeAny (MM w) A (.call (.ref 51) ⟨[.str x t], []⟩) (ends Q E) s := by
 have hFF : ∀ a ∈ qAa A, a ∉ feet [] [] := fun a ha h => nomatch h
 refine qBl (d := 1) (ρ := []) (H := []) (args := [.str x]) (qMX w) rm (HR.nil k) (fun a ha => ⟨let ⟨o, e, _⟩ := hst.there a ha; ⟨o, e⟩, nofun⟩) (.cons ⟨t, rfl⟩ .nil) rfl fun s1 E' hLv r ok => ?_
 rw [qOh] at ok ⊢
 exact qPF (cx := cxIn w A s [] []) ok hx hp r (fun a b ρ' p s' e e3 z => oz11 z fun loc r10 => hQ a b ρ' p s' e r10.hr (fun q hq => (r10.ft q hq).2.elim (nofun) id) e3 r10.kp r10.rest)
  fun v s1 h' e args e2 ev r8 hm => hLv _ _ (wm (by rw [ev]; exact qC9 hst hFF qB0 rfl r8 hm) (fun _ s'' y => hE _ s'' e2 ⟨args, y⟩))
end
section
theorem qTi : isSubtype (.type "ValueError") (.type "BaseException") = pure true := by rw [isSubtype_type]; kernel_rfl
theorem qTg : isSubtype (.type "ValueError") (.type "ValueError") = pure true := by rw [isSubtype_type]; kernel_rfl
theorem qTh : isSubtype (.type ((Manifest.find? "ValueError").elim "type" fun x => x.metatype)) (.type "tuple") = pure false := by
 have e : (Manifest.find? "ValueError").elim "type" (fun x => x.metatype) = "type" := by decide +kernel
 rw [e, isSubtype_type]; kernel_rfl
theorem ve_g (P : Params) : nsIn (KK P) mainGlobals "ValueError" = some none := by kernel_rfl
theorem ve_b (P : Params) : nsIn (KK P) builtinsNs "ValueError" = some (some (.type "ValueError")) := by kernel_rfl
section
variable {w : World} {A A1 : Around} {s s1 s2 : Shared} {loc : LV} {sc : Scope} {q : Str} {a : Addr} {cd : Value} {cls : String} {args : List Value} {v : Value}
theorem qCi (st : Stk A s.heap) (hA : A1.frames = (A.deeper (envOf q sc s.heap.objs.size a cd)).frames) : qAa A1 = s.heap.objs.size :: qAa A := by
 obtain ⟨l, e1, _⟩ := st
 unfold qAa Around.deeper at *
 rw [hA]
 show List.filterMap _ ((A.frames.map _).getD []) = _
 rw [e1]
 rfl
theorem qCO {h' : Heap} (st : Stk A s.heap) (hlow : ∀ a ∈ qAa A, nS ≤ a) (hk : sc.kind = .function) (r : Rel (cxIn w A s [] []) [] ⟨loc, [], [], []⟩ s1) (hA : A1.frames = (A.deeper (envOf q sc s.heap.objs.size a cd)).frames)
  (kp : Kp [] (qAa A1) s1.heap s2.heap) (rest : s2.gens = s1.gens ∧ s2.drawn = s1.drawn ∧ s2.os = s1.os) (hs : (hideAll s1.heap ([] ++ qAa A1)).StaysIn h') (hu : s2.heap.UpToSlots h') : Rel (cxIn w A s [] []) [] ⟨loc, [], [], []⟩ { s2 with heap := h' } := by
 have hFF : ∀ a ∈ qAa A, a ∉ feet [] [] := fun a ha h => nomatch h
 have fA := qCi st hA
 have st1 : Stk A1 s1.heap := by
  obtain ⟨l', q1, q2⟩ := qDW (env := envOf q sc s.heap.objs.size a cd) st hFF hk rfl r
  exact ⟨l', hA.trans q1, q2⟩
 have k6 : Kp [] (qAa A1) s1.heap h' := qFg (l := []) st1 kp hs hu
 obtain ⟨m, n, hm⟩ := r.ns
 refine ⟨HR.nil (Kp.kept k6 r.hr.kept (fun a ha => nomatch ha) fun b hb => ?_), ⟨m, k6.ns n (nofun), hm⟩, (fun b hb => nomatch hb), r.lo, r.kp.trans k6 (fun b hb => nomatch hb) (fun b hb => ?_), ⟨rest.1.trans r.rest.1, rest.2.1.trans r.rest.2.1, rest.2.2.trans r.rest.2.2⟩⟩
 ·rw [fA] at hb
  rcases lc hb with z | z
  ·rw [z]; exact r.lo.1
  ·exact hlow b z
 ·rw [fA] at hb
  rcases lc hb with z | z
  ·exact .inr (by rw [z]; exact r.lo.2)
  ·exact .inl z
theorem qTa {np pos : Pos} {b0 : Stmt} {suite : List Stmt} {hs : List ExceptHandler} {Q : FP} {E : VP} (st : Stk A s.heap) (hlow : ∀ a ∈ qAa A, nS ≤ a) (hk : sc.kind = .function) (hl : sc.names.lookup (Str.ofString "ValueError") = some .globalImplicit)
  (r : Rel (cxIn w A s [] []) [] ⟨loc, [], [], []⟩ s1) (hA : A1.frames = (A.deeper (envOf q sc s.heap.objs.size a cd)).frames) (x : Thrown A1 s1 [] "ValueError" args v s2)
  (h : ∀ e h6 E', v = .ref e → Rel (cxIn w A s [] []) [] ⟨loc, [], [], []⟩ { s2 with heap := h6 } →
   wpAny (MM w) ((A.deeper (envOf q sc s.heap.objs.size a cd)).mark (some (.ref e))) (execs (b0 :: suite) (envOf q sc s.heap.objs.size a cd)) Q E' { s2 with heap := h6 }) :
  wpAny (MM w) (A.deeper (envOf q sc s.heap.objs.size a cd)) (noteFrame v (envOf q sc s.heap.objs.size a cd)) (fun _ s3 => wpAny (MM w) (A.deeper (envOf q sc s.heap.objs.size a cd)) (setFlight v none) (fun _ s4 =>
   wpAny (MM w) (A.deeper (envOf q sc s.heap.objs.size a cd)) (handleBy v (envOf q sc s.heap.objs.size a cd) (.ExceptHandler (some (.Name "ValueError" np)) none (b0 :: suite) pos :: hs)) Q E s4) E s3) E s2 := by
 have hFF : ∀ a ∈ qAa A, a ∉ feet [] [] := fun a ha h => nomatch h
 obtain ⟨⟨e, t, l1, rfl, e3, fly, tup, ht⟩, kp, rest⟩ := x
 obtain ⟨l, e1, e2, _, _⟩ := qB6 (env := envOf q sc s.heap.objs.size a cd) st hFF hk rfl r
 rw [hA, e2] at e3
 cases e3
 refine wpAny_looks_onW e2 rfl fly fun h4 held4 sm4 => ?_
 refine wpAny_landsW held4 fun h5 fly5 sm5 => ?_
 obtain ⟨ob, hob, hobc⟩ := fly5.there
 have r5 := qCO st hlow hk r hA kp rest fly5.1 (sm4.trans sm5)
 refine wpAny_handleBy_builtin (X := "ValueError") (T := "ValueError") (b := true) qTi qTh qTg (qBH (cx := cxIn w A s [] []) hk rfl hl (ve_g w.params) (ve_b w.params) r5.X ⟨rfl, ⟨ob, hob, hobc⟩, ?_⟩)
 refine lands_againW fly5 fun h6 fly6 sm6 => ?_
 exact h e h6 _ rfl (qCO st hlow hk r hA kp rest fly6.1 ((sm4.trans sm5).trans sm6))
end
end
noncomputable def tryB : Stmt → Stmt
 | .Try b _ _ _ _ => nthS b 0
 | _ => nthS [] 0
noncomputable def tryH : Stmt → ExceptHandler
 | .Try _ (h :: _) _ _ _ => h
 | _ => default
noncomputable def tryP : Stmt → Pos
 | .Try _ _ _ _ p => p
 | _ => default
noncomputable def hT : ExceptHandler → PySem.Expr
 | .ExceptHandler (some t) _ _ _ => t
 | _ => default
noncomputable def hS : ExceptHandler → Stmt
 | .ExceptHandler _ _ b _ => nthS b 0
noncomputable def hP : ExceptHandler → Pos
 | .ExceptHandler _ _ _ p => p
noncomputable abbrev qIX : Str := "word"
noncomputable abbrev qVe (P : Params) : FuncData := fdOf (o806 P)
noncomputable abbrev bLrd : List Stmt := qBh (F1 34)
noncomputable abbrev scLrd : Scope := qAM (F1 34)
theorem qMV (w : World) : FnFacts w 806 (qVe w.params) bLrd [qIX] :=
 .of1 (by kernel_rfl) (by kernel_rfl) (by kernel_rfl) fun _ => by kernel_rfl
theorem qOf (P : Params) : (qVe P).scope = scLrd := by kernel_rfl
noncomputable abbrev rdT : Stmt := nthS bLrd 0
noncomputable def cQ : PySem.Expr → Pos
 | .Constant _ _ p => p
 | _ => default
noncomputable def qLq (st : Stmt) : Stmt := .Return (some (.Constant .none (cKn (stE st)) (cQ (stE st)))) (stP st)
theorem qLX : bLrd = [.Try [qDD "get_line_col" qIX (tryB rdT)] [.ExceptHandler (some (.Name "ValueError" (cP (hT (tryH rdT))))) none [qLq (hS (tryH rdT))] (hP (tryH rdT))] [] [] (tryP rdT)] := by kernel_rfl
noncomputable abbrev qOF (x : Str) : LV := [(qIX, .str x)]
theorem qUE (P : Params) (x : Str) : qAi (KK P) scLrd "get_line_col" ⟨qOF x, [], [], []⟩ = some (.lit (.ref 51), ⟨qOF x, [], [], []⟩, []) := by kernel_rfl
theorem qUD (P : Params) (x : Str) : qAi (KK P) scLrd qIX ⟨qOF x, [], [], []⟩ = some (.str x, ⟨qOF x, [], [], []⟩, []) := by kernel_rfl
theorem qO5 (P : Params) : keepIn (KK P) (.ref 51) = true := by kernel_rfl
theorem qUC : scLrd.names.lookup (Str.ofString "ValueError") = some .globalImplicit := by kernel_rfl
def qGE (w : World) (s : Shared) (x : Str) (v : Value) (s' : Shared) : Prop := match qBw (Txt.split x ".") with
 | none => v = .none
 | some (a, b) => ∃ ρ' p, v = .ref p.1 ∧ ρ'[0]? = some p ∧ HR w ρ' [.tup [.int a, .int b]] s'.heap ∧ ∀ q ∈ feet [.tup [.int a, .int b]] ρ', s.heap.get? q = none
theorem qO6 {w : World} {A : Around} {s : Shared} {x : Str} {t : Tok} {Q E : VP} (rm : Room A 6) (k : Kept w s.heap) (hst : Stk A s.heap) (hlow : ∀ a ∈ qAa A, nS ≤ a) (hx : x.length + 2 ≤ sizeLine) (hp : ∀ y ∈ Txt.split x ".", y.length ≤ 640 ∧ (reprText y).length ≤ sizeLine)
  (hQ : ∀ v s', qGE w s x v s' → Kp [] (qAa A) s.heap s'.heap → s'.gens = s.gens ∧ s'.drawn = s.drawn ∧ s'.os = s.os → Q v s') : codeAny (MM w) A (.call (.ref 806) ⟨[.str x t], []⟩) (ends Q E) s := by
 have hkind : scLrd.kind = .function := by kernel_rfl
 have hFF : ∀ a ∈ qAa A, a ∉ feet [] [] := fun a ha h => nomatch h
 refine qBl (d := 4) (ρ := []) (H := []) (args := [.str x]) (qMV w) rm (HR.nil k) (fun a ha => ⟨let ⟨o, e, _⟩ := hst.there a ha; ⟨o, e⟩, nofun⟩) (.cons ⟨t, rfl⟩ .nil) rfl fun s1 E' hL r ok => ?_
 rw [qOf] at ok ⊢
 rw [qLX]
 refine wpAny_execs_cons (wpAny_Try_except ?_)
 refine wpAny_execs_cons ?_
 unfold qDD
 refine wpAny_Return_some (Call_Name rfl (wm (qAD (cx := cxIn w A s [] []) hkind (qUE w.params x) r) (fun fv s3 zz => ?_)))
 obtain ⟨ρ3, p3, v3, r3⟩ := zz
 cases v3
 refine qAx (K := KK w.params) rfl (qO5 w.params) (Calls.spliced_cons (wm (qAD (cx := cxIn w A s [] []) hkind (qUD w.params x) r3) (fun xv s4 zz => ?_)))
 obtain ⟨ρ4, p4, ⟨t4, e4⟩, r4⟩ := zz
 subst e4
 have n4 : ρ4 = [] := r4.hr.nil_rho
 subst n4
 refine Calls.spliced_nil ⟨r4.X, wpAny_call ?_⟩
 refine qPE (ok.room.le (by decide)) r4.hr.kept (qDW hst hFF hkind rfl r4) hx hp (fun a b ρ' p s5 e5 h5 f5 i5 k5 rest5 => ?_) fun v s5 e5 ⟨args, th⟩ => ?_
 ·dsimp only
  refine hQ _ s5 ?_ ?_ ⟨rest5.1.trans r4.rest.1, rest5.2.1.trans r4.rest.2.1, rest5.2.2.trans r4.rest.2.2⟩
  ·unfold qGE
   rw [e5]
   exact ⟨ρ', p, rfl, i5, h5, fun q hq => (r4.kp.fresh (f5 q hq)).elim (nofun) id⟩
  ·refine r4.kp.trans k5 (fun b hb => nomatch hb) (fun b hb => ?_)
   rw [qCi hst rfl] at hb
   rcases lc hb with z | z
   ·exact .inr (.inr (by rw [z]; exact Heap.get?_none_of_le (Nat.le_refl _)))
   ·exact .inl z
 ·refine qTa hst hlow hkind qUC r4 rfl th fun e h6 E' ev r6 => ?_
  refine wpAny_execs_cons ?_
  unfold qLq
  refine wpAny_Return_some (Constant_none ?_)
  refine hQ _ _ ?_ r6.kp r6.rest
  unfold qGE
  rw [e5]
section
noncomputable def cEnv (scope : Scope) (C : Addr) (env : Env) : Env := { scope := scope, locals := C, globals := env.globals, cells := [], qual := env.qual, func := none, code := env.code, frame := env.frame, builtins := env.builtins }
abbrev SameRest (s s' : Shared) : Prop := s'.gens = s.gens ∧ s'.drawn = s.drawn ∧ s'.os = s.os
theorem SameRest.trans {a b c : Shared} (x : SameRest a b) (y : SameRest b c) : SameRest a c := ⟨y.1.trans x.1, y.2.1.trans x.2.1, y.2.2.trans x.2.2⟩
theorem Kp.same {F : List Addr} {a : Addr} {h h' : Heap} (s : Heap.SameBut a h h') : Kp [a] F h h' := (Kp.refl [a] F h).step (Chg.same s) fun b hb => .inl hb
structure CompInv (P : Nat → Value → Heap → Prop) (F : List Addr) (s1 : Shared) (D0 It Acc C : Addr) (vs : List Value) (i : Nat) (ys : List Value) (s : Shared) : Prop where
 le : i ≤ vs.length
 len : ys.length = i
 it : s.heap.IsListIter It D0 i
 acc : IsLst s.heap Acc ys
 src : IsLst s.heap D0 vs
 ns : ∃ m, s.heap.Ns C m
 kp : Kp [] F s1.heap s.heap
 new : s1.heap.get? It = none ∧ s1.heap.get? Acc = none ∧ s1.heap.get? C = none
 ne : It ≠ Acc ∧ It ≠ C ∧ Acc ≠ C ∧ D0 ≠ It ∧ D0 ≠ Acc ∧ D0 ≠ C
 all : ∀ j y, ys[j]? = some y → P j y s.heap ∧ ∀ q, y = .ref q → s1.heap.get? q = none ∧ q ≠ It ∧ q ≠ Acc ∧ q ≠ C
 rest : SameRest s1 s
section
variable {w : World} {A : Around} {env : Env} {E : VP} {s : Shared} {P : Nat → Value → Heap → Prop} {F : List Addr} {s1 : Shared} {D0 It Acc C : Addr} {vs ys : List Value} {i : Nat}
end
end
section
theorem Kp.ext {F : List Addr} {a : Addr} {h h' : Heap} (s : Heap.ExtBut a h h') : Kp [a] F h h' := ⟨fun b o e n => ⟨o.slots, s b o (by simpa using n) e, fun _ => rfl⟩⟩
theorem IsLst.isList {h : Heap} {a : Addr} {vs : List Value} (x : IsLst h a vs) : h.IsList a vs.toArray := x
section
variable {w : World} {A : Around} {env : Env} {E : VP} {s : Shared} {P : Nat → Value → Heap → Prop} {F : List Addr} {vs : List Value}
theorem qNh {elt iter : PySem.Expr} {x : Str} {px : Pos} {scope : Scope} {pos : Pos} {R : RP} {D0 It Acc C : Addr} {s1 s4 : Shared}
  (hkind : scope.kind = .function) (hx : scope.names.lookup x = some .local)
  (hst : ∀ i y X F' h h', Kp X F' h h' → (∀ q, y = .ref q → q ∉ X) → P i y h → P i y h') (hh : A.handled = none) (hsz : vs.length ≤ sizeLine)
  (he : ∀ C i v s3 m E', vs[i]? = some v → s1.heap.get? C = none → s3.heap.Ns C m → m x = some v → Kp [] F s1.heap s3.heap → SameRest s1 s3 →
    wpAny (MM w) A (eval elt (cEnv scope C env)) (fun y s4 => Kp [] F s3.heap s4.heap ∧ SameRest s3 s4 ∧ P i y s4.heap ∧ ∀ q, y = .ref q → s3.heap.get? q = none) E' s3)
  (I0 : CompInv P F s1 D0 It Acc C vs 0 [] s4)
  (hR : ∀ ys s', IsLst s'.heap Acc ys → ys.length = vs.length → (∀ j y, ys[j]? = some y → P j y s'.heap ∧ ∀ q, y = .ref q → s1.heap.get? q = none ∧ q ≠ C) → (∃ m, s'.heap.Ns C m) → Kp [] F s1.heap s'.heap → SameRest s1 s' → R (.ok .next) s') :
  codeAny (MM w) A (.compLoop (.ListComp elt [⟨.Name x px, iter, [], 0⟩] scope pos) 0 (.ref It) (.ref Acc) (cEnv scope C env)) R s4 := by
 refine codeAny_compLoop_list (fun k s' => ∃ i ys, k = vs.length - i ∧ CompInv P F s1 D0 It Acc C vs i ys s') ?_ vs.length ⟨0, [], rfl, I0⟩
 rintro k s' ⟨i, ys, rfl, I⟩
 obtain ⟨n1, n2, n3, n4, n5, n6⟩ := I.ne
 by_cases hi : i < vs.length
 ·refine wpAny_pyNext_list_item I.it I.src.isList (x := vs[i]) (by simp [hi]) fun h1 hit1 hs1 => ?_
  dsimp only
  refine assign_Name ?_
  obtain ⟨m, n⟩ := I.ns
  have k1 : Kp [It] F s'.heap h1 := Kp.same hs1
  have c1 : h1.Ns C m := k1.ns n (by simpa using Ne.symm n2)
  refine wpAny_storeName_local (env := cEnv scope C env) hx c1 (fun h2 c2 hs2 => ?_) (by show (scope.kind == .class || (scope.kind == .module && C != env.globals)) = false; rw [hkind]; rfl)
  have k2 : Kp [C] F h1 h2 := Kp.same hs2
  have kp2 : Kp [] F s1.heap h2 := (I.kp.step (Chg.same hs1) (fun b hb => by rw [ls hb]; exact .inr I.new.1)).step (Chg.same hs2) (fun b hb => by rw [ls hb]; exact .inr I.new.2.2)
  refine wm (he C i vs[i] _ _ _ (by simp [hi]) I.new.2.2 c2 (by simp) kp2 I.rest) (fun y s5 zz => ?_)
  obtain ⟨k5, r5, p5, f5⟩ := zz
  have it5 : s5.heap.IsListIter It D0 (i + 1) := by
   obtain ⟨o, e, c, d⟩ := hit1
   obtain ⟨sl, e2, _⟩ := k5.keep It o (hs2.extBut It o n2 e) (nofun)
   exact ⟨_, e2, c, d⟩
  have acc2 : IsLst h2 Acc ys := (I.acc.kp k1 (by simpa using Ne.symm n1)).kp k2 (by simpa using n3)
  have acc5 : IsLst s5.heap Acc ys := acc2.kp k5 (nofun)
  have src5 : IsLst s5.heap D0 vs := ((I.src.kp k1 (by simpa using n4)).kp k2 (by simpa using n6)).kp k5 (nofun)
  have ns5 := k5.ns c2 (nofun)
  refine wpAny_list_append (items := ys.toArray) acc5.isList (fun h6 hl6 hs6 => ?_) (by rw [List.size_toArray, I.len]; omega)
  have k6 : Kp [Acc] F s5.heap h6 := Kp.same hs6
  refine ⟨vs.length - (i + 1), by omega, i + 1, ys ++ [y], rfl, ⟨hi, by simp [I.len], ?_, ?_, src5.kp k6 (by simpa using n5), ⟨_, k6.ns ns5 (by simpa using Ne.symm n3)⟩, ?_, I.new, I.ne, ?_, (I.rest.trans r5)⟩⟩
  ·exact it5.extBut hs6.extBut n1
  ·have : (ys ++ [y]).toArray = ys.toArray.push y := by simp
   unfold IsLst
   rw [this]
   exact hl6
  ·exact (kp2.trans k5 (fun b hb => nomatch hb) fun b hb => .inl hb).step (Chg.same hs6) (fun b hb => by rw [ls hb]; exact .inr I.new.2.1)
  ·have key : ∀ j z, P j z s5.heap → (∀ q, z = .ref q → q ≠ Acc) → P j z h6 := fun j z hp hq => hst j z [Acc] F _ _ k6 (fun q e => by simpa using hq q e) hp
   intro j z ez
   rcases Nat.lt_trichotomy j ys.length with h | h | h
   ·rw [List.getElem?_append_left h] at ez
    obtain ⟨p0, q0⟩ := I.all j z ez
    have p1 := hst j z [It] F _ _ k1 (fun q e => by simpa using (q0 q e).2.1) p0
    have p2 := hst j z [C] F _ _ k2 (fun q e => by simpa using (q0 q e).2.2.2) p1
    have p3 := hst j z [] F _ _ k5 (fun q e h => nomatch h) p2
    exact ⟨key j z p3 fun q e => (q0 q e).2.2.1, q0⟩
   ·subst h
    simp at ez
    subst ez
    have fr : ∀ q, y = .ref q → s1.heap.get? q = none ∧ q ≠ It ∧ q ≠ Acc ∧ q ≠ C := fun q e => by
     have h2n : h2.get? q = none := f5 q e
     refine ⟨(kp2.fresh h2n).elim (nofun) id, ?_, ?_, ?_⟩
     ·rintro rfl
      obtain ⟨o, e1, _⟩ := hit1
      rw [hs2.extBut _ o n2 e1] at h2n; cases h2n
     ·rintro rfl
      obtain ⟨o, e1, _⟩ := acc2
      rw [e1] at h2n; cases h2n
     ·rintro rfl
      obtain ⟨o, es, ep, e1, _⟩ := c2
      rw [show h2.get? q = some o from e1] at h2n; cases h2n
    refine ⟨key _ _ ?_ fun q e => (fr q e).2.2.1, fr⟩
    rw [I.len]; exact p5
   ·have : (ys ++ [y])[j]? = none := List.getElem?_eq_none (by rw [List.length_append, List.length_singleton]; omega)
    rw [this] at ez; cases ez
 ·have hil : i = vs.length := by have := I.le; omega
  refine wpAny_pyNext_list_end hh I.it I.src.isList (by simp [hil]) fun h1 he1 => ?_
  have k1 : Kp [It] F s'.heap h1 := Kp.ext he1
  obtain ⟨m, n⟩ := I.ns
  refine hR ys _ (I.acc.kp k1 (by simpa using Ne.symm n1)) (I.len.trans hil) (fun j y ey => ?_) ⟨m, k1.ns n (by simpa using Ne.symm n2)⟩ ?_ I.rest
  ·obtain ⟨p0, q0⟩ := I.all j y ey
   exact ⟨hst j y [It] F _ _ k1 (fun q e => by simpa using (q0 q e).2.1) p0, fun q e => ⟨(q0 q e).1, (q0 q e).2.2.2⟩⟩
  ·exact I.kp.step (Y := [It]) ⟨fun b o e n => he1 b o (by simpa using n) e⟩ (fun b hb => by rw [ls hb]; exact .inr I.new.1)
theorem qDK {elt iter : PySem.Expr} {x : Str} {px : Pos} {scope : Scope} {pos : Pos} {Q : VP}
  (hfree : ∀ x ∈ scope.names, x.2 ≠ .free) (hcell : ∀ x ∈ scope.names, x.2 ≠ .cell) (hkind : scope.kind = .function) (hnames : ∀ x ∈ scope.names, x.2 = .local → scope.names.lookup x.1 = some .local)
  (hx : scope.names.lookup x = some .local) (hs : ∀ v, foldedSetIterable iter env v = pure v)
  (hst : ∀ i y X F' h h', Kp X F' h h' → (∀ q, y = .ref q → q ∉ X) → P i y h → P i y h') (hh : A.handled = none) (hsz : vs.length ≤ sizeLine)
  (h : wpAny (MM w) A (eval iter env) (fun v s1 => ∃ D0, v = .ref D0 ∧ IsLst s1.heap D0 vs ∧
   (∀ C i v s3 m E', vs[i]? = some v → s1.heap.get? C = none → s3.heap.Ns C m → m x = some v → Kp [] F s1.heap s3.heap → SameRest s1 s3 →
    wpAny (MM w) A (eval elt (cEnv scope C env)) (fun y s4 => Kp [] F s3.heap s4.heap ∧ SameRest s3 s4 ∧ P i y s4.heap ∧ ∀ q, y = .ref q → s3.heap.get? q = none) E' s3) ∧
   (∀ Acc ys s', IsLst s'.heap Acc ys → ys.length = vs.length → (∀ i y, ys[i]? = some y → P i y s'.heap ∧ ∀ q, y = .ref q → s1.heap.get? q = none) → s1.heap.get? Acc = none → Kp [] F s1.heap s'.heap → SameRest s1 s' → Q (.ref Acc) s')) E s) :
  wpAny (MM w) A (eval (.ListComp elt [⟨.Name x px, iter, [], 0⟩] scope pos) env) Q E s := by
 refine wpAny_ListComp hfree hkind hnames (wpAny_mono h (fun v s1 zz => ?_) fun _ _ x => x) hs
 obtain ⟨D0, e, hl, he, hf⟩ := zz
 subst e
 have hD : D0 < s1.heap.objs.size := by obtain ⟨o, e, _⟩ := hl; exact Heap.lt_size e
 refine wpAny_pyIter_list (items := vs.toArray) hl ?_
 refine wpAny_newObj_type ?_ (by show (0 : Nat) ≤ sizeLine; omega)
 refine wpAny_newFunctionEnv hcell (fun _ h => nomatch h) (fun h' hn hsame => ?_) hkind
 generalize hhA : s1.heap.push { cls := .type "list_iterator", data := .fields #[.ref D0, .int 0 0] } = hA at *
 have z1 : hA.objs.size = s1.heap.objs.size + 1 := by rw [← hhA]; exact Heap.size_push ..
 have gI : hA.get? s1.heap.objs.size = some { cls := .type "list_iterator", data := .fields #[.ref D0, .int 0 0] } := by rw [← hhA]; exact Heap.get?_push_size _ rfl
 have kA : ∀ b o, s1.heap.get? b = some o → hA.get? b = some o := fun b o e => by rw [← hhA]; exact Heap.get?_push_of_some _ e
 generalize hhB : hA.push { cls := .type "list", data := .seq ([] : List Value).toArray } = hB at *
 have z2 : hB.objs.size = s1.heap.objs.size + 2 := by rw [← hhB, Heap.size_push, z1]
 have gB : hB.get? hA.objs.size = some { cls := .type "list", data := .seq ([] : List Value).toArray } := by rw [← hhB]; exact Heap.get?_push_size _ rfl
 have kB : ∀ b o, hA.get? b = some o → hB.get? b = some o := fun b o e => by rw [← hhB]; exact Heap.get?_push_of_some _ e
 replace hsame : Heap.SameBut hB.objs.size (hB.push { cls := .type "dict", data := .dict #[] }) h' := hsame
 have kC : ∀ b o, hB.get? b = some o → h'.get? b = some o := fun b o e => hsame.extBut b o (Nat.ne_of_lt (Heap.lt_size e)) (Heap.get?_push_of_some _ e)
 have I0 : CompInv P F s1 D0 s1.heap.objs.size hA.objs.size hB.objs.size vs 0 [] ⟨h', s1.gens, s1.drawn, s1.toks + ([] : List (Str × Value)).length, s1.os⟩ := by
  obtain ⟨o, e, cl⟩ := hl
  refine ⟨Nat.zero_le _, rfl, ⟨_, kC _ _ (kB _ _ gI), rfl, rfl⟩, ⟨_, kC _ _ gB, rfl, _, rfl⟩, ⟨o, kC _ _ (kB _ _ (kA _ _ e)), cl⟩, ⟨_, hn⟩, ?_, ⟨Heap.get?_none_of_le (Nat.le_refl _), Heap.get?_none_of_le (by omega), Heap.get?_none_of_le (by omega)⟩, ⟨Nat.ne_of_lt (by omega), Nat.ne_of_lt (by omega), Nat.ne_of_lt (by omega), Nat.ne_of_lt hD, Nat.ne_of_lt (Nat.lt_of_lt_of_le hD (by omega)), Nat.ne_of_lt (Nat.lt_of_lt_of_le hD (by omega))⟩, (fun j y e => nomatch e), ⟨rfl, rfl, rfl⟩⟩
  exact (Kp.refl [] F s1.heap).step (Y := []) ⟨fun b o e _ => kC _ _ (kB _ _ (kA _ _ e))⟩ (fun b hb => nomatch hb)
 have loop := qNh (A := A) (elt := elt) (iter := iter) (px := px) (pos := pos) (scope := scope) (env := env) (w := w)
  (R := fun r s' => ∃ m, s'.heap.Ns hB.objs.size m ∧ ∀ h', Heap.SameBut hB.objs.size s'.heap h' → match r with | .ok _ => Q (.ref hA.objs.size) { s' with heap := h' } | .error x => wpAny (MM w) A (passOn "comprehension.variables-let-go" x (cEnv scope hB.objs.size env)) Q E { s' with heap := h' })
  hkind hx hst hh hsz he I0 fun ys s' h1 h2 h3 ⟨m, h4⟩ h5 h6 => ⟨m, h4, fun h7 s7 => by
   have k7 : Kp [hB.objs.size] F s'.heap h7 := Kp.same s7
   refine hf hA.objs.size ys _ (h1.kp k7 fun h => Nat.ne_of_lt (show hA.objs.size < hB.objs.size by omega) (ls h)) h2 (fun j y e => ⟨hst j y _ _ _ _ k7 (fun q hq => by simpa using ((h3 j y e).2 q hq).2) (h3 j y e).1, fun q hq => ((h3 j y e).2 q hq).1⟩) (Heap.get?_none_of_le (by omega)) ?_ h6
   exact h5.step (Chg.same s7) (fun b hb => by rw [ls hb]; exact .inr (Heap.get?_none_of_le (by omega)))⟩
 exact codeAny_compStart_list loop (wpAny_pyIter_listiter I0.it loop)
end
end
section
section
variable {w : World} {A A1 : Around} {s s1 s2 : Shared} {loc : LV} {sc : Scope} {q : Str} {a : Addr} {cd : Value} {args : List Value} {v : Value}
theorem Kp.one {F : List Addr} {a : Addr} {h0 h h' : Heap} (k : Kp [] F h0 h) (s : Heap.SameBut a h h') (n : h0.get? a = none) : Kp [] F h0 h' :=
 k.step (Chg.same s) fun b hb => by rw [ls hb]; exact .inr n
theorem qNk {np pos : Pos} {n : Str} {b0 : Stmt} {suite : List Stmt} {hs : List ExceptHandler} {Q : FP} {E : VP} (st : Stk A s.heap) (hlow : ∀ a ∈ qAa A, nS ≤ a) (hk : sc.kind = .function) (hl : sc.names.lookup (Str.ofString "ValueError") = some .globalImplicit) (hln : sc.names.lookup n = some .local)
  (r : Rel (cxIn w A s [] []) [] ⟨loc, [], [], []⟩ s1) (hA : A1.frames = (A.deeper (envOf q sc s.heap.objs.size a cd)).frames) (x : Thrown A1 s1 [] "ValueError" args v s2)
  (h : ∀ e t h7 k7 m E', v = .ref e → h7.Ns s.heap.objs.size m → m n = some (.ref e) → (KK w.params).In h7 → Kp [] (qAa A) s.heap h7 → h7.ExcAt e "ValueError" (.ref t) → h7.TupAt t args →
   wpAny (MM w) ((A.deeper (envOf q sc s.heap.objs.size a cd)).mark (some (.ref e))) (execs (b0 :: suite) (envOf q sc s.heap.objs.size a cd)) (fun f s4 => (∃ m, s4.heap.Ns s.heap.objs.size m) ∧ ∀ h' k, Heap.SameBut s.heap.objs.size s4.heap h' → Q f { s4 with heap := h', toks := k }) E' { s2 with heap := h7, toks := k7 }) :
  wpAny (MM w) (A.deeper (envOf q sc s.heap.objs.size a cd)) (noteFrame v (envOf q sc s.heap.objs.size a cd)) (fun _ s3 => wpAny (MM w) (A.deeper (envOf q sc s.heap.objs.size a cd)) (setFlight v none) (fun _ s4 =>
   wpAny (MM w) (A.deeper (envOf q sc s.heap.objs.size a cd)) (handleBy v (envOf q sc s.heap.objs.size a cd) (.ExceptHandler (some (.Name "ValueError" np)) (some n) (b0 :: suite) pos :: hs)) Q E s4) E s3) E s2 := by
 have hFF : ∀ a ∈ qAa A, a ∉ feet [] [] := fun a ha h => nomatch h
 have hp : ((envOf q sc s.heap.objs.size a cd).scope.kind == .class || ((envOf q sc s.heap.objs.size a cd).scope.kind == .module && (envOf q sc s.heap.objs.size a cd).locals != (envOf q sc s.heap.objs.size a cd).globals)) = false := by
  show (sc.kind == .class || (sc.kind == .module && s.heap.objs.size != mainGlobals)) = false
  rw [hk]; rfl
 obtain ⟨⟨e, t, l1, rfl, e3, fly, tup, ht⟩, kp, rest⟩ := x
 obtain ⟨l, e1, e2, _, _⟩ := qB6 (env := envOf q sc s.heap.objs.size a cd) st hFF hk rfl r
 rw [hA, e2] at e3
 cases e3
 refine wpAny_looks_onW e2 rfl fly fun h4 held4 sm4 => ?_
 refine wpAny_landsW held4 fun h5 fly5 sm5 => ?_
 obtain ⟨ob, hob, hobc⟩ := fly5.there
 have r5 := qCO st hlow hk r hA kp rest fly5.1 (sm4.trans sm5)
 refine wpAny_handleBy_builtin_as (X := "ValueError") (T := "ValueError") (b := true) qTi qTh qTg (qBH (cx := cxIn w A s [] []) hk rfl hl (ve_g w.params) (ve_b w.params) r5.X ⟨rfl, ⟨ob, hob, hobc⟩, ?_⟩)
 refine lands_againW fly5 fun h6 fly6 sm6 => ?_
 have r6 := qCO st hlow hk r hA kp rest fly6.1 ((sm4.trans sm5).trans sm6)
 obtain ⟨m, hn, _⟩ := r6.ns
 replace hn : h6.Ns s.heap.objs.size m := hn
 refine wpAny_storeName_local (env := envOf q sc s.heap.objs.size a cd) hln hn (fun h7 hn7 hs7 => ?_) hp
 obtain ⟨oL, es, ep, gL, dL, _⟩ := id hn
 obtain ⟨oe, vs, ge, ce, de, d0⟩ := fly6.first
 obtain ⟨ot, nt, gt, ct, dt⟩ := ((tup.of_slots sm4).of_slots sm5).of_slots sm6
 have neL : e ≠ s.heap.objs.size := fun q => by subst q; rw [gL] at ge; cases ge; rw [dL] at de; cases de
 have ntL : t ≠ s.heap.objs.size := fun q => by subst q; rw [gL] at gt; cases gt; rw [dL] at dt; cases dt
 have kp7 : Kp [] (qAa A) s.heap h7 := Kp.one r6.kp hs7 (Heap.get?_none_of_le (Nat.le_refl _))
 have kk7 : (KK w.params).In h7 := (r6.hr.kept.chg (Chg.same hs7) (fun b hb => by rw [ls hb]; exact r6.lo.1)).kk
 refine wm (h e t h7 _ _ _ rfl hn7 (by simp) kk7 kp7 ⟨oe, vs, hs7.extBut e _ neL ge, ce, de, d0⟩ ⟨ot, nt, hs7.extBut t _ ntL gt, ct, dt⟩) (fun f s4 zz => ?_)
 obtain ⟨⟨m4, n4⟩, h4⟩ := zz
 exact wpAny_nameGoes (env := envOf q sc s.heap.objs.size a cd) hln n4 hp fun h' m' _ hs' => h4 h' _ hs'
end
end
noncomputable def qQH : Scope := qAM (F1 34)
noncomputable def lcE : PySem.Expr → PySem.Expr
 | .ListComp e _ _ _ => e
 | _ => .Name "" default
noncomputable def lcT : PySem.Expr → PySem.Expr
 | .ListComp _ (g :: _) _ _ => g.target
 | _ => .Name "" default
noncomputable def lcI : PySem.Expr → PySem.Expr
 | .ListComp _ (g :: _) _ _ => g.iter
 | _ => .Name "" default
noncomputable def lcS : PySem.Expr → Scope
 | .ListComp _ _ s _ => s
 | _ => qQH
noncomputable def lcP : PySem.Expr → Pos
 | .ListComp _ _ _ p => p
 | .List _ p => p
 | _ => default
noncomputable abbrev qBp (P : Params) : FuncData := fdOf (o811 P)
noncomputable abbrev bTld : List Stmt := qBh (F1 35)
noncomputable abbrev scTld : Scope := qAM (F1 35)
theorem qOc (P : Params) : (qBp P).scope = scTld := by kernel_rfl
noncomputable abbrev qHM : Str := "text"
noncomputable abbrev qKc : Str := "words"
noncomputable abbrev qKd : Str := "error"
theorem qMR (w : World) : FnFacts w 811 (qBp w.params) bTld [qHM] :=
 .of1 (by kernel_rfl) (by kernel_rfl) (by kernel_rfl) fun _ => by kernel_rfl
noncomputable abbrev tlT : Stmt := nthS bTld 0
noncomputable abbrev tlR : Stmt := nthS bTld 1
noncomputable abbrev tlC : PySem.Expr := cA 0 (stE tlR)
noncomputable abbrev tlH : Stmt := hS (tryH tlT)
noncomputable def qDL (y f x : Str) (st : Stmt) : Stmt := .Assign [.Name y (cP (stT st))] (.Call (.Name f (cP (cF (stE st)))) [.Name x (cP (cA 0 (stE st)))] [] (cP (stE st))) (stP st)
noncomputable def qB5 (f x : Str) (e : PySem.Expr) : PySem.Expr := .Call (.Name f (cP (cF e))) [.Name x (cP (cA 0 e))] [] (cP e)
noncomputable def lcOf (f x : Str) (e : PySem.Expr) (ws : Str) : PySem.Expr := .ListComp (qB5 f x (lcE e)) [⟨.Name x (cP (lcT e)), .Name ws (cP (lcI e)), [], 0⟩] (lcS e) (lcP e)
theorem qKt : bTld = [.Try [qDL qKc "split" qHM (tryB tlT)] [.ExceptHandler (some (.Name "ValueError" (cP (hT (tryH tlT))))) (some qKd) [.Return (some (.Tuple [.List [] (lcP (cA 0 (stE tlH))), qB5 "str" qKd (cA 1 (stE tlH))] (cKn (stE tlH)) (cP (stE tlH)))) (stP tlH)] (hP (tryH tlT))] [] [] (tryP tlT),
 .Return (some (.Tuple [lcOf "_law_read" qIX tlC qKc, .Constant (.str "") (cKn (cA 1 (stE tlR))) (cQ (cA 1 (stE tlR)))] (cKn (stE tlR)) (cP (stE tlR)))) (stP tlR)] := by kernel_rfl
noncomputable abbrev qNO (x : Str) : LV := [(qHM, .str x)]
theorem qTn (P : Params) (x : Str) : qAi (KK P) scTld "split" ⟨qNO x, [], [], []⟩ = some (.lit (.ref 751), ⟨qNO x, [], [], []⟩, []) := by kernel_rfl
theorem qTm (P : Params) (x : Str) : qAi (KK P) scTld qHM ⟨qNO x, [], [], []⟩ = some (.str x, ⟨qNO x, [], [], []⟩, []) := by kernel_rfl
theorem qNN (P : Params) : keepIn (KK P) (.ref 751) = true := by kernel_rfl
theorem qKu (P : Params) : keepIn (KK P) (.ref 806) = true := by kernel_rfl
theorem qTl : scTld.names.lookup (Str.ofString "ValueError") = some .globalImplicit := by kernel_rfl
theorem qRe : scTld.names.lookup (Str.ofString "str") = some .globalImplicit := by kernel_rfl
theorem qKv : scTld.names.lookup qKd = some .local := by kernel_rfl
theorem qFM : scTld.names.lookup qKc = some .local := by kernel_rfl
theorem qVK (P : Params) : nsIn (KK P) mainGlobals (Str.ofString "str") = some none := by kernel_rfl
theorem qVL (P : Params) : nsIn (KK P) builtinsNs (Str.ofString "str") = some (some (.type "str")) := by kernel_rfl
noncomputable abbrev scC : Scope := lcS tlC
theorem qE7 : scC.kind = .function := by kernel_rfl
theorem qOp : ∀ x ∈ scC.names, x.2 ≠ .free := by decide +kernel
theorem qOq : ∀ x ∈ scC.names, x.2 ≠ .cell := by decide +kernel
theorem qK5 : ∀ x ∈ scC.names, x.2 = .local → scC.names.lookup x.1 = some .local := by decide +kernel
theorem qIa : scC.names.lookup qIX = some .local := by kernel_rfl
theorem qOo : scC.names.lookup (Str.ofString "_law_read") = some .globalImplicit := by kernel_rfl
theorem qUo (P : Params) : nsIn (KK P) mainGlobals (Str.ofString "_law_read") = some (some (.ref 806)) := by kernel_rfl
section
section
variable {w : World} {A A1 : Around} {s s1 s2 : Shared} {loc : LV} {sc : Scope} {q : Str} {a : Addr} {cd : Value} {E : VP}
theorem qCG {P : Params} {M : Model} {env : Env} {x : Str} {v : Value} {pos : Pos} {Q : VP} (hk : env.scope.kind = .function) (hl : env.kindOf x = some .globalImplicit) (hg : env.globals = mainGlobals) (g : nsIn (KK P) mainGlobals x = some (some v)) (X : (KK P).In s.heap) (h : Q v s) (hd : (x == ("__debug__" : Str)) = false := by rfl) :
  wpAny M A (eval (.Name x pos) env) Q E s := by
 refine wpAny_Name ?_ hd
 have e : loadName env x = loadGlobal env x := by
  unfold loadName
  simp only [Env.blockKind, hk, hl, ScopeKind.isAnnotationScope, Bool.false_and, Bool.false_eq_true, if_false]
 rw [e]
 unfold loadGlobal
 rw [hg]
 exact wpAny_bind ((looks_nsIn X g).here (wpAny_pure h))
theorem qUm (hst : Stk A s.heap) (hlow : ∀ a ∈ qAa A, nS ≤ a) (r : Rel (cxIn w A s [] []) [] ⟨loc, [], [], []⟩ s1) (hA : A1.frames = (A.deeper (envOf q sc s.heap.objs.size a cd)).frames) (k6 : Kp [] (qAa A1) s1.heap s2.heap) (rest : SameRest s1 s2) : Rel (cxIn w A s [] []) [] ⟨loc, [], [], []⟩ s2 := by
 have fA := qCi hst hA
 obtain ⟨m, n, hm⟩ := r.ns
 refine ⟨HR.nil (Kp.kept k6 r.hr.kept (fun a ha => nomatch ha) fun b hb => ?_), ⟨m, k6.ns n (nofun), hm⟩, (fun b hb => nomatch hb), r.lo, r.kp.trans k6 (fun b hb => nomatch hb) (fun b hb => ?_), SameRest.trans r.rest rest⟩
 ·rw [fA] at hb
  rcases lc hb with z | z
  ·rw [z]; exact r.lo.1
  ·exact hlow b z
 ·rw [fA] at hb
  rcases lc hb with z | z
  ·exact .inr (by rw [z]; exact r.lo.2)
  ·exact .inl z
theorem qEE {x : Str} {v : Value} (h : qGE w s x v s1) : qAV s1.heap (qBw (Txt.split x ".")) v ∧ ∀ q, v = .ref q → s.heap.get? q = none := by
 unfold qGE at h
 split at h
 ·rename_i e
  rw [e]
  subst h
  exact ⟨rfl, fun q hq => by cases hq⟩
 ·rename_i a b e
  obtain ⟨ρ', p, rfl, hp, hr, hf⟩ := h
  rw [e]
  obtain ⟨us, n, e1, e2⟩ := hr.obj _ _ _ rfl hp
  cases e2 with
  | cons a1 e2 => cases e2 with
   | cons a2 e2 =>
    cases e2
    obtain ⟨t, rfl⟩ := a1
    obtain ⟨u, rfl⟩ := a2
    exact ⟨⟨p.1, t, u, rfl, ⟨_, e1, rfl, n, rfl⟩⟩, fun q hq => by cases hq; exact hf _ (qAo (o := .tup [.int a, .int b]) rfl hp p.1 (by simp [foot]))⟩
theorem qDF {x : OI} {y : Value} {X F : List Addr} {h h' : Heap} (k : Kp X F h h') (hq : ∀ q, y = .ref q → q ∉ X) (p : qAV h x y) : qAV h' x y := by
 cases x with
 | none => exact p
 | some ab =>
  obtain ⟨q, t, u, rfl, ht⟩ := p
  exact ⟨q, t, u, rfl, Mine.IsTup.kp k (hq q rfl) ht⟩
theorem qKF : ∀ {vs : List Value} {xs : List Str}, StrsAre vs xs → ∀ {i : Nat} {v : Value}, vs[i]? = some v → ∃ x t, xs[i]? = some x ∧ v = .str x t
 | _, _, .nil, i, v, h => by simp at h
 | _, _, .cons x t h', 0, v, h => by simp at h; exact ⟨x, t, rfl, h.symm⟩
 | _, _, .cons x t h', i + 1, v, h => by
  simp at h
  obtain ⟨x', t', h1, h2⟩ := qKF h' h
  exact ⟨x', t', by simpa using h1, h2⟩
theorem qE0 : ∀ {vs : List Value} {xs : List Str}, StrsAre vs xs → vs.length = xs.length
 | _, _, .nil => rfl
 | _, _, .cons x t h' => by simp [qE0 h']
end
end
noncomputable def qBD (wd : List Nat) : OI := qBw (Txt.split (strL wd) ".")
noncomputable def qEq (x : Str) : List OI × Option Bool := match (qBx x).2 with
 | some b => ([], some b)
 | none => ((qBx x).1.map qBD, none)
theorem qMO (b : Bool) : qBy (some b) = qDv b := by cases b <;> rfl
theorem All2.of_get {α β : Type} {R : α → β → Prop} : ∀ {l : List α} {m : List β}, l.length = m.length → (∀ (i : Nat) (a : α) (b : β), l[i]? = some a → m[i]? = some b → R a b) → All2 R l m
 | [], [], _, _ => .nil
 | a :: l, b :: m, h, g => .cons (g 0 a b rfl rfl) (All2.of_get (by simpa using h) fun i x y hx hy => g (i + 1) x y (by simpa using hx) (by simpa using hy))
 | [], _ :: _, h, _ => by simp at h
 | _ :: _, [], h, _ => by simp at h
theorem qFK {w : World} {A : Around} {s : Shared} {x : Str} {t : Tok} {Q E : VP} (rm : Room A 18) (k : Kept w s.heap) (hst : Stk A s.heap) (hlow : ∀ a ∈ qAa A, nS ≤ a)
  (hx : ∀ c ∈ x.cps.toList, c ∈ qAn) (hl : x.cps.toList.length ≤ 100000) (hw : ∀ wd ∈ (qBx x).1, (strL wd).length + 2 ≤ sizeLine ∧ ∀ y ∈ Txt.split (strL wd) ".", y.length ≤ 640 ∧ (reprText y).length ≤ sizeLine) (hn : (qBx x).1.length ≤ sizeLine)
  (hQ : ∀ b l vs u s', Told s.heap s'.heap b l vs u (qEq x) → Kp [] (qAa A) s.heap s'.heap → SameRest s s' → Q (.ref b) s') : codeAny (MM w) A (.call (.ref 811) ⟨[.str x t], []⟩) (ends Q E) s := by
 have hkind : scTld.kind = .function := by kernel_rfl
 have hFF : ∀ a ∈ qAa A, a ∉ feet [] [] := fun a ha h => nomatch h
 refine qBl (d := 16) (ρ := []) (H := []) (args := [.str x]) (qMR w) rm (HR.nil k) (fun a ha => ⟨let ⟨o, e, _⟩ := hst.there a ha; ⟨o, e⟩, nofun⟩) (.cons ⟨t, rfl⟩ .nil) rfl fun s1 E' hL r ok => ?_
 rw [qOc] at ok ⊢
 rw [qKt]
 have hp : ((envOf (qBp w.params).qualname scTld s.heap.objs.size 811 (qBp w.params).code).scope.kind == .class || ((envOf (qBp w.params).qualname scTld s.heap.objs.size 811 (qBp w.params).code).scope.kind == .module && (envOf (qBp w.params).qualname scTld s.heap.objs.size 811 (qBp w.params).code).locals != (envOf (qBp w.params).qualname scTld s.heap.objs.size 811 (qBp w.params).code).globals)) = false := by kernel_rfl
 have hLn : s.heap.get? s.heap.objs.size = none := Heap.get?_none_of_le (Nat.le_refl _)
 refine wpAny_execs_cons (wpAny_Try_except ?_)
 refine wpAny_execs_cons ?_
 unfold qDL
 refine wpAny_Assign_Name (Call_Name rfl (wm (qAD (cx := cxIn w A s [] []) hkind (qTn w.params x) r) (fun fv s3 zz => ?_))) (qBj rfl)
 obtain ⟨ρ3, p3, v3, r3⟩ := zz
 cases v3
 refine qAx (K := KK w.params) rfl (qNN w.params) (Calls.spliced_cons (wm (qAD (cx := cxIn w A s [] []) hkind (qTm w.params x) r3) (fun xv s4 zz => ?_)))
 obtain ⟨ρ4, p4, ⟨t4, e4⟩, r4⟩ := zz
 subst e4
 have n4 : ρ4 = [] := r4.hr.nil_rho
 subst n4
 refine Calls.spliced_nil ⟨r4.X, wpAny_call ?_⟩
 refine qI9 (ok.room.le (by decide)) r4.hr.kept (qDW hst hFF hkind rfl r4) hx hl (fun S vals c s5 h1 h2 h3 h4 h5 h6 h7 => ?_) fun b v s5 h1 ⟨t1, th⟩ => ?_
 ·have r5 := qUm (q := (qBp w.params).qualname) (sc := scTld) (a := 811) (cd := (qBp w.params).code) hst hlow r4 rfl h6 h7
  obtain ⟨m5, ns5, hm5⟩ := r5.ns
  replace ns5 : s5.heap.Ns s.heap.objs.size m5 := ns5
  refine wpAny_storeName_local (env := envOf (qBp w.params).qualname scTld s.heap.objs.size 811 (qBp w.params).code) qFM ns5 (fun h' ns6 hs6 => ?_) hp
  refine wpAny_execs_nil ?_
  dsimp only
  refine wpAny_execs_nil ?_
  have fA : qAa (A.deeper (envOf (qBp w.params).qualname scTld s.heap.objs.size 811 (qBp w.params).code)) = s.heap.objs.size :: qAa A := qCi hst rfl
  have kp6 : Kp [] (qAa A) s.heap h' := Kp.one r5.kp hs6 hLn
  have low6 : ∀ a ∈ qAa (A.deeper (envOf (qBp w.params).qualname scTld s.heap.objs.size 811 (qBp w.params).code)), nS ≤ a := fun b hb => by
   rw [fA] at hb
   rcases lc hb with z | z
   ·rw [z]; exact r5.lo.1
   ·exact hlow b z
  have kept6 : Kept w h' := r5.hr.kept.chg (Chg.same hs6) (fun b hb => by rw [ls hb]; exact r5.lo.1)
  have lst6 : IsLst h' S vals := by
   obtain ⟨m4, ns4, _⟩ := r4.ns
   obtain ⟨oL, es, ep, gL, _⟩ := ns4
   exact ⟨_, hs6.extBut S _ (fun q => by
    rw [q] at h5
    exact nomatch (show some oL = none from (show s4.heap.get? s.heap.objs.size = some oL from gL).symm.trans h5)) h3, rfl, _, rfl⟩
  refine wpAny_execs_cons (wpAny_Return_some (wpAny_Tuple (Calls.spliced_cons ?_)))
  unfold lcOf
  refine qDK (P := fun i y h => qAV h (qBD ((qBx x).1.getD i [])) y) (F := qAa (A.deeper (envOf (qBp w.params).qualname scTld s.heap.objs.size 811 (qBp w.params).code))) (vs := vals) qOp qOq qE7 qK5 qIa (fun _ => rfl) (fun i y X F' h h' kk hq p => qDF kk hq p) ok.room.2 (by rw [qE0 h1]; simpa using hn) ?_
  refine wpAny_Name (wpAny_loadName_local hkind qFM ns6 (v := .ref S) (if_pos rfl) ?_)
  refine ⟨S, rfl, lst6, fun C i v s8 m E' hv hC nC hmx k8 r8 => ?_, fun Acc ys s9 hA hlen hall hnew k9 r9 => ?_⟩
  ·obtain ⟨wd, t8, hw8, rfl⟩ := qKF h1 hv
   rw [List.getElem?_map] at hw8
   obtain ⟨w0, e0, rfl⟩ := Option.map_eq_some_iff.mp hw8
   have kept8 : Kept w s8.heap := Kp.kept k8 kept6 (fun a ha => nomatch ha) low6
   have stk8 : Stk (A.deeper (envOf (qBp w.params).qualname scTld s.heap.objs.size 811 (qBp w.params).code)) s8.heap := by
    have kp8 : Kp [] (qAa A) s.heap s8.heap := kp6.trans k8 (fun b hb => nomatch hb) (fun b hb => by
     rw [fA] at hb
     rcases lc hb with z | z
     ·exact .inr (.inr (by rw [z]; exact hLn))
     ·exact .inl z)
    exact (hst.kp kp8 (fun a ha h => nomatch h)).deeper hkind rfl (k8.ns ns6 (nofun))
   have hwd := hw w0 (List.mem_of_getElem? e0)
   have eg : (qBx x).1.getD i [] = w0 := by rw [List.getD_eq_getElem?_getD, e0]; rfl
   unfold qB5
   refine Call_Name rfl (qCG (P := w.params) qE7 qOo rfl (qUo w.params) kept8.kk ?_)
   refine qAx (K := KK w.params) rfl (qKu w.params) (Calls.spliced_cons (wpAny_Name (wpAny_loadName_local qE7 qIa nC hmx ?_)))
   refine Calls.spliced_nil ⟨kept8.kk, wpAny_call ?_⟩
   refine qO6 (ok.room.le (by decide)) kept8 stk8 low6 hwd.1 hwd.2 fun v s' hv k' rest' => ⟨k', rest', ?_, (qEE hv).2⟩
   rw [eg]
   exact (qEE hv).1
  ·have kp9 : Kp [] (qAa A) s.heap s9.heap := kp6.trans k9 (fun b hb => nomatch hb) (fun b hb => by
     rw [fA] at hb
     rcases lc hb with z | z
     ·exact .inr (.inr (by rw [z]; exact hLn))
     ·exact .inl z)
   refine Calls.spliced_cons ?_
   refine Calls.Constant_str (k := cKn (cA 1 (stE tlR))) (pos := cQ (cA 1 (stE tlR))) ?_
   refine Calls.spliced_nil ⟨by rw [sizeLine_eq]; exact Nat.le_of_ble_eq_true rfl, ?_⟩
   dsimp only
   have et : qEq x = ((qBx x).1.map qBD, none) := by unfold qEq; rw [h2]
   refine hQ _ Acc ys s9.toks _ ?_ (kp9.step (Chg.push [] _ _) (fun b hb => nomatch hb)) (SameRest.trans (SameRest.trans r4.rest h7) r9)
   rw [et]
   refine ⟨⟨_, Heap.get?_push_size _ rfl, rfl, _, rfl⟩, hA.kp (Kp.refl [] [] _ |>.step (Chg.push [] _ _) (fun b hb => nomatch hb)) (nofun), ?_, ⟨?_, ?_, ?_⟩⟩
   ·refine All2.of_get (by rw [List.length_map, hlen, qE0 h1, List.length_map]) fun i a y ha hy => ?_
    rw [List.getElem?_map] at ha
    obtain ⟨w0, e0, rfl⟩ := Option.map_eq_some_iff.mp ha
    have eg : (qBx x).1.getD i [] = w0 := by rw [List.getD_eq_getElem?_getD, e0]; rfl
    have := (hall i y hy).1
    rw [eg] at this
    exact qDF (Kp.refl [] [] _ |>.step (Chg.push [] _ _) (fun b hb => nomatch hb)) (fun q hq h => nomatch h) this
   ·exact (kp9.fresh (Heap.get?_none_of_le (Nat.le_refl _))).elim (nofun) id
   ·exact (kp6.fresh hnew).elim (nofun) id
   ·intro q hq
    obtain ⟨i, hi⟩ := List.mem_iff_getElem?.mp hq
    exact (kp6.fresh ((hall i _ hi).2 q rfl)).elim (nofun) id
 ·refine qNk hst hlow hkind qTl qKv r4 rfl th fun e t2 h7 k7 m E' ev n7 hm7 kk7 kp7 ex7 tp7 => ?_
  have push : ∀ (ob : Obj) (b : Addr) (o : Obj), h7.get? b = some o → (h7.push ob).get? b = some o := fun ob b o e => Heap.get?_push_of_some _ e
  refine wpAny_execs_cons (wpAny_Return_some (wpAny_Tuple (Calls.spliced_cons (wpAny_List (Calls.spliced_nil ⟨by rw [sizeLine_eq]; decide, ?_⟩)))))
  refine Calls.spliced_cons ?_
  unfold qB5
  refine Call_Name rfl (qBH (cx := cxIn w A s [] []) hkind rfl qRe (qVK w.params) (qVL w.params) (fun b o e => push _ _ _ (kk7 b o e)) ?_)
  refine qB4 rfl (Calls.spliced_cons (wpAny_Name (wpAny_loadName_local hkind qKv (n7.at' fun o e => push _ _ _ e) hm7 ?_)))
  refine Calls.spliced_nil ?_
  have hu : (A.deeper (envOf (qBp w.params).qualname scTld s.heap.objs.size 811 (qBp w.params).code)).units + 2 < cLine := by
   have := ok.room.1.2
   have e : cLine = 9900 := rfl
   omega
  have ex8 : (h7.push { cls := .type "list", data := .seq ([] : List Value).toArray }).ExcAt e "ValueError" (.ref t2) := by
   obtain ⟨o, vs, g1, g2⟩ := ex7
   exact ⟨o, vs, push _ _ _ g1, g2⟩
  have tp8 : (h7.push { cls := .type "list", data := .seq ([] : List Value).toArray }).TupAt t2 [.str (qDv b) t1] := by
   obtain ⟨o, n, g1, g2⟩ := tp7
   exact ⟨o, n, push _ _ _ g1, g2⟩
  refine P.str_of_exc_one (e := e) (t0 := t2) (m := qDv b) (tk := t1) F.excStr_ValueError ?_ ?_ ?_ ?_
  ·exact hu
  ·exact ex8
  ·exact tp8
  refine Calls.spliced_nil ⟨by rw [sizeLine_eq]; exact Nat.le_of_ble_eq_true rfl, ?_⟩
  refine ⟨⟨m, n7.at' fun o e => Heap.get?_push_of_some _ (push _ _ _ e)⟩, fun h9 k9 hs9 => ?_⟩
  dsimp only at hs9 ⊢
  have et : qEq x = ([], some b) := by unfold qEq; rw [h1]
  have zA : (h7.push { cls := .type "list", data := .seq ([] : List Value).toArray }).objs.size = h7.objs.size + 1 := Heap.size_push ..
  obtain ⟨oL, es, ep, gL, _⟩ := n7
  have ltL : s.heap.objs.size < h7.objs.size := Heap.lt_size gL
  have nN : s.heap.get? h7.objs.size = none := (kp7.fresh (Heap.get?_none_of_le (Nat.le_refl _))).elim (nofun) id
  have nN2 : s.heap.get? (h7.objs.size + 1) = none := (kp7.fresh (Heap.get?_none_of_le (Nat.le_succ _))).elim (nofun) id
  have kp9 : Kp [] (qAa A) s.heap h9 := Kp.one ((kp7.step (Chg.push [] _ _) (fun b hb => nomatch hb)).step (Chg.push [] _ _) (fun b hb => nomatch hb)) hs9 hLn
  refine hQ _ h7.objs.size [] t1 _ ?_ kp9 (SameRest.trans r4.rest th.rest)
  rw [et]
  refine ⟨?_, ⟨_, hs9.extBut h7.objs.size _ (Nat.ne_of_gt ltL) (Heap.get?_push_of_some _ (Heap.get?_push_size _ rfl)), rfl, _, rfl⟩, .nil, ?_, nN, fun q hq => nomatch hq⟩
  ·rw [qMO]
   exact ⟨_, hs9.extBut _ _ (Nat.ne_of_gt (by rw [zA]; omega)) (Heap.get?_push_size _ rfl), rfl, _, rfl⟩
  ·rw [zA]; exact nN2
noncomputable abbrev qVc (P : Params) : FuncData := fdOf (o773 P)
noncomputable abbrev bPie : List Stmt := qBh (F1 29)
noncomputable abbrev scPie : Scope := qAM (F1 29)
theorem qOd (P : Params) : (qVc P).scope = scPie := by kernel_rfl
theorem qMT (w : World) : FnFacts w 773 (qVc w.params) bPie ["x"] :=
 .of1 (by kernel_rfl) (by kernel_rfl) (by kernel_rfl) fun _ => by kernel_rfl
noncomputable def qBF (n : Int) : Int := (n.fdiv 16).fmod 600
noncomputable def qG6 (n : Int) : Str := Txt.item "0123456789" ((qBF n).fmod 10)
noncomputable def qG5 (n : Int) : Str := Txt.item "0123456789" (((qBF n).fdiv 10).fmod 10)
noncomputable def qC4 (n : Int) : Str := qG6 n ++ ("." : Str) ++ qG5 n
noncomputable def pcWs (n : Int) : Str := Txt.item " \t\n\r" ((qBF n).fmod 4)
noncomputable def pcPu (n : Int) : Str := Txt.item "+#e,:x" ((qBF n).fmod 6)
noncomputable def qD2 (n : Int) : List Str := [".", qG6 n, qG6 n, qC4 n, qC4 n, qC4 n ++ (" " : Str), " ", "'", "\"", "\\", "-", "_"]
noncomputable def qDk (n : Int) : List Str := [pcWs n, pcPu n, ".", ""]
noncomputable def qIe (n : Int) : List Str := qD2 n ++ qDk n
noncomputable def qBE (n : Int) : Str := (qIe n).getD (n.fmod 16).toNat ""
noncomputable abbrev qWd (n : Int) : Sta := ⟨[("x", .int n), ("code", .int (qBF n)), ("figure", .str (qG6 n)), ("place", .str (qC4 n)), ("pieces", .obj 0)], [.lst ((qD2 n).map .str ++ (qDk n).map .str), .lst ((qDk n).map .str)], [], []⟩
noncomputable def qE8 (n : Int) : List Prop := [(16 : Int) ≠ 0, Builtin.divisionGoesByPylong n 16 = false,
 0 ≤ (qBF n).fmod 10 ∧ (qBF n).fmod 10 < (("0123456789" : Str)).length ∧ (("0123456789" : Str)).length ≤ sizeLine,
 (qG6 n).length + (("." : Str)).length ≤ sizeLine,
 (10 : Int) ≠ 0, Builtin.divisionGoesByPylong (qBF n) 10 = false,
 0 ≤ ((qBF n).fdiv 10).fmod 10 ∧ ((qBF n).fdiv 10).fmod 10 < (("0123456789" : Str)).length ∧ (("0123456789" : Str)).length ≤ sizeLine,
 (qG6 n ++ ("." : Str)).length + (qG5 n).length ≤ sizeLine,
 (qC4 n).length + ((" " : Str)).length ≤ sizeLine,
 0 ≤ (qBF n).fmod 4 ∧ (qBF n).fmod 4 < ((" \t\n\r" : Str)).length ∧ ((" \t\n\r" : Str)).length ≤ sizeLine,
 0 ≤ (qBF n).fmod 6 ∧ (qBF n).fmod 6 < (("+#e,:x" : Str)).length ∧ (("+#e,:x" : Str)).length ≤ sizeLine,
 ((qD2 n).map AV.str).length + ((qDk n).map AV.str).length ≤ sizeLine,
 0 ≤ n.fmod 16 ∧ n.fmod 16 < ((qD2 n).map AV.str ++ (qDk n).map AV.str).length ∧ n.fmod 16 < 2 ^ 63]
theorem qR7 (P : Params) (n : Int) : run (KK P) cs0 scPie bPie ⟨[("x", .int n)], [], [], []⟩ = some (.ret (((qD2 n).map AV.str ++ (qDk n).map AV.str).getD (n.fmod 16).toNat .none), qWd n, qE8 n) := by kernel_rfl
theorem qV0 (n : Int) : Builtin.divisionGoesByPylong n 16 = false := by kernel_rfl
theorem qV1 (n : Int) : Builtin.divisionGoesByPylong n 10 = false := by kernel_rfl
theorem fm (a b : Int) (h : 0 < b) : 0 ≤ a.fmod b ∧ a.fmod b < b := ⟨Int.fmod_nonneg_of_pos a h, Int.fmod_lt_of_pos a h⟩
theorem qUt (n : Int) : ∀ p ∈ qE8 n, p := by
 intro p hp
 have hz : sizeLine = 16777216 := sizeLine_eq
 simp only [qE8, List.mem_cons, List.not_mem_nil, or_false] at hp
 rcases hp with rfl | rfl | rfl | rfl | rfl | rfl | rfl | rfl | rfl | rfl | rfl | rfl | rfl
 ·decide
 ·exact qV0 n
 ·exact ⟨(fm _ 10 (by decide)).1, (fm _ 10 (by decide)).2, by rw [hz]; decide +kernel⟩
 ·show 1 + 1 ≤ sizeLine; omega
 ·decide
 ·exact qV1 _
 ·exact ⟨(fm _ 10 (by decide)).1, (fm _ 10 (by decide)).2, by rw [hz]; decide +kernel⟩
 ·show 2 + 1 ≤ sizeLine; omega
 ·show 3 + 1 ≤ sizeLine; omega
 ·exact ⟨(fm _ 4 (by decide)).1, (fm _ 4 (by decide)).2, by rw [hz]; decide +kernel⟩
 ·exact ⟨(fm _ 6 (by decide)).1, (fm _ 6 (by decide)).2, by rw [hz]; decide +kernel⟩
 ·show 12 + 4 ≤ sizeLine; omega
 ·have := fm n 16 (by decide)
  exact ⟨this.1, this.2, by omega⟩
theorem qIv : ∀ (l : List Str) (k : Nat), k < l.length → (l.map AV.str).getD k .none = .str (l.getD k "")
 | [], k, h => by simp at h
 | x :: l, 0, _ => rfl
 | x :: l, k + 1, h => by
  have := qIv l k (by simpa using h)
  simpa using this
theorem qR6 (n : Int) : ((qD2 n).map AV.str ++ (qDk n).map AV.str).getD (n.fmod 16).toNat .none = .str (qBE n) := by
 have := fm n 16 (by decide)
 rw [← List.map_append]
 exact qIv _ _ (by show (n.fmod 16).toNat < 16; omega)
theorem qOO {w : World} {A : Around} {s : Shared} {n : Int} {t : Tok} {Q E : VP} (rm : Room A 3) (k : Kept w s.heap) (hst : Stk A s.heap)
  (hQ : ∀ t' s', Kp [] (qAa A) s.heap s'.heap → SameRest s s' → Q (.str (qBE n) t') s') : codeAny (MM w) A (.call (.ref 773) ⟨[.int n t], []⟩) (ends Q E) s := by
 have hkind : scPie.kind = .function := by kernel_rfl
 refine qBl (d := 1) (ρ := []) (H := []) (args := [.int n]) (qMT w) rm (HR.nil k) (fun a ha => ⟨let ⟨o, e, _⟩ := hst.there a ha; ⟨o, e⟩, nofun⟩) (.cons ⟨t, rfl⟩ .nil) rfl fun s1 E' hL r ok => ?_
 rw [qOd] at ok ⊢
 refine wm (qAF (cx := cxIn w A s [] []) (sc := scPie) hkind (csv0 w 1) bPie _ _ _ _ (qR7 w.params n) (qUt n) _ _ _ _ ok r fun _ _ x => x.elim) (fun f s2 z => ?_)
 obtain ⟨ρ', p', ⟨c, rfl, hv⟩, r2⟩ := z
 rw [qR6] at hv
 obtain ⟨t', rfl⟩ := hv
 exact hQ t' s2 r2.kp r2.rest
theorem Kp.chgF {X F : List Addr} {h h' : Heap} (k : Kp X F h h') : Chg (X ++ F) h h' := ⟨fun b o e n => by
 obtain ⟨sl, e1, e2⟩ := k.keep b o e fun q => n (List.mem_append_left _ q)
 rw [e2 fun q => n (List.mem_append_right _ q)] at e1
 exact e1⟩
theorem Rel.kp0 {cx : Cx} {ρ : Rho} {S : Sta} {s1 s2 : Shared} {A : Around} {d : Nat} (r : Rel cx ρ S s1) (ok : AOK cx A d) (k : Kp [] (qAa A) s1.heap s2.heap) (hlow : ∀ a ∈ qAa A, nS ≤ a ∧ a ∉ feet S.H ρ) (rest : SameRest s1 s2) : Rel cx ρ S s2 := by
 have hr : HR cx.w ρ S.H s2.heap := r.hr.out (Y := [] ++ qAa A) k.chgF (fun a ha => hlow a (by simpa using ha))
 have := r.called (S := S) (H' := S.H) ok (List.prefix_refl _) hr (k.mono fun a ha => nomatch ha) (fun a ha => .inl ha) rest
 exact this
noncomputable abbrev qPX (P : Params) : FuncData := fdOf (o799 P)
noncomputable abbrev bLin : List Stmt := qBh (F1 33)
noncomputable abbrev scLin : Scope := qAM (F1 33)
theorem qOg (P : Params) : (qPX P).scope = scLin := by kernel_rfl
theorem qMW (w : World) : FnFacts w 799 (qPX w.params) bLin ["row"] :=
 .of1 (by kernel_rfl) (by kernel_rfl) (by kernel_rfl) fun _ => by kernel_rfl
noncomputable abbrev l0 : Stmt := nthS bLin 0
noncomputable abbrev l1 : Stmt := nthS bLin 1
noncomputable abbrev l2 : Stmt := nthS bLin 2
noncomputable abbrev l0C : PySem.Expr := cA 0 (stE l0)
noncomputable def lin0 : Stmt := .Assign [.Name "text" (cP (stT l0))] (.Call (.Attribute (.Constant (.str "") (cKn (cF (cF (stE l0)))) (cQ (cF (cF (stE l0))))) "join" (cP (cF (stE l0)))) [lcOf "_law_piece" "x" l0C "row"] [] (cP (stE l0))) (stP l0)
theorem qL8 : bLin = [lin0, l1, l2] := by kernel_rfl
theorem qPd : ((cP (cF (stE l0))).endLine == (cP (stE l0)).line) = true := by kernel_rfl
noncomputable abbrev scD : Scope := lcS l0C
theorem qE6 : scD.kind = .function := by kernel_rfl
theorem qOm : ∀ x ∈ scD.names, x.2 ≠ .free := by decide +kernel
theorem qOn : ∀ x ∈ scD.names, x.2 ≠ .cell := by decide +kernel
theorem qK4 : ∀ x ∈ scD.names, x.2 = .local → scD.names.lookup x.1 = some .local := by decide +kernel
theorem qTG : scD.names.lookup (Str.ofString "x") = some .local := by kernel_rfl
theorem qK3 : scD.names.lookup (Str.ofString "_law_piece") = some .globalImplicit := by kernel_rfl
theorem qR5 (P : Params) : nsIn (KK P) mainGlobals (Str.ofString "_law_piece") = some (some (.ref 773)) := by kernel_rfl
theorem qJx (P : Params) : keepIn (KK P) (.ref 773) = true := by kernel_rfl
noncomputable abbrev qF6 : LV := [("row", .obj 0)]
noncomputable abbrev liH (l : List Int) : List AO := [.lst (l.map .int)]
noncomputable def qAq (l : List Int) : Str := Txt.join "" (l.map qBE)
theorem qL7 (l : List Int) (x : Str) : qA0 scLin "text" (.str x) ⟨qF6, liH l, [], []⟩ = some ((), ⟨qF6 ++ [(Str.ofString "text", AV.str x)], liH l, [], []⟩, []) := by kernel_rfl
section
theorem qH3 : ∀ (ys : List Value) (xs : List Str), ys.length = xs.length → (∀ (i : Nat) (y : Value), ys[i]? = some y → ∃ t, y = .str (xs.getD i "") t) → ∃ l, ys = strValues l ∧ l.map (·.1) = xs
 | [], [], _, _ => ⟨[], rfl, rfl⟩
 | y :: ys, x :: xs, h, g => by
  obtain ⟨t, e⟩ := g 0 y rfl
  obtain ⟨l, h1, h2⟩ := qH3 ys xs (by simpa using h) fun i z hz => by simpa using g (i + 1) z (by simpa using hz)
  have e' : y = .str x t := by simpa using e
  subst e'
  exact ⟨(x, t) :: l, by rw [h1]; rfl, by rw [← h2]; rfl⟩
 | [], _ :: _, h, _ => by simp at h
 | _ :: _, [], h, _ => by simp at h
theorem qPK (l : List Int) (i : Nat) (h : i < l.length) : (l.map AV.int).getD i .none = .int (l.getD i 0) := by
 rw [List.getD_eq_getElem?_getD, List.getD_eq_getElem?_getD, List.getElem?_map, List.getElem?_eq_getElem h]; rfl
theorem qIk : scLin.names.lookup (Str.ofString "row") = some .local := by kernel_rfl
section
variable {cx : Cx} {ρ : Rho} {S : Sta} {s : Shared} {A : Around} {E : VP} {d : Nat} {q0 : Str} {cd : Value} {l : List Int} {p0 : Addr × Addr}
theorem Rel.var (r : Rel cx ρ S s) {x : Str} {a : AV} {C : Prop} (h : S.loc.lookup x = some a) (k : ∀ m v, s.heap.Ns cx.L m → m x = some v → vrel ρ a v → C) : C :=
 oz12 r.ns fun m n hm => oz12 (hm x a h) fun v e1 e2 => k m v n e1 e2
theorem Rel.obj1 {i : Nat} {p : Addr × Addr} (r : Rel cx ρ S s) {x : Str} {C : Prop} (h : S.loc.lookup x = some (.obj i)) (hp : ρ[i]? = some p) (k : ∀ m, s.heap.Ns cx.L m → m x = some (.ref p.1) → C) : C :=
 r.var h fun m v n e1 e2 => oz12 e2 fun p' e3 e4 => k m n (by rw [e1, e4, Option.some.inj (e3.symm.trans hp)])
theorem lowF (hlo : ∀ a ∈ qAa A, nS ≤ a) (ok : AOK cx A d) (r : Rel cx ρ S s) : ∀ a ∈ qAa A, nS ≤ a ∧ a ∉ feet S.H ρ := fun a ha => ⟨hlo a ha, (ok.disj r a ha).2⟩
theorem qQT {vs : List Value} (rv : vrels ρ (l.map .int) vs) {i : Nat} {v : Value} {C : Prop} (hv : vs[i]? = some v) (k : i < l.length → ∀ t, v = .int (l.getD i 0) t → C) : C := by
 have hi : i < l.length := by
  have := (List.getElem?_eq_some_iff.mp hv).1
  rw [← rv.length, List.length_map] at this
  exact this
 refine oz12 (qHp rv (show i < (l.map AV.int).length by rw [List.length_map]; exact hi)) fun u hu ru => ?_
 rw [hv] at hu
 rw [qPK l i hi, ← Option.some.inj hu] at ru
 exact oz11 ru fun t e => k hi t e
theorem qIw {α β : Type} (f : α → β) (l : List α) (i : Nat) (a : α) (b : β) (h : i < l.length) : (l.map f).getD i b = f (l.getD i a) := by
 rw [List.getD_eq_getElem?_getD, List.getD_eq_getElem?_getD, List.getElem?_map, List.getElem?_eq_getElem h]; rfl
theorem qAW : scLin.kind = .function := by kernel_rfl
theorem qUs {ys : List Value} {P : Nat → Value → Prop} (hlen : ys.length = l.length) (hall : ∀ (i : Nat) (y : Value), ys[i]? = some y → ∃ t, y = .str (qBE (l.getD i 0)) t) : ∃ l', ys = strValues l' ∧ l'.map (·.1) = l.map qBE :=
 qH3 ys (l.map qBE) (by rw [hlen, List.length_map]) fun i y hy => oz11 (hall i y hy) fun t e => ⟨t, by
  rw [e, qIw qBE l i 0 "" (by rw [← hlen]; exact (List.getElem?_eq_some_iff.mp hy).1)]⟩
theorem qL9 (hlo : ∀ a ∈ qAa A, nS ≤ a) (st : Stk A s.heap) (ok : AOK cx A (d + 3)) (r : Rel cx [p0] ⟨qF6, liH l, [], []⟩ s) (hj : JoinOk "" (l.map qBE) = true) (hl : l.length ≤ sizeLine) {Q : FP}
  (k : ∀ s', Rel cx [p0] ⟨qF6 ++ [(Str.ofString "text", AV.str (qAq l))], liH l, [], []⟩ s' → Q .next s') : wpAny (MM cx.w) A (exec lin0 (envOf q0 scLin cx.L 799 cd)) Q E s := by
 refine oz22 (r.hr.obj 0 (.lst (l.map .int)) p0 rfl rfl) fun vs n0 g0 rv => r.obj1 (x := Str.ofString "row") rfl rfl fun m ns hm0 => ?_
 have hvl : vs.length = l.length := by rw [← rv.length, List.length_map]
 have r1 := r.toks (s.toks + 1)
 unfold lin0
 with_reducible refine wpAny_Assign_Name (Call_method1 rfl (qAy rfl) qPd (Calls.Constant_str ?_)) (qBj rfl)
 with_reducible refine SB.join ?_
 unfold lcOf
 refine qDK (vs := vs) (P := fun i y h => ∃ t, y = .str (qBE (l.getD i 0)) t) (F := qAa A) qOm qOn qE6 qK4 qTG (fun _ => rfl) (fun i y X F' h h' kk hq p => p) ok.room.2 (by rw [hvl]; exact hl) ?_
 refine wpAny_Name (wpAny_loadName_local qAW qIk ns hm0 ?_)
 refine ⟨p0.1, rfl, ⟨_, g0, rfl, n0, rfl⟩, fun C i v s8 m8 E' hv hC nC hmx k8 r8 => qQT rv hv fun hi t e => ?_, fun Acc ys s9 hA hlen hall hnew k9 r9 => ?_⟩
 ·have kept8 : Kept cx.w s8.heap := Kp.kept k8 r.hr.kept (fun a ha => nomatch ha) hlo
  rw [e] at hmx
  unfold qB5
  refine Call_Name rfl (qCG (P := cx.w.params) qE6 qK3 rfl (qR5 cx.w.params) kept8.kk ?_)
  refine qAx (K := KK cx.w.params) rfl (qJx cx.w.params) (Calls.spliced_cons (wpAny_Name (wpAny_loadName_local qE6 qTG nC hmx ?_)))
  refine Calls.spliced_nil ⟨kept8.kk, wpAny_call ?_⟩
  exact qOO (ok.room.le (by omega)) kept8 (st.kp k8 (fun a ha h => nomatch h)) fun t' s' k' rest' => ⟨k', rest', ⟨t', rfl⟩, fun q hq => nomatch hq⟩
 ·with_reducible refine oz12 (qUs (P := fun _ _ => True) (hlen.trans hvl) fun i y hy => (hall i y hy).1) fun l' e1 e2 => ?_
  subst e1
  exact ⟨Acc, l', rfl, hA.isList, l.map qBE, e2, hj, fun t' kk => wpAny_mono (qAu qAW (qL7 l _) ⟨t', rfl⟩ ((Rel.kp0 r1 ok k9 (lowF hlo ok r) r9).toks kk)) (fun _ _ x => k _ x) fun _ _ x => x⟩
end
end
noncomputable def cmL : PySem.Expr → PySem.Expr
 | .Compare l _ _ _ => l
 | .BinOp l _ _ _ => l
 | _ => .Name "" default
noncomputable def cmR : PySem.Expr → PySem.Expr
 | .Compare _ _ (r :: _) _ => r
 | .BinOp _ _ r _ => r
 | _ => .Name "" default
noncomputable def ifB : Stmt → Stmt
 | .If _ b _ _ => nthS b 0
 | _ => nthS [] 0
noncomputable abbrev t1E : PySem.Expr := stE l1
noncomputable abbrev t1B : PySem.Expr := cmL t1E
noncomputable abbrev t1S : PySem.Expr := cmL t1B
noncomputable abbrev t1C : PySem.Expr := cA 0 t1S
noncomputable abbrev t1X : PySem.Expr := lcE t1C
noncomputable def xMod : PySem.Expr := .BinOp (.Name "x" (cP (cmL t1X))) .Mod (.Constant (.int 4) (cKn (cmR t1X)) (cQ (cmR t1X))) (PySem.Expr.pos t1X)
noncomputable def sumE : PySem.Expr := .Call (.Name "sum" (cP (cF t1S))) [.ListComp xMod [⟨.Name "x" (cP (lcT t1C)), .Name "row" (cP (lcI t1C)), [], 0⟩] (lcS t1C) (lcP t1C)] [] (cP t1S)
noncomputable def qNQ : PySem.Expr := .Compare (.BinOp sumE .Mod (.Constant (.int 4) (cKn (cmR t1B)) (cQ (cmR t1B))) (PySem.Expr.pos t1B)) [.NotEq] [.Constant (.int 0) (cKn (cmR t1E)) (cQ (cmR t1E))] (PySem.Expr.pos t1E)
theorem qJE : l1 = .If qNQ [ifB l1] [] (stP l1) := by kernel_rfl
noncomputable abbrev scE2 : Scope := lcS t1C
theorem qH9 : scE2.kind = .function := by kernel_rfl
theorem qOj : ∀ x ∈ scE2.names, x.2 ≠ .free := by decide +kernel
theorem qOk : ∀ x ∈ scE2.names, x.2 ≠ .cell := by decide +kernel
theorem qK2 : ∀ x ∈ scE2.names, x.2 = .local → scE2.names.lookup x.1 = some .local := by decide +kernel
theorem qTF : scE2.names.lookup (Str.ofString "x") = some .local := by kernel_rfl
noncomputable abbrev qBe (T : Str) : LV := qF6 ++ [(Str.ofString "text", AV.str T)]
theorem qSo (P : Params) (l : List Int) (T : Str) : qAi (KK P) scLin "sum" ⟨qBe T, liH l, [], []⟩ = some (.lit (.builtin "sum"), ⟨qBe T, liH l, [], []⟩, []) := by kernel_rfl
section
theorem qIo : ∀ (ys : List Value) (xs : List Int), ys.length = xs.length → (∀ (i : Nat) (y : Value), ys[i]? = some y → ∃ t, y = .int (xs.getD i 0) t) → ∃ l : List (Int × Tok), ys = l.map (fun p => .int p.1 p.2) ∧ l.map (·.1) = xs
 | [], [], _, _ => ⟨[], rfl, rfl⟩
 | y :: ys, x :: xs, h, g => by
  obtain ⟨t, e⟩ := g 0 y rfl
  obtain ⟨l, h1, h2⟩ := qIo ys xs (by simpa using h) fun i z hz => by simpa using g (i + 1) z (by simpa using hz)
  have e' : y = .int x t := by simpa using e
  subst e'
  exact ⟨(x, t) :: l, by rw [h1]; rfl, by rw [← h2]; rfl⟩
 | [], _ :: _, h, _ => by simp at h
 | _ :: _, [], h, _ => by simp at h
theorem qFO : ∀ (l : List Int), (∀ a ∈ l, 0 ≤ a ∧ a < 4) → 0 ≤ l.sum ∧ l.sum ≤ 4 * l.length
 | [], _ => by simp
 | a :: l, h => by
  have h1 := h a (.head _)
  have h2 := qFO l fun b hb => h b (.tail _ hb)
  simp only [List.sum_cons, List.length_cons]
  omega
noncomputable def qCI (l : List Int) : Int := (l.map fun a => a.fmod 4).sum
theorem qTy {l : List Int} (l' : List (Int × Tok)) (e2 : l'.map (·.1) = l.map fun a => a.fmod 4) (hl : l.length ≤ 1000) {j : Nat} (hj : j < l'.toArray.size) : InLong (numAt l'.toArray j) ∧ InLong (preSum (numAt l'.toArray) (j + 1)) := by
 have hl' : l'.length = l.length := by
  have := congrArg List.length e2
  simpa using this
 have small : ∀ a ∈ (l.map fun a => a.fmod 4), 0 ≤ a ∧ a < 4 := fun a ha => oz12 (List.mem_map.mp ha) fun b _ e => by rw [← e]; exact fm b 4 (by decide)
 have hj' : j < l.length := by rw [← hl']; simpa using hj
 rw [numAt_eq, preSum_eq]
 rw [show l'.toArray.toList = l' from rfl, e2]
 have a1 := small _ (show (l.map fun a => a.fmod 4).getD j 0 ∈ (l.map fun a => a.fmod 4) by
  rw [List.getD_eq_getElem?_getD, List.getElem?_eq_getElem (by simpa using hj')]; exact List.getElem_mem _)
 have a2 := qFO ((l.map fun a => a.fmod 4).take (j + 1)) fun a ha => small a (List.mem_of_mem_take ha)
 have a3 : ((l.map fun a => a.fmod 4).take (j + 1)).length ≤ l.length := by rw [List.length_take, List.length_map]; omega
 unfold InLong
 constructor <;> constructor <;> omega
section
variable {cx : Cx} {s : Shared} {A : Around} {E : VP} {d : Nat} {q0 : Str} {cd : Value} {l : List Int} {p0 : Addr × Addr} {T : Str}
theorem qNW (hlo : ∀ a ∈ qAa A, nS ≤ a) (ok : AOK cx A (d + 3)) (r : Rel cx [p0] ⟨qBe T, liH l, [], []⟩ s) (hl : l.length ≤ 1000) {Q : VP} (k : ∀ t s', Rel cx [p0] ⟨qBe T, liH l, [], []⟩ s' → Q (.int (qCI l) t) s') :
  wpAny (MM cx.w) A (eval sumE (envOf q0 scLin cx.L 799 cd)) Q E s := by
 unfold sumE
 refine Call_Name rfl (nmL qAW (qSo cx.w.params l T) r fun s3 r3 => oz22 (r3.hr.obj 0 (.lst (l.map .int)) p0 rfl rfl) fun vs n0 g0 rv => r3.obj1 (x := Str.ofString "row") rfl rfl fun m ns hm0 => ?_)
 have hvl : vs.length = l.length := by rw [← rv.length, List.length_map]
 refine qAT rfl (Calls.spliced_cons ?_)
 refine qDK (vs := vs) (P := fun i y h => ∃ t, y = .int ((l.map fun a => a.fmod 4).getD i 0) t) (F := qAa A) qOj qOk qH9 qK2 qTF (fun _ => rfl) (fun i y X F' h h' kk hq p => p) ok.room.2 (by rw [hvl, sizeLine_eq]; omega) ?_
 refine wpAny_Name (wpAny_loadName_local qAW qIk ns hm0 ?_)
 refine ⟨p0.1, rfl, ⟨_, g0, rfl, n0, rfl⟩, fun C i v s8 m8 E' hv hC nC hmx k8 r8 => qQT rv hv fun hi t e => ?_, fun Acc ys s9 hA hlen hall hnew k9 r9 => ?_⟩
 ·rw [e] at hmx
  unfold xMod
  refine wpAny_BinOp (wpAny_Name (wpAny_loadName_local qH9 qTF nC hmx (wpAny_Constant_int (mod_int' (by decide) ?_))))
  exact ⟨Kp.refl _ _ _, ⟨rfl, rfl, rfl⟩, ⟨_, congrArg (fun z => Value.int z _) (qIw (fun a : Int => a.fmod 4) l i 0 0 hi).symm⟩, fun q hq => nomatch hq⟩
 ·refine oz12 (qIo ys (l.map fun a => a.fmod 4) (by rw [hlen, hvl, List.length_map]) fun i y hy => (hall i y hy).1) fun l' e1 e2 => ?_
  have hacc : s9.heap.IsList Acc (intItems l'.toArray) := by
   have e : intItems l'.toArray = ys.toArray := by rw [e1]; simp [intItems]
   rw [e]; exact hA.isList
  refine Calls.spliced_nil (sum_intList (xs := l'.toArray) ok.room.2 hacc (fun j hj => qTy l' e2 hl hj) fun h' tk t' hk => ?_)
  rw [preSum_eq, List.take_of_length_le (by simp), show l'.toArray.toList = l' from rfl, e2]
  exact k t' _ (((Rel.kp0 r3 ok k9 (lowF hlo ok r3) r9).grow ⟨fun b o e _ => hk b o e⟩).toks tk)
end
end
section
section
variable {cx : Cx} {s : Shared} {A : Around} {E : VP} {d : Nat} {q0 : Str} {cd : Value} {l : List Int} {p0 : Addr × Addr} {T : Str}
theorem qKx (hlo : ∀ a ∈ qAa A, nS ≤ a) (ok : AOK cx A (d + 3)) (r : Rel cx [p0] ⟨qBe T, liH l, [], []⟩ s) (hl : l.length ≤ 1000) {Q : Bool → Shared → Prop} (k : ∀ s', Rel cx [p0] ⟨qBe T, liH l, [], []⟩ s' → Q (!((qCI l).fmod 4 == 0)) s') :
  wpAny (MM cx.w) A (isTrue qNQ (envOf q0 scLin cx.L 799 cd) (eval qNQ (envOf q0 scLin cx.L 799 cd))) Q E s := by
 unfold qNQ
 exact wpAny_isTrue_Compare1 (wpAny_BinOp (qNW hlo ok r hl fun t s2 r2 => wpAny_Constant_int (mod_int' (by decide) (wpAny_Constant_int (ne_int (wpAny_pure (k _ (r2.toks _)))))))) rfl
end
end
theorem qSf (P : Params) : ((H1 P).objs.toList.all fun o => !o.isFreed) = true := by kernel_rfl
theorem Kept.high {w : World} {h : Heap} {a : Addr} (k : Kept w h) (e : h.get? a = none) : nS ≤ a := by
 refine Nat.le_of_not_lt fun lt => ?_
 have hs : a < (H1 w.params).objs.size := by rw [qNw]; exact lt
 have hf : ((H1 w.params).objs[a]).isFreed = false := by
  have := List.all_eq_true.mp (qSf w.params) _ (Array.getElem_mem_toList hs)
  simpa using this
 have ho : (H1 w.params).get? a = some (H1 w.params).objs[a] := by
  unfold Heap.get?
  rw [Array.getElem?_eq_getElem hs]
  generalize (H1 w.params).objs[a] = o at hf ⊢
  obtain ⟨c, d, dt, sl⟩ := o
  cases dt <;> first | rfl | cases hf
 obtain ⟨ob, z⟩ := (k a _ ho).2
 rw [z] at e
 cases e
noncomputable def foT : Stmt → PySem.Expr
 | .For t _ _ _ _ => t
 | _ => .Name "" default
noncomputable def foI : Stmt → PySem.Expr
 | .For _ i _ _ _ => i
 | _ => .Name "" default
noncomputable def foB : Stmt → Stmt
 | .For _ _ b _ _ => nthS b 0
 | _ => nthS [] 0
noncomputable def foP : Stmt → Pos
 | .For _ _ _ _ p => p
 | _ => default
noncomputable def suQ : PySem.Expr → PySem.Expr
 | .Subscript q _ _ => q
 | _ => .Name "" default
noncomputable def suI : PySem.Expr → PySem.Expr
 | .Subscript _ i _ => i
 | _ => .Name "" default
noncomputable abbrev lF : Stmt := ifB l1
noncomputable abbrev lFb : Stmt := foB lF
noncomputable abbrev lFt : PySem.Expr := stE lFb
noncomputable abbrev lFs : PySem.Expr := cmL lFt
noncomputable abbrev lFc : PySem.Expr := suQ lFs
noncomputable abbrev lFa : PySem.Expr := cA 0 lFc
noncomputable abbrev lFr : Stmt := ifB lFb
noncomputable def qEn (e : PySem.Expr) : PySem.Expr := .BinOp (.Name "text" (cP (cmL e))) .Add (.Name "tail" (cP (cmR e))) (PySem.Expr.pos e)
noncomputable def qEh : PySem.Expr := .Compare (.Subscript (.Call (.Name "_law_due" (cP (cF lFc))) [qEn lFa] [] (cP lFc)) (.Constant (.int 1) (cKn (suI lFs)) (cQ (suI lFs))) (PySem.Expr.pos lFs)) [.Eq] [.Constant (.str "") (cKn (cmR lFt)) (cQ (cmR lFt))] (PySem.Expr.pos lFt)
theorem qME : lF = .For (.Name "tail" (cP (foT lF))) (foI lF) [.If qEh [.Return (some (qEn (stE lFr))) (stP lFr)] [] (stP lFb)] [] (foP lF) := by kernel_rfl
noncomputable def tails : List Str := ["", "0", "'", "\"", "0\""]
theorem qPN (P : Params) (l : List Int) (T : Str) : (evs (KK P) cs0 scLin 4).e (foI lF) ⟨qBe T, liH l, [], []⟩ = some (.obj 1, ⟨qBe T, liH l ++ [.lst (tails.map .str)], [], []⟩, []) := by kernel_rfl
theorem qSq (P : Params) (H : List AO) (loc : LV) : qAi (KK P) scLin "_law_due" ⟨loc, H, [], []⟩ = some (.lit (.ref 794), ⟨loc, H, [], []⟩, []) := by kernel_rfl
theorem qQj (P : Params) : keepIn (KK P) (.ref 794) = true := by kernel_rfl
theorem qIj : scLin.names.lookup (Str.ofString "tail") = some .local := by kernel_rfl
theorem qPc : scLin.names.lookup (Str.ofString "text") = some .local := by kernel_rfl
section
theorem qES : ∀ z : Option Bool, ((qBy z).cps.toList == (Str.ofString "").cps.toList) = z.isNone
 | none => by decide +kernel
 | some true => by decide +kernel
 | some false => by decide +kernel
section
variable {cx : Cx} {ρ : Rho} {s : Shared} {A : Around} {E : VP} {d : Nat} {q0 : Str} {cd : Value} {loc : LV} {HH : List AO} {T y : Str}
theorem qIV {e : PySem.Expr} (r : Rel cx ρ ⟨loc, HH, [], []⟩ s) (h1 : loc.lookup (Str.ofString "text") = some (.str T)) (h2 : loc.lookup (Str.ofString "tail") = some (.str y)) (hlen : T.length + y.length ≤ sizeLine) {Q : VP}
  (k : ∀ t s', Rel cx ρ ⟨loc, HH, [], []⟩ s' → Q (.str (T ++ y) t) s') : wpAny (MM cx.w) A (eval (qEn e) (envOf q0 scLin cx.L 799 cd)) Q E s := by
 refine oz12 r.ns fun m ns hm => oz12 (hm _ _ h1) fun v1 m1 e1 => oz12 (hm _ _ h2) fun v2 m2 e2 => oz11 e1 fun t1 e1 => oz11 e2 fun t2 e2 => ?_
 rw [e1] at m1
 rw [e2] at m2
 unfold qEn
 exact wpAny_BinOp (wpAny_Name (wpAny_loadName_local qAW qPc ns m1 (wpAny_Name (wpAny_loadName_local qAW qIj ns m2 (SB.add (fun t' kk => k _ _ (r.toks kk)) hlen)))))
theorem qQe (hlo : ∀ a ∈ qAa A, nS ≤ a) (ok : AOK cx A (d + 4)) (r : Rel cx ρ ⟨loc, HH, [], []⟩ s)
  (h1 : loc.lookup (Str.ofString "text") = some (.str T)) (h2 : loc.lookup (Str.ofString "tail") = some (.str y)) (hlen : T.length + y.length ≤ sizeLine) (hx : ∀ c ∈ (T ++ y).cps.toList, c ∈ qAn) (hl : (T ++ y).cps.toList.length < sizeLine) {Q : Bool → Shared → Prop}
  (k : ∀ s', Rel cx ρ ⟨loc, HH, [], []⟩ s' → Q (dueF (T ++ y).cps.toList).2.isNone s') :
  wpAny (MM cx.w) A (isTrue qEh (envOf q0 scLin cx.L 799 cd) (eval qEh (envOf q0 scLin cx.L 799 cd))) Q E s := by
 unfold qEh
 refine wpAny_isTrue_Compare1 (Subscript_ (Call_Name rfl (nmL qAW (qSq cx.w.params HH loc) r fun s3 r3 => qAx (K := KK cx.w.params) rfl (qQj cx.w.params) (Calls.spliced_cons (qIV r3 h1 h2 hlen fun t s4 r4 => ?_))))) rfl
 refine Calls.spliced_nil ⟨r4.X, wpAny_call ?_⟩
 refine qIH (w := cx.w) (ok.room.le (by omega)) r4.hr.kept (fun a ha => (ok.disj r4 a ha).1) hx hl fun b l vs u s5 Td k5 rest5 kept5 => ?_
 refine wpAny_Constant_int ?_
 refine tail_any Td.tup.typeIs slot_tuple_getitem.lookup (getItem_tuple (j := 1) Td.tup (by decide) (by decide) rfl rfl ?_) (qCo rfl)
 refine Calls.Constant_str (k := cKn (cmR lFt)) (pos := cQ (cmR lFt)) ?_
 refine P.eq_str (wpAny_pure ?_)
 rw [show _ = _ from qES (dueF (T ++ y).cps.toList).2]
 exact k _ ((Rel.kp0 r4 ok k5 (lowF hlo ok r4) rest5).toks _)
end
end
section
open PySem.NumText
noncomputable def qBu (l : List Nat) : List Nat := (l.reverse.dropWhile blank).reverse
theorem qCC {p : Nat → Bool} (c : Nat) : ∀ l : List Nat, (l ++ [c]).dropWhile p = if l.dropWhile p = [] then (if p c then [] else [c]) else l.dropWhile p ++ [c]
 | [] => by simp [List.dropWhile_cons]
 | d :: l => by
  rw [List.cons_append, List.dropWhile_cons, List.dropWhile_cons]
  cases hd : p d with
  | true => simp only [if_true]; exact qCC c l
  | false => simp
theorem qC0 (c : Nat) (l : List Nat) : qBu (c :: l) = if qBu l = [] then (if blank c then [] else [c]) else c :: qBu l := by
 unfold qBu
 rw [List.reverse_cons, qCC]
 by_cases h : l.reverse.dropWhile blank = []
 ·simp only [h, if_true, List.reverse_nil]
  cases blank c <;> rfl
 ·rw [if_neg h, if_neg (by simpa using h), List.reverse_append]; rfl
noncomputable def qBn : List Nat := [48, 49, 50, 51, 52, 53, 54, 55, 56, 57, 32, 39, 34, 92, 45, 95, 9, 10, 13, 43, 35, 101, 44, 58, 120]
theorem qD7 (c : Nat) : qAd standLost c = standLost := by
 unfold qAd
 have h1 : standLost.part.isBL = true := rfl
 have h2 : (standLost.part == Part.figures) = false := rfl
 have h3 : (standLost.part == Part.ahead) = false := rfl
 have h4 : standLost.part.isAFB = false := rfl
 have h5 : standLost.part.isFB = false := rfl
 simp [h1, h2, h3, h4, h5]
theorem qBJ : ∀ l : List Nat, l.foldl qAd standLost = standLost
 | [] => rfl
 | c :: l => by rw [List.foldl_cons, qD7, qBJ l]
noncomputable def finF (d : Stand) : Option Int := if d.part.isFB then some (qBv d.minus d.num) else none
noncomputable def numA (ds : Array Nat) : Nat := ds.foldl (fun acc d => acc * 10 + d) 0
theorem qLJ (ds : Array Nat) (d : Nat) : numA (ds.push d) = numA ds * 10 + d := by unfold numA; rw [Array.foldl_push]
noncomputable def rd (m : Bool) (x : Option (Array Nat × Bool)) : Option Int := x.bind fun p => if p.2 then some (qBv m (numA p.1 : Nat)) else none
theorem qHJ {n : Int} {m : Bool} {f : Option Int} {c : Nat} (hc : c ∈ qBn) : (isWs c = true ∧ blank c = true ∧ qAd ⟨.behind, n, m, f⟩ c = ⟨.behind, n, m, f⟩) ∨ (blank c = false ∧ qAd ⟨.behind, n, m, f⟩ c = standLost) := by
 simp only [qBn, List.mem_cons, List.not_mem_nil, or_false] at hc
 rcases hc with rfl | rfl | rfl | rfl | rfl | rfl | rfl | rfl | rfl | rfl | rfl | rfl | rfl | rfl | rfl | rfl | rfl | rfl | rfl | rfl | rfl | rfl | rfl | rfl | rfl
 all_goals first
  | exact .inl ⟨rfl, rfl, rfl⟩
  | exact .inr ⟨rfl, rfl⟩
theorem qDq {n : Int} {m : Bool} {f : Option Int} : ∀ {l : List Nat}, (∀ c ∈ l, c ∈ qBn) → finF (l.foldl qAd ⟨.behind, n, m, f⟩) = if qBu l = [] then some (qBv m n) else none
 | [], _ => rfl
 | c :: l, h => by
  have hc := h c (.head _)
  have ih := qDq (n := n) (m := m) (f := f) (l := l) fun d hd => h d (.tail _ hd)
  rw [List.foldl_cons, qC0]
  rcases qHJ (n := n) (m := m) (f := f) hc with ⟨k1, k2, k3⟩ | ⟨k2, k3⟩
  ·rw [k3, ih, k2]
   by_cases q : qBu l = [] <;> simp [q]
  ·rw [k3, qBJ, k2]
   by_cases q : qBu l = [] <;> simp [q] <;> rfl
theorem qI7 {ds : Array Nat} {b : Bool} {c : Nat} (h : blank c = true) : NumText.step 10 (ds, b) c = none := by
 have hc : c = 32 ∨ (9 ≤ c ∧ c ≤ 13) := by
  unfold blank at h
  simpa using h
 unfold NumText.step
 have h1 : (c == 95) = false := by simp; omega
 have h2 : digit? c = none := by
  unfold digit?
  rw [if_neg (by simp; omega), if_neg (by simp; omega), if_neg (by simp; omega)]
 rw [h1, h2]; rfl
theorem qCR {p : Array Nat × Bool} {c : Nat} {l : List Nat} : List.foldlM (m := Option) (NumText.step 10) p (c :: l) = (NumText.step 10 p c).bind fun q => List.foldlM (m := Option) (NumText.step 10) q l := rfl
theorem qRc {m : Bool} {ds : Array Nat} {b : Bool} {c : Nat} {l : List Nat} (h : blank c = true) : rd m ((qBu (c :: l)).foldlM (NumText.step 10) (ds, b)) = if qBu l = [] then rd m (some (ds, b)) else none := by
 rw [qC0, h]
 by_cases q : qBu l = []
 ·rw [if_pos q, if_pos q]; rfl
 ·rw [if_neg q, if_neg q, qCR, qI7 h]; rfl
theorem qGK {c : Nat} {l : List Nat} (h : blank c = false) : qBu (c :: l) = c :: qBu l := by
 rw [qC0, h]
 by_cases q : qBu l = []
 ·rw [if_pos q, q]; rfl
 ·rw [if_neg q]
noncomputable def qIs : List Nat := [39, 34, 92, 45, 43, 35, 101, 44, 58, 120]
theorem qSH : ∀ c ∈ qBn, (48 ≤ c ∧ c ≤ 57) ∨ (blank c = true ∧ isWs c = true ∧ qA2 c = false ∧ (c == 95) = false ∧ (c == 43 || c == 45) = false ∧ (c == 46) = false) ∨ c = 95 ∨ (blank c = false ∧ c ∈ qIs) := by decide +kernel
theorem qQw {x : Int} {m : Bool} {f : Option Int} {p : Part} {ds : Array Nat} (hp : p = .bar ∨ p = .sign) : qAd ⟨p, x, m, f⟩ 95 = standLost ∧ NumText.step 10 (ds, p == .figures) 95 = none := by
 rcases hp with rfl | rfl <;> exact ⟨rfl, rfl⟩
theorem qKW {x : Int} {m : Bool} {f : Option Int} {p : Part} {ds : Array Nat} {c : Nat} (h : c ∈ qIs) (hp : p = .figures ∨ p = .bar ∨ p = .sign) : qAd ⟨p, x, m, f⟩ c = standLost ∧ NumText.step 10 (ds, p == .figures) c = none := by
 have key : ∀ c ∈ qIs, qAd ⟨p, x, m, f⟩ c = standLost ∧ NumText.step 10 (ds, p == .figures) c = none := by
  rcases hp with rfl | rfl | rfl <;> simp only [qIs, List.forall_mem_cons] <;> exact ⟨⟨rfl, rfl⟩, ⟨rfl, rfl⟩, ⟨rfl, rfl⟩, ⟨rfl, rfl⟩, ⟨rfl, rfl⟩, ⟨rfl, rfl⟩, ⟨rfl, rfl⟩, ⟨rfl, rfl⟩, ⟨rfl, rfl⟩, ⟨rfl, rfl⟩, fun _ h => nomatch h⟩
 exact key c h
theorem qDH {m : Bool} {f : Option Int} : ∀ {l : List Nat} {ds : Array Nat} {p : Part}, (∀ c ∈ l, c ∈ qBn) → (p = .figures ∨ p = .bar ∨ p = .sign) →
  finF (l.foldl qAd ⟨p, (numA ds : Nat), m, f⟩) = rd m ((qBu l).foldlM (NumText.step 10) (ds, p == .figures))
 | [], ds, p, _, hp => by
  rcases hp with rfl | rfl | rfl
  ·rfl
  ·rfl
  ·rfl
 | c :: l, ds, p, h, hp => by
  have hc := h c (.head _)
  have hl : ∀ d ∈ l, d ∈ qBn := fun d hd => h d (.tail _ hd)
  have e1 : ∀ {q : Stand}, qAd ⟨p, (numA ds : Nat), m, f⟩ c = q → finF ((c :: l).foldl qAd ⟨p, (numA ds : Nat), m, f⟩) = finF (l.foldl qAd q) := fun e => by rw [List.foldl_cons, e]
  have fig : ∀ d : Nat, c = 48 + d → d < 10 → finF ((c :: l).foldl qAd ⟨p, (numA ds : Nat), m, f⟩) = rd m ((qBu (c :: l)).foldlM (NumText.step 10) (ds, p == .figures)) := by
   intro d e hd
   have hb : blank c = false := blank_of (by omega)
   have st : NumText.step 10 (ds, p == Part.figures) c = some (ds.push d, true) := by
    rw [step_digit (by omega), show c - 48 = d by omega]
   have sf : qAd ⟨p, (numA ds : Nat), m, f⟩ c = ⟨.figures, (numA (ds.push d) : Nat), m, f⟩ := by
    unfold qAd
    have h1 : qA2 c = true := by unfold qA2; simp; omega
    have h2 : p.isBL = false := by rcases hp with rfl | rfl | rfl <;> rfl
    rw [if_pos (by rw [h1, h2]; rfl), qLJ]
    have : (10 * ((numA ds : Nat) : Int) + ((c : Int) - 48)) = ((numA ds * 10 + d : Nat) : Int) := by omega
    rw [this]
   rw [e1 sf, qDH hl (.inl rfl), qGK hb, qCR, st]; rfl
  have lost : blank c = false → qAd ⟨p, (numA ds : Nat), m, f⟩ c = standLost → NumText.step 10 (ds, p == .figures) c = none → finF ((c :: l).foldl qAd ⟨p, (numA ds : Nat), m, f⟩) = rd m ((qBu (c :: l)).foldlM (NumText.step 10) (ds, p == .figures)) := by
   intro hb sf st
   rw [e1 sf, qBJ, qGK hb, qCR, st]; rfl
  have ws : blank c = true → isWs c = true → qA2 c = false → (c == 95) = false → (c == 43 || c == 45) = false → (c == 46) = false → finF ((c :: l).foldl qAd ⟨p, (numA ds : Nat), m, f⟩) = rd m ((qBu (c :: l)).foldlM (NumText.step 10) (ds, p == .figures)) := by
   intro hb hw h1 h2 h3 h4
   rw [qRc hb]
   rcases hp with rfl | rfl | rfl
   ·have sf : qAd ⟨.figures, (numA ds : Nat), m, f⟩ c = ⟨.behind, (numA ds : Nat), m, f⟩ := by
     unfold qAd; simp only [h1, h2, h3, hw, Bool.false_and, Bool.false_eq_true, if_false]; rfl
    rw [e1 sf, qDq hl]
    by_cases q : qBu l = [] <;> simp [q] <;> rfl
   ·have sf : qAd ⟨.bar, (numA ds : Nat), m, f⟩ c = standLost := by
     unfold qAd; simp only [h1, h2, h3, h4, hw, Bool.false_and, Bool.false_eq_true, if_false]; rfl
    rw [e1 sf, qBJ]
    by_cases q : qBu l = [] <;> simp [q] <;> rfl
   ·have sf : qAd ⟨.sign, (numA ds : Nat), m, f⟩ c = standLost := by
     unfold qAd; simp only [h1, h2, h3, h4, hw, Bool.false_and, Bool.false_eq_true, if_false]; rfl
    rw [e1 sf, qBJ]
    by_cases q : qBu l = [] <;> simp [q] <;> rfl
  rcases qSH c hc with k | ⟨k1, k2, k3, k4, k5, k6⟩ | k | ⟨k1, k2⟩
  ·exact fig (c - 48) (by omega) (by omega)
  ·exact ws k1 k2 k3 k4 k5 k6
  ·rcases hp with rfl | hp
   ·have sf : qAd ⟨.figures, (numA ds : Nat), m, f⟩ c = ⟨.bar, (numA ds : Nat), m, f⟩ := by rw [k]; rfl
    rw [e1 sf, qDH hl (.inr (.inl rfl)), qGK (by rw [k]; rfl), qCR, k]; rfl
   ·obtain ⟨g1, g2⟩ := qQw (x := (numA ds : Nat)) (m := m) (f := f) (ds := ds) hp
    exact lost (by rw [k]; rfl) (by rw [k]; exact g1) (by rw [k]; exact g2)
  ·obtain ⟨g1, g2⟩ := qKW (x := (numA ds : Nat)) (m := m) (f := f) (ds := ds) k2 hp
   exact lost k1 g1 g2
noncomputable def qCy (l : List Nat) : Option Int := rd (sign (l.dropWhile blank)).1 ((qBu (sign (l.dropWhile blank)).2).foldlM (NumText.step 10) (#[], false))
theorem qJ9 {f : Option Int} {c : Nat} (hc : c ∈ qBn) : (blank c = true ∧ qAd ⟨.ahead, 0, false, f⟩ c = ⟨.ahead, 0, false, f⟩) ∨ (blank c = false ∧ (∀ l, sign (c :: l) = (false, c :: l)) ∧ qAd ⟨.ahead, 0, false, f⟩ c = qAd ⟨.sign, ((numA #[] : Nat) : Int), false, f⟩ c) ∨ (blank c = false ∧ ∃ m, (∀ l, sign (c :: l) = (m, l)) ∧ qAd ⟨.ahead, 0, false, f⟩ c = ⟨.sign, ((numA #[] : Nat) : Int), m, f⟩) := by
 simp only [qBn, List.mem_cons, List.not_mem_nil, or_false] at hc
 rcases hc with rfl | rfl | rfl | rfl | rfl | rfl | rfl | rfl | rfl | rfl | rfl | rfl | rfl | rfl | rfl | rfl | rfl | rfl | rfl | rfl | rfl | rfl | rfl | rfl | rfl
 all_goals first
  | exact .inl ⟨rfl, rfl⟩
  | exact .inr (.inl ⟨rfl, fun _ => rfl, rfl⟩)
  | exact .inr (.inr ⟨rfl, true, fun _ => rfl, rfl⟩)
  | exact .inr (.inr ⟨rfl, false, fun _ => rfl, rfl⟩)
theorem qEb {f : Option Int} : ∀ {l : List Nat}, (∀ c ∈ l, c ∈ qBn) → finF (l.foldl qAd ⟨.ahead, 0, false, f⟩) = qCy l
 | [], _ => rfl
 | c :: l, h => by
  have hc := h c (.head _)
  have hl : ∀ d ∈ l, d ∈ qBn := fun d hd => h d (.tail _ hd)
  have e1 : ∀ {q : Stand}, qAd ⟨.ahead, 0, false, f⟩ c = q → finF ((c :: l).foldl qAd ⟨.ahead, 0, false, f⟩) = finF (l.foldl qAd q) := fun e => by rw [List.foldl_cons, e]
  have ws : blank c = true → qAd ⟨.ahead, 0, false, f⟩ c = ⟨.ahead, 0, false, f⟩ → finF ((c :: l).foldl qAd ⟨.ahead, 0, false, f⟩) = qCy (c :: l) := by
   intro hb sf
   rw [e1 sf, qEb hl]
   unfold qCy
   rw [List.dropWhile_cons, if_pos hb]
  have no : blank c = false → (sign (c :: l)) = (false, c :: l) → qAd ⟨.ahead, 0, false, f⟩ c = qAd ⟨.sign, ((numA #[] : Nat) : Int), false, f⟩ c → finF ((c :: l).foldl qAd ⟨.ahead, 0, false, f⟩) = qCy (c :: l) := by
   intro hb hs sf
   rw [e1 sf]
   have := qDH (m := false) (f := f) (l := c :: l) (ds := #[]) h (.inr (.inr rfl))
   rw [List.foldl_cons] at this
   rw [this]
   unfold qCy
   rw [List.dropWhile_cons, if_neg (by rw [hb]; decide), hs]; rfl
  have sg : ∀ m : Bool, blank c = false → (sign (c :: l)) = (m, l) → qAd ⟨.ahead, 0, false, f⟩ c = ⟨.sign, ((numA #[] : Nat) : Int), m, f⟩ → finF ((c :: l).foldl qAd ⟨.ahead, 0, false, f⟩) = qCy (c :: l) := by
   intro m hb hs sf
   rw [e1 sf, qDH hl (.inr (.inr rfl))]
   unfold qCy
   rw [List.dropWhile_cons, if_neg (by rw [hb]; decide), hs]; rfl
  rcases qJ9 (f := f) hc with ⟨k1, k2⟩ | ⟨k1, k2, k3⟩ | ⟨k1, m, k2, k3⟩
  ·exact ws k1 k2
  ·exact no k1 (k2 l) k3
  ·exact sg m k1 (k2 l) k3
end
section
open PySem.NumText
noncomputable def cut (c : Nat) : List Nat → List (List Nat)
 | [] => [[]]
 | d :: l => if d = c then [] :: cut c l else match cut c l with
  | p :: ps => (d :: p) :: ps
  | [] => [[d]]
theorem qNb (c : Nat) : ∀ l : List Nat, cut c l ≠ []
 | [] => by simp [cut]
 | d :: l => by
  unfold cut
  split
  ·simp
  ·split <;> simp
noncomputable def glue (c : Nat) : List (List Nat) → List Nat
 | [] => []
 | [p] => p
 | p :: q :: ps => p ++ c :: glue c (q :: ps)
theorem qMt (c : Nat) (p : List Nat) {ps : List (List Nat)} (h : ps ≠ []) : glue c (p :: ps) = p ++ c :: glue c ps := by
 cases ps with
 | nil => exact absurd rfl h
 | cons q ps => rfl
theorem qFk (c : Nat) : ∀ l : List Nat, glue c (cut c l) = l
 | [] => rfl
 | d :: l => by
  have ih := qFk c l
  unfold cut
  split
  ·rename_i e
   rw [qMt c _ (qNb c l), ih, e]; rfl
  ·cases h : cut c l with
   | nil => exact absurd h (qNb c l)
   | cons p ps =>
    rw [h] at ih
    dsimp only
    cases ps with
    | nil =>
     have ih : p = l := ih
     rw [ih]; rfl
    | cons q ps =>
     have ih : p ++ c :: glue c (q :: ps) = l := ih
     show (d :: p) ++ c :: glue c (q :: ps) = d :: l
     rw [List.cons_append, ih]
theorem qDd {c : Nat} : ∀ {p : List Nat} (l : List Nat), c ∉ p → cut c (p ++ c :: l) = p :: cut c l
 | [], l, _ => by
  show cut c (c :: l) = _
  rw [cut, if_pos rfl]
 | d :: p, l, h => by
  have hd : d ≠ c := fun e => h (by rw [e]; exact .head _)
  show cut c (d :: (p ++ c :: l)) = _
  rw [cut, if_neg hd, qDd l fun q => h (.tail _ q)]
theorem qDb {c : Nat} : ∀ {p : List Nat}, c ∉ p → cut c p = [p]
 | [], _ => rfl
 | d :: p, h => by
  have hd : d ≠ c := fun e => h (by rw [e]; exact .head _)
  rw [cut, if_neg hd, qDb fun q => h (.tail _ q)]
theorem qFt {c : Nat} : ∀ {ps : List (List Nat)}, ps ≠ [] → (∀ p ∈ ps, c ∉ p) → cut c (glue c ps) = ps
 | [], h, _ => absurd rfl h
 | [p], _, h => qDb (h p (.head _))
 | p :: q :: ps, _, h => by
  show cut c (p ++ c :: glue c (q :: ps)) = _
  rw [qDd _ (h p (.head _)), qFt (by simp) fun r hr => h r (.tail _ hr)]
theorem qDJ (c : Nat) : ∀ (l : List Nat), ∀ p ∈ cut c l, c ∉ p
 | [], p, hp => by
  have : p = [] := ls hp
  subst this; simp
 | d :: l, p, hp => by
  unfold cut at hp
  split at hp
  ·rcases lc hp with rfl | hp
   ·simp
   ·exact qDJ c l p hp
  ·rename_i hd
   split at hp
   ·rename_i q qs e
    rcases lc hp with rfl | hp
    ·intro hm
     rcases lc hm with h | h
     ·exact hd h.symm
     ·exact qDJ c l q (by rw [e]; exact .head _) h
    ·exact qDJ c l p (by rw [e]; exact .tail _ hp)
   ·rw [ls hp]
    simpa using Ne.symm hd
theorem qEj (c : Nat) : ∀ (l : List Nat), ∀ p ∈ cut c l, ∀ d ∈ p, d ∈ l
 | [], p, hp, d, hd => by
  have : p = [] := ls hp
  subst this; exact hd
 | e :: l, p, hp, d, hd => by
  unfold cut at hp
  split at hp
  ·rcases lc hp with rfl | hp
   ·exact nomatch hd
   ·exact .tail _ (qEj c l p hp d hd)
  ·split at hp
   ·rename_i q qs eq
    rcases lc hp with rfl | hp
    ·rcases lc hd with rfl | h
     ·exact .head _
     ·exact .tail _ (qEj c l q (by rw [eq]; exact .head _) d h)
    ·exact .tail _ (qEj c l p (by rw [eq]; exact .tail _ hp) d hd)
   ·rw [ls hp] at hd
    rw [ls hd]; exact .head _
theorem qDc (c : Nat) : ∀ (l : List Nat), ∀ p ∈ cut c l, p.length ≤ l.length
 | [], p, hp => by
  have : p = [] := ls hp
  subst this; simp
 | e :: l, p, hp => by
  unfold cut at hp
  split at hp
  ·rcases lc hp with rfl | hp
   ·simp
   ·exact Nat.le_succ_of_le (qDc c l p hp)
  ·split at hp
   ·rename_i q qs eq
    rcases lc hp with rfl | hp
    ·exact Nat.succ_le_succ (qDc c l q (by rw [eq]; exact .head _))
    ·exact Nat.le_succ_of_le (qDc c l p (by rw [eq]; exact .tail _ hp))
   ·rw [ls hp]; simp
theorem qEc (c : Nat) : ∀ xs : List Str, (Str.join ⟨#[c]⟩ xs).cps.toList = glue c (xs.map fun x => x.cps.toList)
 | [] => rfl
 | [x] => rfl
 | x :: y :: xs => by
  have ih := qEc c (y :: xs)
  show ((x ++ (⟨#[c]⟩ : Str)) ++ Str.join ⟨#[c]⟩ (y :: xs)).cps.toList = x.cps.toList ++ c :: glue c ((y :: xs).map fun x => x.cps.toList)
  rw [← ih]
  show ((x.cps ++ #[c]) ++ (Str.join ⟨#[c]⟩ (y :: xs)).cps).toList = _
  rw [Array.toList_append, Array.toList_append, List.append_assoc]
  rfl
theorem qCf (x : Str) (c : Nat) : (Txt.split x ⟨#[c]⟩).map (fun y => y.cps.toList) = cut c x.cps.toList := by
 have h1 := StrLaws.join_split x ⟨#[c]⟩
 have h2 := StrLaws.split_free x c
 have h3 : Txt.split x ⟨#[c]⟩ ≠ [] := fun e => by
  have := PyProof.Rows.split_pos x ⟨#[c]⟩
  rw [e] at this; simp at this
 have h4 := qEc c (Txt.split x ⟨#[c]⟩)
 rw [h1] at h4
 rw [h4, qFt (by simpa using h3)]
 intro p hp
 refine oz12 (List.mem_map.mp hp) fun y hy zr1 => ?_
 subst zr1
 exact h2 y hy
theorem qIr : ∀ c ∈ qBn, c < 128 ∧ c ≠ 0 := by decide
theorem qPA {x : Str} (h : ∀ c ∈ x.cps.toList, c ∈ qBn) (hl : x.cps.toList.length ≤ 4300) : PySem.intText? x = qCy x.cps.toList := by
 have e1 : numTextOf x = x.cps.toList := by
  unfold numTextOf
  rw [if_pos]
  rw [← Array.all_toList, List.all_eq_true]
  intro c hc
  simpa using (qIr c (h c hc)).1
 have e2 : numSeenOf x = x.cps.toList := by
  unfold numSeenOf
  rw [e1]
  exact takeWhile_all fun c hc => by simpa using (qIr c (h c hc)).2
 unfold PySem.intText?
 rw [e2, e1, if_pos (by simp)]
 have e3 : core x.cps.toList = qBu (sign (x.cps.toList.dropWhile blank)).2 := rfl
 rw [e3]
 unfold qCy
 cases hd : digits? 10 (qBu (sign (x.cps.toList.dropWhile blank)).2) with
 | none =>
  unfold digits? at hd
  generalize List.foldlM (NumText.step 10) _ _ = z at hd
  cases z with
  | none => rfl
  | some p =>
   obtain ⟨ds, b⟩ := p
   cases b with
   | false => rfl
   | true => cases hd
 | some ds =>
  have hs : ds.size ≤ 4300 := Nat.le_trans (digits_size hd) (Nat.le_trans (Nat.le_of_eq (congrArg List.length e3.symm)) (Nat.le_trans (core_length _) hl))
  unfold digits? at hd
  generalize List.foldlM (NumText.step 10) _ _ = z at hd
  cases z with
  | none => cases hd
  | some p =>
   obtain ⟨es, b⟩ := p
   cases b with
   | false => cases hd
   | true =>
    cases hd
    dsimp only
    rw [if_pos hs]
    generalize (sign (x.cps.toList.dropWhile blank)).1 = m
    cases m <;> rfl
end
section
open PySem.NumText
noncomputable def qCc (w : List Nat) : OI := match cut 46 w with
 | [p, q] => match qCy p, qCy q with
  | some a, some b => some (a, b)
  | _, _ => none
 | _ => none
theorem qSG : ∀ {c : Nat}, c ∈ qAn → c ≠ 46 → c ∈ qBn := by
 have : ∀ c ∈ qAn, c = 46 ∨ c ∈ qBn := by decide
 exact fun {c} h n => (this c h).resolve_left n
theorem qI6 (d : Stand) {c : Nat} (h : c ≠ 46) : qAd d c = standLost ∨ (qAd d c).front = d.front := by
 unfold qAd
 have h1 : (c == 46) = false := by simpa using h
 rw [h1]
 repeat' split
 all_goals first
  | exact .inr rfl
  | exact .inl rfl
  | (rename_i q; simp at q)
theorem qBT : ∀ (l : List Nat) (d : Stand), 46 ∉ l → l.foldl qAd d = standLost ∨ (l.foldl qAd d).front = d.front
 | [], d, _ => .inr rfl
 | c :: l, d, h => by
  rw [List.foldl_cons]
  have hc : c ≠ 46 := fun e => h (by rw [e]; exact .head _)
  have hl : 46 ∉ l := fun q => h (.tail _ q)
  rcases qI6 d hc with e | e
  ·rw [e, qBJ]; exact .inl rfl
  ·rcases qBT l (qAd d c) hl with q | q
   ·exact .inl q
   ·exact .inr (q.trans e)
theorem qEF : qAC standLost = none := rfl
theorem qJw {d : Stand} {v : Int} (h : d.front = some v) : qAC d = (finF d).map fun n => (v, n) := by
 unfold qAC finF
 rw [h]
 dsimp only
 split <;> rfl
theorem qQl {d : Stand} (h : finF d = none) : qAd d 46 = standLost := by
 unfold finF at h
 unfold qAd
 have h1 : d.part.isFB = false := by
  cases q : d.part.isFB with
  | false => rfl
  | true => rw [q] at h; cases h
 have h2 : qA2 46 = false := rfl
 have h3 : isWs 46 = false := rfl
 rw [h1, h2, h3]; rfl
theorem qII {d : Stand} {v : Int} (h : finF d = some v) (hf : d.front = none) : qAd d 46 = ⟨.ahead, 0, false, some v⟩ := by
 unfold finF at h
 unfold qAd
 have h1 : d.part.isFB = true := by
  cases q : d.part.isFB with
  | true => rfl
  | false => rw [q] at h; cases h
 rw [h1] at h
 have h := Option.some.inj h
 have h2 : qA2 46 = false := rfl
 have h3 : isWs 46 = false := rfl
 rw [h1, h2, h3, hf, h]; rfl
theorem qM9 {d : Stand} {v : Int} (hf : d.front = some v) : qAd d 46 = standLost := by
 unfold qAd
 have h2 : qA2 46 = false := rfl
 have h3 : isWs 46 = false := rfl
 rw [h2, h3, hf]
 simp
theorem qEw {w : List Nat} (h : ∀ c ∈ w, c ∈ qAn) : qAC (w.foldl qAd qAc) = qCc w := by
 by_cases h1 : 46 ∈ w
 ·refine oz22 (List.eq_append_cons_of_mem h1) fun p l zr1 hp => ?_
  subst zr1
  have sp : ∀ c ∈ p, c ∈ qBn := fun c hc => qSG (h c (List.mem_append_left _ hc)) fun e => hp (by rw [← e]; exact hc)
  have sl : ∀ c ∈ l, c ∈ qAn := fun c hc => h c (List.mem_append_right _ (.tail _ hc))
  have e1 : finF (p.foldl qAd qAc) = qCy p := qEb (f := none) sp
  rw [List.foldl_append, List.foldl_cons]
  unfold qCc
  rw [qDd l hp]
  cases hr : qCy p with
  | none =>
   rw [hr] at e1
   rw [qQl e1, qBJ, qEF]
   split
   ·rename_i a b e
    injection e with e1 e2
    rw [← e1, hr]
   ·rfl
  | some v =>
   rw [hr] at e1
   have hf : (p.foldl qAd qAc).front = none := by
    rcases qBT p qAc hp with q | q
    ·rw [q]; rfl
    ·exact q
   rw [qII e1 hf]
   by_cases h2 : 46 ∈ l
   ·refine oz22 (List.eq_append_cons_of_mem h2) fun q l2 zr1 hq => ?_
    subst zr1
    rw [List.foldl_append, List.foldl_cons, qDd l2 hq]
    have e2 : qAd (q.foldl qAd ⟨.ahead, 0, false, some v⟩) 46 = standLost := by
     rcases qBT q ⟨.ahead, 0, false, some v⟩ hq with z | z
     ·rw [z]; exact qD7 46
     ·exact qM9 z
    rw [e2, qBJ, qEF]
    cases e : cut 46 l2 with
    | nil => exact absurd e (qNb 46 l2)
    | cons x xs => rfl
   ·have sl' : ∀ c ∈ l, c ∈ qBn := fun c hc => qSG (sl c hc) fun e => h2 (by rw [← e]; exact hc)
    have e2 := qEb (f := some v) sl'
    rw [qDb h2]
    dsimp only
    rw [hr, ← e2]
    rcases qBT l ⟨.ahead, 0, false, some v⟩ h2 with z | z
    ·rw [z]; rfl
    ·rw [qJw z]
     cases finF (l.foldl qAd ⟨.ahead, 0, false, some v⟩) <;> rfl
 ·unfold qCc
  rw [qDb h1]
  dsimp only
  rcases qBT w qAc h1 with q | q
  ·rw [q]; rfl
  ·unfold qAC
   rw [q]; rfl
end
section
open PySem.NumText
noncomputable def digL (k : Nat) : List Nat := (Nat.toDigits 10 k).map Char.toNat
noncomputable def decL (n : Int) : List Nat := if n < 0 then 45 :: digL n.natAbs else digL n.natAbs
noncomputable def qAN (p : Int × Int) : List Nat := decL p.1 ++ 46 :: decL p.2
noncomputable def qA1 (ps : List (Int × Int)) : List Nat := glue 32 (ps.map qAN)
theorem qB2 (k : Nat) : AllDigits (digL k) := by
 intro c hc
 obtain ⟨ch, hch, e⟩ := List.mem_map.mp hc
 have r := digit_range (Nat.isDigit_of_mem_toDigits (by decide) (by decide) hch)
 rw [← e]; exact r
theorem qFs (k : Nat) : digL k ≠ [] := by
 intro e
 have h := toDigits_len_ge 10 k
 rw [List.map_eq_nil_iff.mp e] at h
 exact absurd h (by decide)
theorem qFr (k : Nat) : digitsVal (digL k) = k := KIN.val_back k
theorem qGs : ∀ {cs : List Nat}, AllDigits cs → (cs.map Char.ofNat).map Char.toNat = cs
 | [], _ => rfl
 | c :: cs, h => by
  have hc := h.head
  have key : ∀ d : Nat, d < 10 → (Char.ofNat (48 + d)).toNat = 48 + d := by decide
  have := key (c - 48) (by omega)
  rw [show 48 + (c - 48) = c by omega] at this
  rw [List.map_cons, List.map_cons, qGs h.tail, this]
theorem qNa {c : Nat} {cs : List Nat} (h : AllDigits (c :: cs)) (hc : 49 ≤ c) : digL (digitsVal (c :: cs)) = c :: cs := by
 unfold digL
 rw [toDigits_digitsVal cs.length (c :: cs) rfl h (.inr ⟨c, cs, rfl, hc⟩)]
 exact qGs h
theorem qGo {k : Nat} {cs : List Nat} (h : digL k = 48 :: cs) : cs = [] := by
 have a := qB2 k
 have e := toDigits_all (digL k) a
 rw [qFr] at e
 have e2 : (digL k).length = (Nat.toDigits 10 k).length := List.length_map ..
 rw [h] at e e2 a
 rw [List.dropWhile_cons, if_pos (show ((48 : Nat) == 48) = true from rfl)] at e
 have l1 : ∀ l : List Nat, (l.dropWhile (· == 48)).length ≤ l.length := len_dropWhile _
 have := l1 cs
 split at e
 ·rw [e] at e2
  have : cs.length = 0 := by simpa using e2
  exact List.length_eq_zero_iff.mp this
 ·rename_i x r q
  rw [e] at e2
  rw [q] at this
  simp at e2 this
  omega
theorem qFm {m : Bool} {f : Option Int} : ∀ {l : List Nat} {p : Part} {n : Nat}, AllDigits l → l ≠ [] → p.isBL = false → l.foldl qAd ⟨p, n, m, f⟩ = ⟨.figures, (l.foldl (fun acc c => acc * 10 + (c - 48)) n : Nat), m, f⟩
 | [], _, _, _, h, _ => absurd rfl h
 | c :: l, p, n, a, _, hp => by
  have hc := a.head
  have e : qAd ⟨p, n, m, f⟩ c = ⟨.figures, (n * 10 + (c - 48) : Nat), m, f⟩ := by
   unfold qAd
   have h1 : qA2 c = true := by unfold qA2; simp; omega
   dsimp only
   rw [if_pos (by rw [h1, hp]; rfl)]
   have : (10 * (n : Int) + ((c : Int) - 48)) = ((n * 10 + (c - 48) : Nat) : Int) := by omega
   rw [this]
  rw [List.foldl_cons, List.foldl_cons, e]
  cases l with
  | nil => rfl
  | cons d l => exact qFm a.tail (by simp) rfl
theorem qIL (n : Int) (f : Option Int) : (decL n).foldl qAd ⟨.ahead, 0, false, f⟩ = ⟨.figures, (n.natAbs : Int), decide (n < 0), f⟩ := by
 have dv : ∀ k : Nat, (digL k).foldl (fun acc c => acc * 10 + (c - 48)) 0 = k := qFr
 unfold decL
 split
 ·rename_i h
  rw [List.foldl_cons, show qAd ⟨.ahead, 0, false, f⟩ 45 = ⟨.sign, ((0 : Nat) : Int), true, f⟩ from rfl, qFm (qB2 _) (qFs _) rfl, dv, decide_eq_true h]
 ·rename_i h
  rw [show (⟨.ahead, 0, false, f⟩ : Stand) = ⟨.ahead, ((0 : Nat) : Int), false, f⟩ from rfl, qFm (qB2 _) (qFs _) rfl, dv, decide_eq_false h]
theorem qEB (n : Int) : qBv (decide (n < 0)) (n.natAbs : Int) = n := by
 unfold qBv
 split
 ·rename_i h
  have : n < 0 := of_decide_eq_true h
  omega
 ·rename_i h
  have : ¬ n < 0 := fun q => h (decide_eq_true q)
  omega
theorem qLC (p : Int × Int) : (qAN p).foldl qAd qAc = ⟨.figures, (p.2.natAbs : Int), decide (p.2 < 0), some p.1⟩ := by
 unfold qAN
 rw [List.foldl_append, List.foldl_cons]
 rw [show qAc = ⟨.ahead, 0, false, none⟩ from rfl, qIL, qII (v := p.1) (by unfold finF; exact congrArg some (qEB p.1)) rfl, qIL]
theorem qC5 (p : Int × Int) : qAC ((qAN p).foldl qAd qAc) = some p := by
 rw [qLC]
 show some (p.1, qBv (decide (p.2 < 0)) (p.2.natAbs : Int)) = some p
 rw [qEB]
def bare (c : Nat) : Prop := c = 45 ∨ c = 46 ∨ (48 ≤ c ∧ c ≤ 57)
theorem qDI (n : Int) : ∀ c ∈ decL n, c = 45 ∨ (48 ≤ c ∧ c ≤ 57) := by
 intro c hc
 unfold decL at hc
 split at hc
 ·rcases lc hc with rfl | hc
  ·exact .inl rfl
  ·exact .inr (qB2 _ c hc)
 ·exact .inr (qB2 _ c hc)
theorem qA8 (p : Int × Int) : ∀ c ∈ qAN p, bare c := by
 intro c hc
 rcases List.mem_append.mp hc with hc | hc
 ·exact (qDI _ c hc).imp id .inr
 ·rcases lc hc with rfl | hc
  ·exact .inr (.inl rfl)
  ·exact (qDI _ c hc).imp id .inr
theorem qE9 (p : Int × Int) : qAN p ≠ [] := by unfold qAN; simp
theorem qDf {c : Nat} (h : bare c) : c ∈ qAn := by
 have key : ∀ d : Nat, d < 10 → 48 + d ∈ qAn := by decide
 rcases h with rfl | rfl | h
 ·decide
 ·decide
 ·have := key (c - 48) (by omega)
  rwa [show 48 + (c - 48) = c by omega] at this
theorem qJM {ps : List (List Nat)} {c : Nat} (hc : c ∈ qAn) (h : ∀ p ∈ ps, ∀ d ∈ p, d ∈ qAn) : ∀ d ∈ glue c ps, d ∈ qAn := by
 induction ps with
 | nil => intro d hd; cases hd
 | cons p ps ih =>
  cases ps with
  | nil => exact fun d hd => h p (.head _) d hd
  | cons q ps =>
   intro d hd
   rcases List.mem_append.mp hd with hd | hd
   ·exact h p (.head _) d hd
   ·rcases lc hd with rfl | hd
    ·exact hc
    ·exact ih (fun r hr => h r (.tail _ hr)) d hd
theorem qJC (ps : List (Int × Int)) : ∀ d ∈ qA1 ps, d ∈ qAn := qJM (by decide) fun p hp d hd => by
 obtain ⟨q, _, rfl⟩ := List.mem_map.mp hp
 exact qDf (qA8 q d hd)
theorem qGx {D : Due} {c : Nat} (hc : bare c) (hm : D.mode = .gap ∨ D.mode = .word) : qAe D c = ⟨.word, qAd D.stand c, D.places⟩ := by
 have h1 : isWs c = false := by
  unfold isWs
  have : c ≠ 32 ∧ c ≠ 9 ∧ c ≠ 10 ∧ c ≠ 13 := by rcases hc with rfl | rfl | h <;> omega
  simp [this]
 have h2 : (c == 39) = false := by
  have : c ≠ 39 := by rcases hc with rfl | rfl | h <;> omega
  simpa using this
 have h3 : (c == 34) = false := by
  have : c ≠ 34 := by rcases hc with rfl | rfl | h <;> omega
  simpa using this
 have h4 : (c == 92) = false := by
  have : c ≠ 92 := by rcases hc with rfl | rfl | h <;> omega
  simpa using this
 unfold qAe
 rcases hm with h | h <;> rw [h] <;> simp only [h1, h2, h3, h4, Bool.false_eq_true, if_false]
theorem qGy : ∀ {w : List Nat} {D : Due}, (∀ c ∈ w, bare c) → D.mode = .word → w.foldl qAe D = ⟨.word, w.foldl qAd D.stand, D.places⟩
 | [], ⟨_, _, _⟩, _, rfl => rfl
 | c :: w, D, h, hm => by
  rw [List.foldl_cons, List.foldl_cons, qGx (h c (.head _)) (.inr hm), qGy (fun d hd => h d (.tail _ hd)) rfl]
theorem qGw {w : List Nat} {D : Due} (h : ∀ c ∈ w, bare c) (hw : w ≠ []) (hm : D.mode = .gap) : w.foldl qAe D = ⟨.word, w.foldl qAd D.stand, D.places⟩ := by
 cases w with
 | nil => exact absurd rfl hw
 | cons c w => rw [List.foldl_cons, List.foldl_cons, qGx (h c (.head _)) (.inl hm), qGy (fun d hd => h d (.tail _ hd)) rfl]
theorem qIi : ∀ (ps : List (Int × Int)) (xs : List OI), qBA ((qA1 ps).foldl qAe ⟨.gap, qAc, xs⟩) = (xs ++ ps.map some, none)
 | [], xs => by
  show (xs, none) = _
  simp
 | [p], xs => by
  show qBA ((qAN p).foldl qAe _) = _
  rw [qGw (qA8 p) (qE9 p) rfl]
  show (xs ++ [qAC ((qAN p).foldl qAd qAc)], none) = _
  rw [qC5]; rfl
 | p :: q :: ps, xs => by
  show qBA ((qAN p ++ 32 :: qA1 (q :: ps)).foldl qAe _) = _
  rw [List.foldl_append, List.foldl_cons, qGw (qA8 p) (qE9 p) rfl]
  show qBA ((qA1 (q :: ps)).foldl qAe ⟨.gap, qAc, xs ++ [qAC ((qAN p).foldl qAd qAc)]⟩) = _
  rw [qIi (q :: ps), qC5]
  simp
theorem qL6 (ps : List (Int × Int)) : dueF (qA1 ps) = (ps.map some, none) := by
 have := qIi ps []
 rw [List.nil_append] at this
 exact this
noncomputable def qAG (h : List Nat) : Bool :=
 let fg := if h.take 1 == [45] then h.drop 1 else h
 !fg.isEmpty && fg.all qA2 && !(fg.head? == some 48 && h != [48])
noncomputable def qAz (w : List Nat) : Bool := match cut 46 w with
 | [p, q] => qAG p && qAG q
 | _ => false
noncomputable def qB7 (T : List Nat) : Bool := T.isEmpty || (cut 32 T).all qAz
theorem qID {l : List Nat} (h : l.all qA2 = true) : AllDigits l := by
 intro c hc
 have := List.all_eq_true.mp h c hc
 unfold qA2 at this
 simpa using this
theorem qIU {l : List Nat} (h : AllDigits l) : l.all qA2 = true := by
 rw [List.all_eq_true]
 intro c hc
 have := h c hc
 unfold qA2
 simpa using this
theorem qMq {h : List Nat} (e : qAG h = true) : ∃ n, h = decL n := by
 unfold qAG at e
 by_cases q : (h.take 1 == [45]) = true
 ·simp only [q, if_true] at e
  cases h with
  | nil => simp at q
  | cons c fg =>
   have hc : c = 45 := by simpa using q
   subst hc
   simp only [List.drop_succ_cons, List.drop_zero, Bool.and_eq_true, Bool.not_eq_true'] at e
   obtain ⟨⟨e1, e2⟩, e3⟩ := e
   have a := qID e2
   cases fg with
   | nil => cases e1
   | cons d fg =>
    have hd := a.head
    have hne : d ≠ 48 := by
     intro z
     subst z
     simp at e3
    have dl := qNa a (by omega)
    have dp := digitsVal_pos (cs := fg) (show 49 ≤ d by omega)
    refine ⟨-(digitsVal (d :: fg) : Int), ?_⟩
    unfold decL
    rw [if_pos (by omega), show (-(digitsVal (d :: fg) : Int)).natAbs = digitsVal (d :: fg) by omega, dl]
 ·simp only [q, if_false] at e
  simp only [Bool.and_eq_true, Bool.not_eq_true', Bool.false_eq_true, if_false] at e
  obtain ⟨⟨e1, e2⟩, e3⟩ := e
  have a := qID e2
  cases h with
  | nil => cases e1
  | cons d fg =>
   have hd := a.head
   by_cases z : d = 48
   ·subst z
    have : fg = [] := by simpa using e3
    subst this
    exact ⟨0, by decide⟩
   ·have dl := qNa a (by omega)
    refine ⟨(digitsVal (d :: fg) : Int), ?_⟩
    unfold decL
    rw [if_neg (by omega), show ((digitsVal (d :: fg) : Int)).natAbs = digitsVal (d :: fg) by omega, dl]
theorem qIt (n : Int) : qAG (decL n) = true := by
 unfold decL
 split
 ·rename_i h
  have a := qB2 n.natAbs
  have ne := qFs n.natAbs
  unfold qAG
  cases e : digL n.natAbs with
  | nil => exact absurd e ne
  | cons c cs =>
   rw [e] at a
   have hc : c ≠ 48 := by
    intro z
    subst z
    have := qGo e
    subst this
    have v := qFr n.natAbs
    rw [e] at v
    have : n.natAbs = 0 := v.symm
    omega
   simp [qIU a, hc]
 ·rename_i h
  have a := qB2 n.natAbs
  have ne := qFs n.natAbs
  unfold qAG
  cases e : digL n.natAbs with
  | nil => exact absurd e ne
  | cons c cs =>
   rw [e] at a
   have h45 : c ≠ 45 := by have := a.head; omega
   have f1 : ((c :: cs).take 1 == [45]) = false := by simpa using h45
   simp only [f1, Bool.false_eq_true, if_false, qIU a, Bool.and_true]
   by_cases z : c = 48
   ·subst z
    have := qGo e
    subst this
    rfl
   ·simp [z]
theorem qIK (n : Int) : 46 ∉ decL n ∧ 32 ∉ decL n := ⟨fun h => by have := qDI n _ h; omega, fun h => by have := qDI n _ h; omega⟩
theorem qKh (p : Int × Int) : qAz (qAN p) = true := by
 unfold qAz qAN
 rw [qDd _ (qIK p.1).1, qDb (qIK p.2).1]
 dsimp only
 rw [qIt, qIt]; rfl
theorem qRa {w : List Nat} (h : qAz w = true) : ∃ p, w = qAN p := by
 unfold qAz at h
 split at h
 ·rename_i x y e
  rw [Bool.and_eq_true] at h
  obtain ⟨a, ea⟩ := qMq h.1
  obtain ⟨b, eb⟩ := qMq h.2
  have g := qFk 46 w
  rw [e] at g
  exact ⟨(a, b), by rw [← g, ea, eb]; rfl⟩
 ·cases h
theorem qJs (ps : List (Int × Int)) : qB7 (qA1 ps) = true := by
 unfold qB7
 cases ps with
 | nil => rfl
 | cons p ps =>
  have h2 : (cut 32 (qA1 (p :: ps))) = (p :: ps).map qAN := qFt (by simp) fun q hq => by
   obtain ⟨r, _, rfl⟩ := List.mem_map.mp hq
   intro hm
   have := qA8 r _ hm
   unfold bare at this
   omega
  rw [h2, Bool.or_eq_true]
  right
  rw [List.all_eq_true]
  intro w hw
  obtain ⟨r, _, rfl⟩ := List.mem_map.mp hw
  exact qKh r
theorem qHQ : ∀ {ws : List (List Nat)}, ws.all qAz = true → ∃ ps : List (Int × Int), ws = ps.map qAN
 | [], _ => ⟨[], rfl⟩
 | w :: ws, h => by
  rw [List.all_cons, Bool.and_eq_true] at h
  obtain ⟨p, e⟩ := qRa h.1
  obtain ⟨ps, e2⟩ := qHQ h.2
  exact ⟨p :: ps, by rw [e, e2]; rfl⟩
theorem qSn {T : List Nat} (h : qB7 T = true) : ∃ ps, T = qA1 ps := by
 unfold qB7 at h
 rw [Bool.or_eq_true] at h
 rcases h with h | h
 ·exact ⟨[], by rw [List.isEmpty_iff.mp h]; rfl⟩
 ·obtain ⟨ps, e⟩ := qHQ h
  exact ⟨ps, by unfold qA1; rw [← e, qFk]⟩
theorem qLt {T : List Nat} {ps : List (Int × Int)} (h : dueF T = (ps.map some, none)) : (qA1 ps == T) = qB7 T := by
 cases e : qB7 T with
 | true =>
  obtain ⟨qs, rfl⟩ := qSn e
  rw [qL6] at h
  have : qs = ps := by
   have h := (Prod.mk.inj h).1
   exact List.map_inj_right (fun a b hab => Option.some.inj hab) |>.mp h
  rw [this]; simp
 | false =>
  rw [beq_eq_false_iff_ne]
  intro z
  rw [← z, qJs] at e
  cases e
end
section
open PySem.NumText
noncomputable def stOf (w : List Nat) : Stand := w.foldl qAd qAc
theorem qBR (w : List Nat) (c : Nat) : stOf (w ++ [c]) = qAd (stOf w) c := by unfold stOf; rw [List.foldl_append]; rfl
noncomputable def qNr (ps : List OI) : TokOut → List OI × Option Bool
 | .eof => (ps, none)
 | .bad b => ([], some b)
 | .word w none => (ps ++ [qAC (stOf w)], none)
 | .word w (some l) => qBA (l.foldl qAe ⟨.gap, qAc, ps ++ [qAC (stOf w)]⟩)
theorem qKs : ∀ (l : List Nat) (m : Mode) (w : List Nat) (ps : List OI), (m = .gap → w = []) → qBA (l.foldl qAe ⟨m, stOf w, ps⟩) = qNr ps (tokF m w l)
 | [], m, w, ps, _ => by cases m <;> rfl
 | c :: l, m, w, ps, hm => by
  have go : ∀ {m' : Mode} {w' : List Nat}, qAf m w c = some (m', w') → qAe ⟨m, stOf w, ps⟩ c = ⟨m', stOf w', ps⟩ → (m' = .gap → w' = []) → qBA ((c :: l).foldl qAe ⟨m, stOf w, ps⟩) = qNr ps (tokF m w (c :: l)) := by
   intro m' w' h1 h2 h3
   have e : tokF m w (c :: l) = tokF m' w' l := by
    show (match qAf m w c with | some (m', w') => tokF m' w' l | none => TokOut.word w (some l)) = _
    rw [h1]
   rw [List.foldl_cons, h2, e]
   exact qKs l m' w' ps h3
  cases m with
  | gap =>
   have hw := hm rfl
   subst hw
   by_cases h1 : isWs c = true
   ·exact go (m' := .gap) (w' := []) (by simp only [qAf, h1, if_true]) (by simp only [qAe, h1, if_true]; rfl) fun _ => rfl
   by_cases h2 : (c == 39) = true
   ·exact go (m' := .sq) (w' := []) (by simp only [qAf, h1, h2, if_true, if_false, Bool.false_eq_true]) (by simp only [qAe, h1, h2, if_true, if_false, Bool.false_eq_true]) nofun
   by_cases h3 : (c == 34) = true
   ·exact go (m' := .dq) (w' := []) (by simp only [qAf, h1, h2, h3, if_true, if_false, Bool.false_eq_true]) (by simp only [qAe, h1, h2, h3, if_true, if_false, Bool.false_eq_true]) nofun
   by_cases h4 : (c == 92) = true
   ·exact go (m' := .kept) (w' := []) (by simp only [qAf, h1, h2, h3, h4, if_true, if_false, Bool.false_eq_true]) (by simp only [qAe, h1, h2, h3, h4, if_true, if_false, Bool.false_eq_true]) nofun
   ·exact go (m' := .word) (w' := [c]) (by simp only [qAf, h1, h2, h3, h4, if_false, Bool.false_eq_true]) (by simp only [qAe, h1, h2, h3, h4, if_false, Bool.false_eq_true]; rfl) nofun
  | word =>
   by_cases h1 : isWs c = true
   ·have e : tokF .word w (c :: l) = .word w (some l) := by
     show (match qAf .word w c with | some (m', w') => tokF m' w' l | none => TokOut.word w (some l)) = _
     simp only [qAf, h1, if_true]
    rw [e, List.foldl_cons]
    simp only [qAe, h1, if_true]
    rfl
   by_cases h2 : (c == 39) = true
   ·exact go (m' := .sq) (w' := w) (by simp only [qAf, h1, h2, if_true, if_false, Bool.false_eq_true]) (by simp only [qAe, h1, h2, if_true, if_false, Bool.false_eq_true]) nofun
   by_cases h3 : (c == 34) = true
   ·exact go (m' := .dq) (w' := w) (by simp only [qAf, h1, h2, h3, if_true, if_false, Bool.false_eq_true]) (by simp only [qAe, h1, h2, h3, if_true, if_false, Bool.false_eq_true]) nofun
   by_cases h4 : (c == 92) = true
   ·exact go (m' := .kept) (w' := w) (by simp only [qAf, h1, h2, h3, h4, if_true, if_false, Bool.false_eq_true]) (by simp only [qAe, h1, h2, h3, h4, if_true, if_false, Bool.false_eq_true]) nofun
   ·exact go (m' := .word) (w' := w ++ [c]) (by simp only [qAf, h1, h2, h3, h4, if_false, Bool.false_eq_true]) (by simp only [qAe, h1, h2, h3, h4, if_false, Bool.false_eq_true, qBR]) nofun
  | sq =>
   by_cases h2 : (c == 39) = true
   ·exact go (m' := .word) (w' := w) (by simp only [qAf, h2, if_true]) (by simp only [qAe, h2, if_true]) nofun
   ·exact go (m' := .sq) (w' := w ++ [c]) (by simp only [qAf, h2, if_false, Bool.false_eq_true]) (by simp only [qAe, h2, if_false, Bool.false_eq_true, qBR]) nofun
  | dq =>
   by_cases h2 : (c == 34) = true
   ·exact go (m' := .word) (w' := w) (by simp only [qAf, h2, if_true]) (by simp only [qAe, h2, if_true]) nofun
   by_cases h3 : (c == 92) = true
   ·exact go (m' := .within) (w' := w) (by simp only [qAf, h2, h3, if_true, if_false, Bool.false_eq_true]) (by simp only [qAe, h2, h3, if_true, if_false, Bool.false_eq_true]) nofun
   ·exact go (m' := .dq) (w' := w ++ [c]) (by simp only [qAf, h2, h3, if_false, Bool.false_eq_true]) (by simp only [qAe, h2, h3, if_false, Bool.false_eq_true, qBR]) nofun
  | kept => exact go (m' := .word) (w' := w ++ [c]) rfl (by simp only [qAe, qBR]) nofun
  | within =>
   by_cases h2 : (c == 34 || c == 92) = true
   ·exact go (m' := .dq) (w' := w ++ [c]) (by simp only [qAf, h2, if_true]) (by simp only [qAe, h2, if_true, qBR]) nofun
   ·exact go (m' := .dq) (w' := (w ++ [92]) ++ [c]) (by simp only [qAf, h2, if_false, Bool.false_eq_true]) (by simp only [qAe, h2, if_false, Bool.false_eq_true, qBR]) nofun
noncomputable def qC8 (x : List (List Nat) × Option Bool) (ps : List OI) : List OI × Option Bool := match x.2 with
 | some b => ([], some b)
 | none => (ps ++ x.1.map (fun w => qAC (stOf w)), none)
theorem qMb : ∀ (k : Nat) (l : List Nat) (ps : List OI), l.length < k → qBA (l.foldl qAe ⟨.gap, qAc, ps⟩) = qC8 (lexF k (some l)) ps
 | 0, l, ps, h => absurd h (Nat.not_lt_zero _)
 | k + 1, l, ps, h => by
  have e0 : qBA (l.foldl qAe ⟨.gap, qAc, ps⟩) = qNr ps (tokF .gap [] l) := qKs l .gap [] ps fun _ => rfl
  have e1 : lexF (k + 1) (some l) = (match tokF .gap [] l with | .eof => ([], none) | .bad b => ([], some b) | .word w r => (w :: (lexF k r).1, (lexF k r).2)) := rfl
  rw [e0, e1]
  cases ht : tokF .gap [] l with
  | eof =>
   show (ps, none) = (ps ++ [], none)
   rw [List.append_nil]
  | bad b => rfl
  | word w r =>
   cases r with
   | none =>
    have e2 : lexF k none = ([], none) := by cases k <;> rfl
    show (ps ++ [qAC (stOf w)], none) = qC8 (w :: (lexF k none).1, (lexF k none).2) ps
    rw [e2]; rfl
   | some l' =>
    have hl := (qDA ht).1
    show qBA (l'.foldl qAe ⟨.gap, qAc, ps ++ [qAC (stOf w)]⟩) = qC8 (w :: (lexF k (some l')).1, (lexF k (some l')).2) ps
    rw [qMb k l' _ (by omega)]
    unfold qC8
    dsimp only
    cases (lexF k (some l')).2 with
    | some b => rfl
    | none =>
     dsimp only
     rw [List.append_assoc]; rfl
theorem qHU : ∀ {l : List Nat} {m : Mode} {w w' : List Nat} {r : Option (List Nat)}, tokF m w l = .word w' r → (∀ c ∈ w', c ∈ w ∨ c ∈ l ∨ c = 92) ∧ w'.length ≤ w.length + l.length + (if m = .within then 1 else 0)
 | [], m, w, w', r, h => by
  cases m <;> cases h
  exact ⟨fun c hc => .inl hc, by simp⟩
 | c :: l, m, w, w', r, h => by
  have h : (match qAf m w c with | some (m', w') => tokF m' w' l | none => TokOut.word w (some l)) = .word w' r := h
  have go : ∀ {m' : Mode} {v : List Nat}, qAf m w c = some (m', v) → (∀ d ∈ v, d ∈ w ∨ d = c ∨ d = 92) → v.length + (if m' = .within then 1 else 0) ≤ w.length + 1 + (if m = .within then 1 else 0) → (∀ d ∈ w', d ∈ w ∨ d ∈ c :: l ∨ d = 92) ∧ w'.length ≤ w.length + (c :: l).length + (if m = .within then 1 else 0) := by
   intro m' v h1 h2 h3
   rw [h1] at h
   obtain ⟨a, b⟩ := qHU h
   refine ⟨fun d hd => ?_, ?_⟩
   ·rcases a d hd with q | q | q
    ·rcases h2 d q with z | z | z
     ·exact .inl z
     ·exact .inr (.inl (by rw [z]; exact .head _))
     ·exact .inr (.inr z)
    ·exact .inr (.inl (.tail _ q))
    ·exact .inr (.inr q)
   ·rw [List.length_cons]; omega
  have same : ∀ d ∈ w, d ∈ w ∨ d = c ∨ d = 92 := fun d hd => .inl hd
  have snoc : ∀ d ∈ w ++ [c], d ∈ w ∨ d = c ∨ d = 92 := fun d hd => by
   rcases List.mem_append.mp hd with q | q
   ·exact .inl q
   ·exact .inr (.inl (ls q))
  have snoc2 : ∀ d ∈ (w ++ [92]) ++ [c], d ∈ w ∨ d = c ∨ d = 92 := fun d hd => by
   rcases List.mem_append.mp hd with q | q
   ·rcases List.mem_append.mp q with q | q
    ·exact .inl q
    ·exact .inr (.inr (ls q))
   ·exact .inr (.inl (ls q))
  have none_ : ∀ d ∈ ([] : List Nat), d ∈ w ∨ d = c ∨ d = 92 := fun d hd => nomatch hd
  have one_ : ∀ d ∈ [c], d ∈ w ∨ d = c ∨ d = 92 := fun d hd => .inr (.inl (ls hd))
  cases m with
  | gap =>
   by_cases h1 : isWs c = true
   ·exact go (m' := .gap) (v := []) (by simp only [qAf, h1, if_true]) none_ (by simp)
   by_cases h2 : (c == 39) = true
   ·exact go (m' := .sq) (v := []) (by simp only [qAf, h1, h2, if_true, if_false, Bool.false_eq_true]) none_ (by simp)
   by_cases h3 : (c == 34) = true
   ·exact go (m' := .dq) (v := []) (by simp only [qAf, h1, h2, h3, if_true, if_false, Bool.false_eq_true]) none_ (by simp)
   by_cases h4 : (c == 92) = true
   ·exact go (m' := .kept) (v := []) (by simp only [qAf, h1, h2, h3, h4, if_true, if_false, Bool.false_eq_true]) none_ (by simp)
   ·exact go (m' := .word) (v := [c]) (by simp only [qAf, h1, h2, h3, h4, if_false, Bool.false_eq_true]) one_ (by simp)
  | word =>
   by_cases h1 : isWs c = true
   ·simp only [qAf, h1, if_true] at h
    cases h
    exact ⟨fun d hd => .inl hd, by omega⟩
   by_cases h2 : (c == 39) = true
   ·exact go (m' := .sq) (v := w) (by simp only [qAf, h1, h2, if_true, if_false, Bool.false_eq_true]) same (by simp)
   by_cases h3 : (c == 34) = true
   ·exact go (m' := .dq) (v := w) (by simp only [qAf, h1, h2, h3, if_true, if_false, Bool.false_eq_true]) same (by simp)
   by_cases h4 : (c == 92) = true
   ·exact go (m' := .kept) (v := w) (by simp only [qAf, h1, h2, h3, h4, if_true, if_false, Bool.false_eq_true]) same (by simp)
   ·exact go (m' := .word) (v := w ++ [c]) (by simp only [qAf, h1, h2, h3, h4, if_false, Bool.false_eq_true]) snoc (by simp)
  | sq =>
   by_cases h2 : (c == 39) = true
   ·exact go (m' := .word) (v := w) (by simp only [qAf, h2, if_true]) same (by simp)
   ·exact go (m' := .sq) (v := w ++ [c]) (by simp only [qAf, h2, if_false, Bool.false_eq_true]) snoc (by simp)
  | dq =>
   by_cases h2 : (c == 34) = true
   ·exact go (m' := .word) (v := w) (by simp only [qAf, h2, if_true]) same (by simp)
   by_cases h3 : (c == 92) = true
   ·exact go (m' := .within) (v := w) (by simp only [qAf, h2, h3, if_true, if_false, Bool.false_eq_true]) same (by simp)
   ·exact go (m' := .dq) (v := w ++ [c]) (by simp only [qAf, h2, h3, if_false, Bool.false_eq_true]) snoc (by simp)
  | kept => exact go (m' := .word) (v := w ++ [c]) rfl snoc (by simp)
  | within =>
   by_cases h2 : (c == 34 || c == 92) = true
   ·exact go (m' := .dq) (v := w ++ [c]) (by simp only [qAf, h2, if_true]) snoc (by simp)
   ·exact go (m' := .dq) (v := (w ++ [92]) ++ [c]) (by simp only [qAf, h2, if_false, Bool.false_eq_true]) snoc2 (by simp)
theorem qD9 : ∀ (k : Nat) {l : List Nat} {N : Nat}, (∀ c ∈ l, c ∈ qAn) → l.length ≤ N → ∀ wd ∈ (lexF k (some l)).1, (∀ c ∈ wd, c ∈ qAn) ∧ wd.length ≤ N
 | 0, l, N, h, hl, wd, hw => nomatch hw
 | k + 1, l, N, h, hl, wd, hw => by
  have e1 : lexF (k + 1) (some l) = (match tokF .gap [] l with | .eof => ([], none) | .bad b => ([], some b) | .word w r => (w :: (lexF k r).1, (lexF k r).2)) := rfl
  rw [e1] at hw
  cases ht : tokF .gap [] l with
  | eof => rw [ht] at hw; nomatch hw
  | bad b => rw [ht] at hw; nomatch hw
  | word w r =>
   rw [ht] at hw
   rcases lc hw with rfl | hw
   ·obtain ⟨a, b⟩ := qHU ht
    refine ⟨fun c hc => ?_, by simp at b; omega⟩
    rcases a c hc with q | q | q
    ·nomatch q
    ·exact h c q
    ·rw [q]; decide
   ·cases r with
    | none =>
     have e2 : lexF k none = ([], none) := by cases k <;> rfl
     rw [e2] at hw; nomatch hw
    | some l' =>
     obtain ⟨r1, r2⟩ := qDA ht
     exact qD9 k (fun c hc => h c (r2 c hc)) (by omega) wd hw
theorem qF7 : ∀ (k : Nat) (r : Option (List Nat)), (lexF k r).1.length ≤ k
 | 0, r => Nat.le_refl _
 | k + 1, none => Nat.zero_le _
 | k + 1, some l => by
  have e1 : lexF (k + 1) (some l) = (match tokF .gap [] l with | .eof => ([], none) | .bad b => ([], some b) | .word w r => (w :: (lexF k r).1, (lexF k r).2)) := rfl
  rw [e1]
  cases tokF .gap [] l with
  | eof => exact Nat.zero_le _
  | bad b => exact Nat.zero_le _
  | word w r => exact Nat.succ_le_succ (qF7 k r)
theorem qIN {c : Nat} (h : bare c) : isWs c = false ∧ (c == 39) = false ∧ (c == 34) = false ∧ (c == 92) = false := by
 have h1 : isWs c = false := by
  unfold isWs
  have : c ≠ 32 ∧ c ≠ 9 ∧ c ≠ 10 ∧ c ≠ 13 := by rcases h with rfl | rfl | h <;> omega
  simp [this]
 have h2 : c ≠ 39 ∧ c ≠ 34 ∧ c ≠ 92 := by rcases h with rfl | rfl | h <;> omega
 simp [h1, h2]
theorem qHX : ∀ {w : List Nat} {v l : List Nat}, (∀ c ∈ w, bare c) → tokF .word v (w ++ l) = tokF .word (v ++ w) l
 | [], v, l, _ => by rw [List.nil_append, List.append_nil]
 | c :: w, v, l, h => by
  obtain ⟨h1, h2, h3, h4⟩ := qIN (h c (.head _))
  have e : qAf .word v c = some (.word, v ++ [c]) := by simp only [qAf, h1, h2, h3, h4, if_false, Bool.false_eq_true]
  show (match qAf .word v c with | some (m', w') => tokF m' w' (w ++ l) | none => TokOut.word v (some (w ++ l))) = _
  rw [e]
  dsimp only
  rw [qHX fun d hd => h d (.tail _ hd), List.append_assoc]; rfl
theorem qFL {w l : List Nat} (h : ∀ c ∈ w, bare c) (hw : w ≠ []) : tokF .gap [] (w ++ l) = tokF .word w l := by
 cases w with
 | nil => exact absurd rfl hw
 | cons c w =>
  obtain ⟨h1, h2, h3, h4⟩ := qIN (h c (.head _))
  have e : qAf .gap [] c = some (.word, [c]) := by simp only [qAf, h1, h2, h3, h4, if_false, Bool.false_eq_true]
  show (match qAf .gap [] c with | some (m', w') => tokF m' w' (w ++ l) | none => TokOut.word [] (some (w ++ l))) = _
  rw [e]
  dsimp only
  rw [qHX fun d hd => h d (.tail _ hd)]; rfl
theorem qFd : ∀ (k : Nat) (ps : List (Int × Int)), ps.length < k → lexF k (some (qA1 ps)) = (ps.map qAN, none)
 | 0, _, h => absurd h (Nat.not_lt_zero _)
 | k + 1, [], h => rfl
 | k + 1, [p], h => by
  have e : tokF .gap [] (qA1 [p]) = .word (qAN p) none := by
   show tokF .gap [] (qAN p) = _
   have := qFL (l := []) (qA8 p) (qE9 p)
   rw [List.append_nil] at this
   rw [this]; rfl
  show (match tokF .gap [] (qA1 [p]) with | .eof => ([], none) | .bad b => ([], some b) | .word w r => (w :: (lexF k r).1, (lexF k r).2)) = _
  rw [e]
  have e2 : lexF k none = ([], none) := by cases k <;> rfl
  dsimp only
  rw [e2]; rfl
 | k + 1, p :: q :: ps, h => by
  have e : tokF .gap [] (qA1 (p :: q :: ps)) = .word (qAN p) (some (qA1 (q :: ps))) := by
   show tokF .gap [] (qAN p ++ 32 :: qA1 (q :: ps)) = _
   rw [qFL (qA8 p) (qE9 p)]; rfl
  show (match tokF .gap [] (qA1 (p :: q :: ps)) with | .eof => ([], none) | .bad b => ([], some b) | .word w r => (w :: (lexF k r).1, (lexF k r).2)) = _
  rw [e]
  dsimp only
  rw [qFd k (q :: ps) (by simp at h ⊢; omega)]; rfl
theorem qFc : ∀ ps : List (Int × Int), ps.length ≤ (qA1 ps).length + 1
 | [] => by simp
 | [p] => by simp
 | p :: q :: ps => by
  have ih := qFc (q :: ps)
  show _ ≤ (qAN p ++ 32 :: qA1 (q :: ps)).length + 1
  simp only [List.length_append, List.length_cons] at ih ⊢
  omega
end
section
open PySem.NumText
theorem qAL (w : List Nat) : (strL w).cps.toList = w := by unfold strL; simp
theorem qIJ : ("." : Str) = ⟨#[46]⟩ := by decide
theorem qRq : (" " : Str) = ⟨#[32]⟩ := by decide
theorem qFE {wd : List Nat} (h : ∀ c ∈ wd, c ∈ qAn) (hl : wd.length ≤ 4300) : qBD wd = qCc wd := by
 have e := qCf (strL wd) 46
 rw [qAL] at e
 unfold qBD qCc
 rw [qIJ, ← e]
 have half : ∀ x ∈ Txt.split (strL wd) ⟨#[46]⟩, PySem.intText? x = qCy x.cps.toList := fun x hx => by
  have m : x.cps.toList ∈ cut 46 wd := by rw [← e]; exact List.mem_map_of_mem (f := fun y : Str => y.cps.toList) hx
  refine qPA (fun c hc => qSG (h c (qEj 46 wd _ m c hc)) fun q => ?_) (Nat.le_trans (qDc 46 wd _ m) hl)
  subst q
  exact qDJ 46 wd _ m hc
 generalize Txt.split (strL wd) ⟨#[46]⟩ = l at half
 match l, half with
 | [], _ => rfl
 | [x], _ => rfl
 | [x, y], half =>
  show (match PySem.intText? x, PySem.intText? y with | some a, some b => some (a, b) | _, _ => none) = (match qCy x.cps.toList, qCy y.cps.toList with | some a, some b => some (a, b) | _, _ => none)
  rw [half x (.head _), half y (.tail _ (.head _))]
 | x :: y :: z :: l, _ => rfl
theorem qNG {x : Str} (h : ∀ c ∈ x.cps.toList, c ∈ qAn) (hl : x.cps.toList.length ≤ 4300) : qEq x = dueF x.cps.toList := by
 have e := qMb (x.cps.toList.length + 2) x.cps.toList [] (by omega)
 unfold qEq dueF
 rw [e]
 have hw := qD9 (x.cps.toList.length + 2) h hl
 show (match (qBx x).2 with | some b => ([], some b) | none => ((qBx x).1.map qBD, none)) = qC8 (qBx x) []
 unfold qC8
 cases (qBx x).2 with
 | some b => rfl
 | none =>
  dsimp only
  rw [List.nil_append]
  congr 1
  refine List.map_congr_left fun w hm => ?_
  have a := hw w hm
  rw [qFE a.1 a.2]
  exact (qEw a.1).symm
theorem qLr (q : Nat) {c : Nat} (h : c ∈ qAn) (hq : q = 34 ∨ q = 39) : (Builtin.Str.reprChar q c).length ≤ 2 := by
 have : ∀ q ∈ [34, 39], ∀ c ∈ qAn, (Builtin.Str.reprChar q c).length ≤ 2 := by decide +kernel
 exact this q (by rcases hq with rfl | rfl <;> decide) c h
theorem qJn (x : Str) : reprQuote x = 34 ∨ reprQuote x = 39 := by
 unfold reprQuote
 split <;> simp
theorem qIx (q : Nat) (hq : q = 34 ∨ q = 39) : ∀ (l : List Nat) (n : Nat), (∀ c ∈ l, c ∈ qAn) → l.foldl (fun n c => n + (Builtin.Str.reprChar q c).length) n ≤ n + 2 * l.length
 | [], n, _ => by simp
 | c :: l, n, h => by
  have a := qLr q (h c (.head _)) hq
  have b := qIx q hq l (n + (Builtin.Str.reprChar q c).length) fun d hd => h d (.tail _ hd)
  rw [List.foldl_cons, List.length_cons]
  omega
theorem qOD {x : Str} (h : ∀ c ∈ x.cps.toList, c ∈ qAn) : (reprText x).length ≤ 2 + 2 * x.cps.toList.length := by
 rw [← reprLen_eq, ← Array.foldl_toList]
 exact qIx _ (qJn x) _ _ h
theorem qAZ (x : Str) : x.length = x.cps.toList.length := by
 show x.cps.size = _
 simp
theorem qFF {wd : List Nat} (h : ∀ c ∈ wd, c ∈ qAn) (hp : ∀ p ∈ cut 46 wd, p.length ≤ 640) (hl : wd.length ≤ 100000) : (strL wd).length + 2 ≤ sizeLine ∧ ∀ y ∈ Txt.split (strL wd) ".", y.length ≤ 640 ∧ (reprText y).length ≤ sizeLine := by
 rw [qCp, sizeLine_eq]
 refine ⟨by omega, fun y hy => ?_⟩
 have e := qCf (strL wd) 46
 rw [qAL] at e
 rw [qIJ] at hy
 have m : y.cps.toList ∈ cut 46 wd := by rw [← e]; exact List.mem_map_of_mem (f := fun y : Str => y.cps.toList) hy
 have a := hp _ m
 have b := qOD (x := y) fun c hc => h c (qEj 46 wd _ m c hc)
 rw [qAZ]
 exact ⟨a, by omega⟩
theorem qKg {x : Str} (h : ∀ c ∈ x.cps.toList, c ∈ qAn) (hl : x.cps.toList.length ≤ 640) : (∀ wd ∈ (qBx x).1, (strL wd).length + 2 ≤ sizeLine ∧ ∀ y ∈ Txt.split (strL wd) ".", y.length ≤ 640 ∧ (reprText y).length ≤ sizeLine) ∧ (qBx x).1.length ≤ sizeLine := by
 have hw := qD9 (x.cps.toList.length + 2) h hl
 refine ⟨fun wd hm => ?_, ?_⟩
 ·have a := hw wd hm
  exact qFF a.1 (fun p hp => Nat.le_trans (qDc 46 wd p hp) a.2) (by omega)
 ·have := qF7 (x.cps.toList.length + 2) (some x.cps.toList)
  rw [sizeLine_eq]
  exact Nat.le_trans this (by omega)
structure Small (k : Nat) (d : Stand) : Prop where
 lo : 0 ≤ d.num
 hi : d.num < 10 ^ k
 fr : ∀ f, d.front = some f → f.natAbs < 10 ^ k
theorem qQK (k : Nat) : (10 : Int) ^ (k + 1) = 10 * 10 ^ k := by rw [Int.pow_succ]; omega
theorem qG7 (k : Nat) : (10 : Nat) ^ (k + 1) = 10 * 10 ^ k := by rw [Nat.pow_succ]; omega
theorem qFv (k : Nat) : ((10 ^ k : Nat) : Int) = (10 : Int) ^ k := by simp
theorem qDE (k : Nat) : (0 : Int) < 10 ^ k := by
 rw [← qFv]
 have : 0 < 10 ^ k := Nat.pow_pos (by decide)
 omega
theorem qEy (k : Nat) : Small k standLost := ⟨Int.le_refl _, qDE k, fun f h => nomatch h⟩
theorem qCF (k : Nat) : Small k qAc := ⟨Int.le_refl _, qDE k, fun f h => nomatch h⟩
theorem qDi {k : Nat} {d : Stand} (h : Small k d) : (qBv d.minus d.num).natAbs < 10 ^ k := by
 have h1 := h.lo
 have h2 := h.hi
 rw [← qFv] at h2
 unfold qBv
 split <;> omega
theorem qBs {k : Nat} {d : Stand} (h : Small k d) (c : Nat) : Small (k + 1) (qAd d c) := by
 have h1 := h.lo
 have h2 := h.hi
 have up : (10 : Int) ^ (k + 1) = 10 * 10 ^ k := qQK k
 have nup := qG7 k
 have pp := qDE k
 have hf : ∀ f, d.front = some f → f.natAbs < 10 ^ (k + 1) := fun f e => by have := h.fr f e; omega
 unfold qAd
 split
 ·rename_i q
  rw [Bool.and_eq_true] at q
  have q1 : 48 ≤ c ∧ c ≤ 57 := by have := q.1; unfold qA2 at this; simpa using this
  exact ⟨by dsimp only; omega, by dsimp only; omega, hf⟩
 split
 ·exact ⟨h1, by dsimp only; omega, hf⟩
 split
 ·exact ⟨Int.le_refl _, by dsimp only; omega, hf⟩
 split
 ·exact ⟨h1, by dsimp only; omega, hf⟩
 split
 ·refine ⟨Int.le_refl _, by dsimp only; omega, fun f e => ?_⟩
  cases e
  have := qDi h
  omega
 ·exact qEy _
theorem qCM {k : Nat} {d : Stand} (h : Small k d) : Small (k + 1) d := by
 have up : (10 : Int) ^ (k + 1) = 10 * 10 ^ k := qQK k
 have nup := qG7 k
 have pp := qDE k
 exact ⟨h.lo, by have := h.hi; omega, fun f e => by have := h.fr f e; omega⟩
theorem qP6 (d : Stand) : qAd d 92 = standLost := by
 unfold qAd
 have h1 : qA2 92 = false := rfl
 have h2 : isWs 92 = false := rfl
 rw [h1, h2]; rfl
structure SmallD (k : Nat) (D : Due) : Prop where
 st : Small k D.stand
 pl : ∀ p ∈ D.places, ∀ ab, p = some ab → ab.1.natAbs < 10 ^ k ∧ ab.2.natAbs < 10 ^ k
 ct : D.places.length ≤ k
theorem qD1 {k : Nat} {d : Stand} (h : Small k d) : ∀ ab, qAC d = some ab → ab.1.natAbs < 10 ^ k ∧ ab.2.natAbs < 10 ^ k := by
 intro ab e
 unfold qAC at e
 split at e
 ·cases e
 ·rename_i f hf
  split at e
  ·cases e
   exact ⟨h.fr f hf, qDi h⟩
  ·cases e
theorem qJc {k : Nat} {D : Due} (h : SmallD k D) (c : Nat) : SmallD (k + 1) (qAe D c) := by
 have nup := qG7 k
 have pl' : ∀ p ∈ D.places, ∀ ab, p = some ab → ab.1.natAbs < 10 ^ (k + 1) ∧ ab.2.natAbs < 10 ^ (k + 1) := fun p hp ab e => by
  have := h.pl p hp ab e
  omega
 have ct' : D.places.length ≤ k + 1 := Nat.le_succ_of_le h.ct
 have keep : ∀ m d, Small (k + 1) d → SmallD (k + 1) ⟨m, d, D.places⟩ := fun m d hd => ⟨hd, pl', ct'⟩
 unfold qAe
 split
 ·exact keep _ _ (qBs h.st c)
 ·refine keep _ _ ?_
  split
  ·exact qBs h.st c
  ·rw [qP6, qD7]; exact qEy _
 ·split
  ·exact keep _ _ (qCM h.st)
  ·exact keep _ _ (qBs h.st c)
 ·split
  ·exact keep _ _ (qCM h.st)
  ·split
   ·exact keep _ _ (qCM h.st)
   ·exact keep _ _ (qBs h.st c)
 ·repeat' split
  all_goals first
   | exact keep _ _ (qCF _)
   | exact keep _ _ (qCM h.st)
   | exact keep _ _ (qBs h.st c)
 ·split
  ·refine ⟨qCF _, fun p hp ab e => ?_, by simp [h.ct]⟩
   rcases List.mem_append.mp hp with hp | hp
   ·exact pl' p hp ab e
   ·rw [ls hp] at e
    have := qD1 h.st ab e
    omega
  ·repeat' split
   all_goals first
    | exact keep _ _ (qCM h.st)
    | exact keep _ _ (qBs h.st c)
theorem qEz : ∀ (l : List Nat) {k : Nat} {D : Due}, SmallD k D → SmallD (k + l.length) (l.foldl qAe D)
 | [], k, D, h => h
 | c :: l, k, D, h => by
  have := qEz l (qJc h c)
  rw [List.length_cons, List.foldl_cons]
  rw [show k + (l.length + 1) = k + 1 + l.length by omega]
  exact this
theorem qM4 (l : List Nat) : (∀ p ∈ (dueF l).1, ∀ ab, p = some ab → ab.1.natAbs < 10 ^ l.length ∧ ab.2.natAbs < 10 ^ l.length) ∧ (dueF l).1.length ≤ l.length + 1 := by
 have h0 : SmallD 0 ⟨.gap, qAc, []⟩ := ⟨qCF 0, (fun p hp => nomatch hp), Nat.le_refl _⟩
 have h := qEz l h0
 rw [Nat.zero_add] at h
 unfold dueF qBA
 generalize l.foldl qAe ⟨.gap, qAc, []⟩ = D at h
 split
 ·exact ⟨(fun p hp => nomatch hp), Nat.zero_le _⟩
 ·exact ⟨(fun p hp => nomatch hp), Nat.zero_le _⟩
 ·exact ⟨(fun p hp => nomatch hp), Nat.zero_le _⟩
 ·exact ⟨(fun p hp => nomatch hp), Nat.zero_le _⟩
 ·refine ⟨fun p hp ab e => ?_, by simp [h.ct]⟩
  rcases List.mem_append.mp hp with hp | hp
  ·exact h.pl p hp ab e
  ·rw [ls hp] at e
   exact qD1 h.st ab e
 ·exact ⟨h.pl, Nat.le_succ_of_le h.ct⟩
theorem qQm {n k : Nat} (hk : 0 < k) (h : n < 10 ^ k) : (digL n).length ≤ k := by
 have e := toString_length_le (v := (n : Int)) (by omega) hk (by rw [← qFv]; omega)
 rw [qAZ, KIN.signs_num] at e
 exact e
theorem qBK {n : Int} {k : Nat} (hk : 0 < k) (h : n.natAbs < 10 ^ k) : (decL n).length ≤ k + 1 := by
 have := qQm hk h
 unfold decL
 split
 ·rw [List.length_cons]; omega
 ·omega
theorem qIu {c N : Nat} : ∀ {ps : List (List Nat)}, (∀ p ∈ ps, p.length ≤ N) → (glue c ps).length ≤ ps.length * (N + 1)
 | [], _ => Nat.zero_le _
 | [p], h => by
  have := h p (.head _)
  show p.length ≤ 1 * (N + 1)
  omega
 | p :: q :: ps, h => by
  have a := h p (.head _)
  have b := qIu (c := c) (ps := q :: ps) fun r hr => h r (.tail _ hr)
  show (p ++ c :: glue c (q :: ps)).length ≤ _
  rw [List.length_append, List.length_cons]
  simp only [List.length_cons, Nat.succ_mul] at b ⊢
  omega
theorem qL2 {ps : List (Int × Int)} (h : ∀ p ∈ ps, p.1.natAbs < 10 ^ 100 ∧ p.2.natAbs < 10 ^ 100) (hn : ps.length ≤ 100) : (qA1 ps).length ≤ 30000 ∧
  (∀ wd ∈ (qBx (strL (qA1 ps))).1, (strL wd).length + 2 ≤ sizeLine ∧ ∀ y ∈ Txt.split (strL wd) ".", y.length ≤ 640 ∧ (reprText y).length ≤ sizeLine) ∧ (qBx (strL (qA1 ps))).1.length ≤ sizeLine := by
 have pl : ∀ p ∈ ps, (decL p.1).length ≤ 101 ∧ (decL p.2).length ≤ 101 := fun p hp => ⟨qBK (by decide) (h p hp).1, qBK (by decide) (h p hp).2⟩
 have pw : ∀ w ∈ ps.map qAN, w.length ≤ 203 := fun w hw => by
  obtain ⟨p, hp, rfl⟩ := List.mem_map.mp hw
  have := pl p hp
  unfold qAN
  rw [List.length_append, List.length_cons]; omega
 have a := qIu (c := 32) pw
 rw [List.length_map] at a
 have e : qBx (strL (qA1 ps)) = (ps.map qAN, none) := by
  unfold qBx
  rw [qAL]
  exact qFd _ ps (by have := qFc ps; omega)
 rw [e]
 refine ⟨?_, fun wd hm => ?_, ?_⟩
 ·have : ps.length * (203 + 1) ≤ 100 * 204 := Nat.mul_le_mul hn (Nat.le_refl _)
  show (glue 32 (ps.map qAN)).length ≤ _
  omega
 ·have b := pw wd hm
  obtain ⟨p, hp, rfl⟩ := List.mem_map.mp hm
  refine qFF (fun c hc => qDf (qA8 p c hc)) (fun q hq => ?_) (by omega)
  have g : cut 46 (qAN p) = [decL p.1, decL p.2] := by
   unfold qAN
   rw [qDd _ (qIK p.1).1, qDb (qIK p.2).1]
  rw [g] at hq
  have := pl p hp
  rcases lc hq with rfl | hq
  ·omega
  ·rw [ls hq]; omega
 ·show (ps.map qAN).length ≤ sizeLine
  rw [List.length_map, sizeLine_eq]; omega
end
section
open PySem.NumText
structure Fit (x : Str) (n : Nat) : Prop where
 sg : ∀ c ∈ x.cps.toList, c ∈ qAn
 ln : x.cps.toList.length ≤ n
theorem qEe {x y : Str} {n m : Nat} (h : Fit x n) (g : Fit y m) : Fit (x ++ y) (n + m) := by
 have e : (x ++ y).cps.toList = x.cps.toList ++ y.cps.toList := by
  show (x.cps ++ y.cps).toList = _
  simp
 refine ⟨fun c hc => ?_, ?_⟩
 ·rw [e] at hc
  rcases List.mem_append.mp hc with hc | hc
  ·exact h.sg c hc
  ·exact g.sg c hc
 ·rw [e, List.length_append]
  have := h.ln
  have := g.ln
  omega
theorem qMI {k : Int} (h : 0 ≤ k ∧ k < 10) : Fit (Txt.item "0123456789" k) 1 := by
 have key : ∀ n < 10, (∀ c ∈ (Txt.item "0123456789" ((n : Nat) : Int)).cps.toList, c ∈ qAn) ∧ (Txt.item "0123456789" ((n : Nat) : Int)).cps.toList.length ≤ 1 := by decide +kernel
 obtain ⟨n, rfl⟩ := Int.eq_ofNat_of_zero_le h.1
 have g := key n (by omega)
 exact ⟨g.1, g.2⟩
theorem qU8 {k : Int} (h : 0 ≤ k ∧ k < 4) : Fit (Txt.item " \t\n\r" k) 1 := by
 have key : ∀ n < 4, (∀ c ∈ (Txt.item " \t\n\r" ((n : Nat) : Int)).cps.toList, c ∈ qAn) ∧ (Txt.item " \t\n\r" ((n : Nat) : Int)).cps.toList.length ≤ 1 := by decide +kernel
 obtain ⟨n, rfl⟩ := Int.eq_ofNat_of_zero_le h.1
 have g := key n (by omega)
 exact ⟨g.1, g.2⟩
theorem qU9 {k : Int} (h : 0 ≤ k ∧ k < 6) : Fit (Txt.item "+#e,:x" k) 1 := by
 have key : ∀ n < 6, (∀ c ∈ (Txt.item "+#e,:x" ((n : Nat) : Int)).cps.toList, c ∈ qAn) ∧ (Txt.item "+#e,:x" ((n : Nat) : Int)).cps.toList.length ≤ 1 := by decide +kernel
 obtain ⟨n, rfl⟩ := Int.eq_ofNat_of_zero_le h.1
 have g := key n (by omega)
 exact ⟨g.1, g.2⟩
theorem Fit.up {x : Str} {n m : Nat} (h : Fit x n) (l : n ≤ m) : Fit x m := ⟨h.sg, Nat.le_trans h.ln l⟩
theorem fit_dot : Fit "." 1 := ⟨by decide +kernel, by decide +kernel⟩
theorem fit_sp : Fit " " 1 := ⟨by decide +kernel, by decide +kernel⟩
theorem qSQ (n : Int) : ∀ x ∈ qIe n, Fit x 4 := by
 have f1 : Fit (qG6 n) 1 := qMI (fm _ 10 (by decide))
 have f2 : Fit (qG5 n) 1 := qMI (fm _ 10 (by decide))
 have f3 : Fit (qC4 n) 3 := qEe (qEe f1 fit_dot) f2
 have f4 : Fit (pcWs n) 1 := qU8 (fm _ 4 (by decide))
 have f5 : Fit (pcPu n) 1 := qU9 (fm _ 6 (by decide))
 have one : ∀ x : Str, (x = "'" ∨ x = "\"" ∨ x = "\\" ∨ x = "-" ∨ x = "_" ∨ x = "") → Fit x 4 := by
  rintro x (rfl | rfl | rfl | rfl | rfl | rfl) <;> exact ⟨by decide +kernel, by decide +kernel⟩
 intro x hx
 unfold qIe qD2 qDk at hx
 simp only [List.mem_append, List.mem_cons, List.not_mem_nil, or_false] at hx
 rcases hx with (rfl | rfl | rfl | rfl | rfl | rfl | rfl | rfl | rfl | rfl | rfl | rfl) | (rfl | rfl | rfl | rfl)
 ·exact fit_dot.up (by decide)
 ·exact f1.up (by decide)
 ·exact f1.up (by decide)
 ·exact f3.up (by decide)
 ·exact f3.up (by decide)
 ·exact qEe f3 fit_sp
 ·exact fit_sp.up (by decide)
 ·exact one _ (by simp)
 ·exact one _ (by simp)
 ·exact one _ (by simp)
 ·exact one _ (by simp)
 ·exact one _ (by simp)
 ·exact f4.up (by decide)
 ·exact f5.up (by decide)
 ·exact fit_dot.up (by decide)
 ·exact one _ (by simp)
theorem qIA (n : Int) : Fit (qBE n) 4 := by
 have := fm n 16 (by decide)
 unfold qBE
 have hl : (n.fmod 16).toNat < (qIe n).length := by show (n.fmod 16).toNat < 16; omega
 rw [List.getD_eq_getElem?_getD, List.getElem?_eq_getElem hl]
 exact qSQ n _ (List.getElem_mem hl)
theorem qCJ : ∀ xs : List Str, (Txt.join "" xs).cps.toList = (xs.map fun x => x.cps.toList).flatten
 | [] => rfl
 | [x] => by
  show x.cps.toList = _
  simp
 | x :: y :: xs => by
  have ih := qCJ (y :: xs)
  unfold Txt.join at ih ⊢
  rw [StrLaws.glued_eq_join] at ih ⊢
  show ((x.cps ++ ("" : Str).cps) ++ (Str.join "" (y :: xs)).cps).toList = _
  rw [Array.toList_append, Array.toList_append, ih]
  have : ("" : Str).cps.toList = [] := by decide
  rw [this]
  simp
theorem qPU {n : Nat} : ∀ {xs : List Str}, (∀ x ∈ xs, Fit x n) → Fit (Txt.join "" xs) (xs.length * n) := by
 intro xs h
 refine ⟨fun c hc => ?_, ?_⟩
 ·rw [qCJ] at hc
  obtain ⟨l, hl, hc⟩ := List.mem_flatten.mp hc
  obtain ⟨x, hx, rfl⟩ := List.mem_map.mp hl
  exact (h x hx).sg c hc
 ·rw [qCJ]
  induction xs with
  | nil => exact Nat.zero_le _
  | cons x xs ih =>
   have a := (h x (.head _)).ln
   have b := ih fun y hy => h y (.tail _ hy)
   simp only [List.map_cons, List.flatten_cons, List.length_append, List.length_cons, Nat.succ_mul]
   omega
theorem qIC (l : List Int) : Fit (qAq l) (4 * l.length) := by
 have := qPU (n := 4) (xs := l.map qBE) fun x hx => by
  obtain ⟨n, _, rfl⟩ := List.mem_map.mp hx
  exact qIA n
 rw [List.length_map, Nat.mul_comm] at this
 exact this
theorem qEO {sep : Str} {n : Nat} : ∀ (xs : List Str) (k : Nat), (∀ x ∈ xs, x.length ≤ n) → xs.foldl (· + ·.length + sep.length) k ≤ k + xs.length * (n + sep.length)
 | [], k, _ => by simp
 | x :: xs, k, h => by
  have a := h x (.head _)
  have b := qEO (sep := sep) xs (k + x.length + sep.length) fun y hy => h y (.tail _ hy)
  simp only [List.foldl_cons, List.length_cons, Nat.succ_mul]
  omega
theorem qF9 {sep : Str} {xs : List Str} {n : Nat} (h : ∀ x ∈ xs, x.length ≤ n) (hb : xs.length * (n + sep.length) ≤ 16777216) : JoinOk sep xs = true := by
 unfold JoinOk
 have := qEO (sep := sep) xs 0 h
 rw [← Array.foldl_toList]
 unfold Builtin.Str.tooLong
 rw [sizeLine_eq]
 simp only [Bool.not_eq_true', decide_eq_false_iff_not]
 show ¬ (List.foldl (· + ·.length + sep.length) 0 xs > 16777216)
 omega
theorem qL1 {l : List Int} (h : l.length ≤ 100) : JoinOk "" (l.map qBE) = true := by
 refine qF9 (n := 4) (fun x hx => ?_) ?_
 ·obtain ⟨n, _, rfl⟩ := List.mem_map.mp hx
  rw [qAZ]; exact (qIA n).ln
 ·rw [List.length_map]
  have : ("" : Str).length = 0 := by decide
  rw [this]; omega
theorem qIB : ∀ y ∈ tails, Fit y 2 := by
 intro y hy
 unfold tails at hy
 simp only [List.mem_cons, List.not_mem_nil, or_false] at hy
 rcases hy with rfl | rfl | rfl | rfl | rfl <;> exact ⟨by decide +kernel, by decide +kernel⟩
noncomputable def qBZ (l : List Int) : Str := if (qCI l).fmod 4 = 0 then qAq l else ((tails.map (qAq l ++ ·)).find? fun x => (dueF x.cps.toList).2.isNone).getD (qAq l)
theorem qMH (l : List Int) : Fit (qBZ l) (4 * l.length + 2) := by
 have f := qIC l
 unfold qBZ
 split
 ·exact f.up (by omega)
 ·generalize e : (tails.map (qAq l ++ ·)).find? _ = z
  cases z with
  | none => exact f.up (by omega)
  | some x =>
   have := List.mem_of_find?_eq_some e
   obtain ⟨y, hy, rfl⟩ := List.mem_map.mp this
   exact qEe f (qIB y hy)
end
section
noncomputable def avLt (n : Nat) : AV → Bool
 | .obj i => decide (i < n)
 | _ => true
noncomputable def aoLt (n : Nat) : AO → Bool
 | .tup xs => xs.all (avLt n)
 | .lst xs => xs.all (avLt n)
 | .inst _ fs => fs.all fun f => avLt n f.2
 | .lit i _ => decide (i < n)
 | _ => true
section
variable {ρ : Rho} {n : Nat}
theorem qEZ {α : Type} {l : List α} {i : Nat} (h : i < n) : (l.take n)[i]? = l[i]? := by rw [List.getElem?_take_of_lt h]
theorem vrel.take {a : AV} {v : Value} (h : avLt n a = true) (r : vrel ρ a v) : vrel (ρ.take n) a v := by
 cases a with
 | obj i =>
  obtain ⟨p, h1, h2⟩ := r
  have hi : i < n := of_decide_eq_true h
  exact ⟨p, (qEZ hi).trans h1, h2⟩
 | none => exact r
 | bool _ => exact r
 | int _ => exact r
 | str _ => exact r
 | chr _ => exact r
 | lit _ => exact r
theorem qCZ : ∀ {as : List AV} {vs : List Value}, as.all (avLt n) = true → vrels ρ as vs → vrels (ρ.take n) as vs
 | _, _, _, .nil => .nil
 | a :: as, _, h, .cons r1 r2 => by
  rw [List.all_cons, Bool.and_eq_true] at h
  exact .cons (r1.take h.1) (qCZ h.2 r2)
theorem qMD : ∀ {fs : LV} {es : List DictEntry}, (fs.all fun f => avLt n f.2) = true → All2 (erel ρ) fs es → All2 (erel (ρ.take n)) fs es
 | _, _, _, .nil => .nil
 | f :: fs, _, h, .cons r1 r2 => by
  rw [List.all_cons, Bool.and_eq_true] at h
  exact .cons ⟨r1.1, r1.2.take h.1⟩ (qMD h.2 r2)
theorem qU4 {ρ' : Rho} {buf : Str} {k : Nat} {es : List DictEntry} (h : All2 (erel ρ) (qBV buf k) es) : All2 (erel ρ') (qBV buf k) es := by
 cases h with
 | cons a h => cases h with
  | cons b h => cases h with
   | cons c h => cases h; exact .cons a (.cons b (.cons c .nil))
theorem ORel.take {o : AO} {p : Addr × Addr} {h : Heap} (ho : aoLt n o = true) (r : ORel ρ o p h) : ORel (ρ.take n) o p h := by
 cases o with
 | tup xs => obtain ⟨vs, k, h1, h2⟩ := r; exact ⟨vs, k, h1, qCZ ho h2⟩
 | lst xs => obtain ⟨vs, k, h1, h2⟩ := r; exact ⟨vs, k, h1, qCZ ho h2⟩
 | inst C fs => obtain ⟨h1, es, k, h2, h3⟩ := r; exact ⟨h1, es, k, h2, qMD ho h3⟩
 | deq => exact r
 | sio rest =>
  obtain ⟨buf, k, ⟨h1, es, m, h2, h3⟩, h4⟩ := r
  exact ⟨buf, k, ⟨h1, es, m, h2, qU4 h3⟩, h4⟩
 | std d => exact qCE r _
 | sit rest => exact r
 | lit i k =>
  obtain ⟨q, h1, h2⟩ := r
  have hi : i < n := of_decide_eq_true ho
  exact ⟨q, (qEZ hi).trans h1, h2⟩
 | any => exact r
theorem qAI {α : Type} {l : List α} {i : Nat} {a : α} (h : (l.take n)[i]? = some a) : l[i]? = some a := by
 by_cases q : i < n
 ·rwa [qEZ q] at h
 ·rw [List.getElem?_eq_none (by rw [List.length_take]; omega)] at h; cases h
theorem HR.take {w : World} {H : List AO} {h : Heap} (r : HR w ρ H h) (ho : (H.take n).all (aoLt n) = true) : HR w (ρ.take n) (H.take n) h := by
 refine ⟨r.kept, by rw [List.length_take, List.length_take, r.len], fun i o p h1 h2 => ?_, fun i o p h1 h2 => r.own i o p (qAI h1) (qAI h2), fun i j oi oj pi pj h1 h2 h3 h4 ne => r.sep i j oi oj pi pj (qAI h1) (qAI h2) (qAI h3) (qAI h4) ne, fun a ha => ?_⟩
 ·exact (r.obj i o p (qAI h1) (qAI h2)).take (List.all_eq_true.mp ho o (List.mem_of_getElem? h1))
 ·obtain ⟨i, o, p, h1, h2, h3⟩ := qAw ha
  exact r.high a (qAo (qAI h1) (qAI h2) a h3)
theorem qMM {H : List AO} : ∀ a ∈ feet (H.take n) (ρ.take n), a ∈ feet H ρ := fun a ha => by
 obtain ⟨i, o, p, h1, h2, h3⟩ := qAw ha
 exact qAo (qAI h1) (qAI h2) a h3
theorem Rel.cut {cx : Cx} {S : Sta} {s : Shared} (r : Rel cx ρ S s) (n : Nat) {H1 : List AO} (loc' : LV) (hH : S.H.take n = H1) (ho : H1.all (aoLt n) = true) (hl : ∀ e ∈ loc', S.loc.lookup e.1 = some e.2 ∧ avLt n e.2 = true) :
  Rel cx (ρ.take n) ⟨loc', H1, [], []⟩ s := by
 subst hH
 refine r.re (S' := ⟨loc', S.H.take n, [], []⟩) (r.hr.take ho) qMM fun x a' e => ?_
 obtain ⟨e1, e2⟩ := hl (x, a') (qA5 e)
 exact ⟨a', e1, fun v hv => hv.take e2⟩
theorem qNc {w : World} {H : List AO} {h : Heap} (r : HR w ρ H h) {i : Nat} {o : AO} {p : Addr × Addr} {q : Addr} (h1 : H[i]? = some o) (h2 : ρ[i]? = some p) (h3 : q ∈ foot o p) (hn : n ≤ i) : q ∉ feet (H.take n) (ρ.take n) := fun ha => by
 obtain ⟨j, o', p', e1, e2, e3⟩ := qAw ha
 have hj : j < n := by
  have := (List.getElem?_eq_some_iff.mp e1).1
  rw [List.length_take] at this
  omega
 exact r.sep i j o o' p p' h1 h2 (qAI e1) (qAI e2) (by omega) q h3 e3
theorem Rel.locs {cx : Cx} {S : Sta} {s : Shared} (r : Rel cx ρ S s) {loc' : LV} (hl : ∀ e ∈ loc', S.loc.lookup e.1 = some e.2) : Rel cx ρ ⟨loc', S.H, [], []⟩ s :=
 r.re (S' := ⟨loc', S.H, [], []⟩) r.hr (fun _ h => h) fun x a' e => ⟨a', hl (x, a') (qA5 e), fun _ hv => hv⟩
end
theorem qHR {ρ : Rho} : ∀ {as : List AV} {vs : List Value} {i : Nat}, vrels ρ as vs → (∀ {a : AV}, as[i]? = some a → ∃ v, vs[i]? = some v ∧ vrel ρ a v) ∧ (as[i]? = none → vs[i]? = none)
 | as, vs, i, h => ⟨fun e => h.get e, fun e => by
  rw [List.getElem?_eq_none_iff] at e ⊢
  rw [← h.length]; exact e⟩
section
variable {cx : Cx} {ρ : Rho} {S : Sta} {s : Shared} {A : Around} {E : VP}
theorem qPy {k : Nat} {xs : List AV} {p : Addr × Addr} (r : Rel cx ρ S s) (hk : S.H[k]? = some (.lst xs)) (hp : ρ[k]? = some p) :
  wpAny (MM cx.w) A (pyIter (.ref p.1)) (PE cx ρ (.obj S.H.length) { S with H := S.H ++ [.lit k 0] }) E s := by
 obtain ⟨vs, n, h1, h2⟩ := r.hr.obj _ _ _ hk hp
 refine wpAny_pyIter_list (items := vs.toArray) ⟨_, h1, rfl, n, rfl⟩ ?_
 refine ⟨ρ ++ [(s.heap.objs.size, 0)], List.prefix_append _ _, ⟨(s.heap.objs.size, 0), by rw [← r.hr.len]; simp, rfl⟩, ?_⟩
 refine r.new (k := s.toks) (Chg.push [] _ _) ⟨p, qBi (List.prefix_append _ _) hp, _, Heap.get?_push_size _ rfl, rfl, rfl⟩ (by simp [foot]) fun a ha => ?_
 simp [foot] at ha; subst ha; exact Nat.le_refl _
theorem qOX {i k j : Nat} {xs : List AV} {a : AV} {p : Addr × Addr} (r : Rel cx ρ S s) (hi : S.H[i]? = some (.lit k j)) (hp : ρ[i]? = some p) (hk : S.H[k]? = some (.lst xs)) (ha : xs[j]? = some a) :
  wpAny (MM cx.w) A (pyNext (.ref p.1)) (fun v s' => ∃ u, v = some u ∧ vrel ρ a u ∧ Rel cx ρ { S with H := S.H.set i (.lit k (j + 1)) } s') E s := by
 obtain ⟨q, q1, q2⟩ := r.hr.obj _ _ _ hi hp
 obtain ⟨vs, n, h1, h2⟩ := r.hr.obj _ _ _ hk q1
 obtain ⟨u, e1, e2⟩ := (qHR (i := j) h2).1 ha
 refine wpAny_pyNext_list_item (items := vs.toArray) (x := u) q2 ⟨_, h1, rfl, n, rfl⟩ (by simpa using e1) fun h' hit hs => ⟨u, rfl, e2, ?_⟩
 exact r.upd hi hp (fun _ => rfl) (Chg.same hs) (k := s.toks) ⟨q, q1, hit⟩
theorem qS0 {i k j n : Nat} {xs : List AV} {p : Addr × Addr} {H1 : List AO} {loc' : LV} (r : Rel cx ρ S s) (hh : A.handled = none) (hi : S.H[i]? = some (.lit k j)) (hp : ρ[i]? = some p) (hk : S.H[k]? = some (.lst xs)) (ha : xs[j]? = none)
  (hn : n ≤ i) (hH : S.H.take n = H1) (ho : H1.all (aoLt n) = true) (hl : ∀ e ∈ loc', S.loc.lookup e.1 = some e.2 ∧ avLt n e.2 = true) :
  wpAny (MM cx.w) A (pyNext (.ref p.1)) (fun v s' => v = none ∧ Rel cx (ρ.take n) ⟨loc', H1, [], []⟩ s') E s := by
 obtain ⟨q, q1, q2⟩ := r.hr.obj _ _ _ hi hp
 obtain ⟨vs, m, h1, h2⟩ := r.hr.obj _ _ _ hk q1
 have e1 := (qHR (i := j) h2).2 ha
 refine wpAny_pyNext_list_end (items := vs.toArray) hh q2 ⟨_, h1, rfl, m, rfl⟩ (by simpa using e1) fun h' he => ⟨rfl, ?_⟩
 have r' := r.cut n loc' hH ho hl
 have hm := qAo hi hp p.1 (by simp [foot])
 refine r'.outL (Y := [p.1]) ⟨fun b o e nb => he b o (by simpa using nb) e⟩ fun a ha => ?_
 rw [ls ha]
 refine ⟨r.hr.high _ hm, ?_, r.ft _ hm⟩
 rw [← hH]
 exact qNc r.hr hi hp (by simp [foot]) hn
theorem qSO {sc : Scope} {q : Str} {ad : Addr} {cd : Value} {x : Str} {px : Pos} {body : List Stmt} {R : RP} {xs : List AV} {i k n : Nat} {p : Addr × Addr} {H1 : List AO} {loc' : LV} (Sj : Nat → Sta) (G : Nat → Prop) (g0 : G 0)
  (hkind : sc.kind = .function) (hx : sc.names.lookup x = some .local) (hh : A.handled = none)
  (hi : ∀ j, (Sj j).H[i]? = some (.lit k j)) (hp : ρ[i]? = some p) (hk : ∀ j, (Sj j).H[k]? = some (.lst xs)) (r0 : Rel cx ρ (Sj 0) s)
  (turn : ∀ j a s, G j → xs[j]? = some a → Rel cx ρ ⟨qBm x a (Sj j).loc, (Sj j).H.set i (.lit k (j + 1)), [], []⟩ s →
   wpAny (MM cx.w) A (execs body (envOf q sc cx.L ad cd)) (fun f s' => match f with | .next | .cont => G (j + 1) ∧ Rel cx ρ (Sj (j + 1)) s' | .brk => R (.ok .next) s' | .ret v => R (.ok (.ret v)) s') (notedBy (MM cx.w) A (envOf q sc cx.L ad cd) fun e s' => R (.error e) s') s)
  (hn : n ≤ i) (hH : (Sj xs.length).H.take n = H1) (ho : H1.all (aoLt n) = true) (hl : ∀ e ∈ loc', (Sj xs.length).loc.lookup e.1 = some e.2 ∧ avLt n e.2 = true)
  (fin : ∀ s, G xs.length → Rel cx (ρ.take n) ⟨loc', H1, [], []⟩ s → R (.ok .next) s) : codeAny (MM cx.w) A (.forLoop (.Name x px) (.ref p.1) body [] (envOf q sc cx.L ad cd)) R s := by
 refine codeAny_forLoop (fun m s => ∃ j, m = xs.length - j ∧ j ≤ xs.length ∧ G j ∧ Rel cx ρ (Sj j) s) (fun m s zz => ?_) xs.length ⟨0, rfl, Nat.zero_le _, g0, r0⟩
 obtain ⟨j, hm, hj, g, r⟩ := zz
 by_cases hlt : j < xs.length
 ·refine wm (qOX r (hi j) hp (hk j) (List.getElem?_eq_getElem hlt)) (fun v s1 ⟨u, e, hu, r1⟩ => ?_)
  subst e
  dsimp only
  have st : qA0 sc x xs[j] { Sj j with H := (Sj j).H.set i (.lit k (j + 1)) } = some ((), { Sj j with H := (Sj j).H.set i (.lit k (j + 1)), loc := qBm x xs[j] (Sj j).loc }, []) := by
   unfold qA0; rw [hx]; rfl
  refine wpAny_assign_Name (wm (qAu hkind st hu r1) (fun _ s2 r2 => ?_))
  refine wm (turn j _ s2 g (List.getElem?_eq_getElem hlt) ⟨r2.hr, r2.ns, r2.ft, r2.lo, r2.kp, r2.rest⟩) (fun f s3 z => ?_)
  cases f with
  | next => exact ⟨xs.length - (j + 1), by omega, j + 1, rfl, hlt, z.1, z.2⟩
  | cont => exact ⟨xs.length - (j + 1), by omega, j + 1, rfl, hlt, z.1, z.2⟩
  | brk => exact z
  | ret v => exact z
 ·have e : j = xs.length := by omega
  subst e
  refine wm (qS0 r hh (hi _) hp (hk _) (List.getElem?_eq_none (Nat.le_refl _)) hn hH ho hl) (fun v s1 ⟨e, r1⟩ => ?_)
  subst e
  exact wpAny_execs_nil (fin s1 g r1)
theorem qOa {α : Type} (l : List α) (a b : α) : (l ++ [a]).set l.length b = l ++ [b] := by
 rw [List.set_append_right _ _ (Nat.le_refl _), Nat.sub_self]; rfl
theorem qMF {sc : Scope} {q : Str} {ad : Addr} {cd : Value} {x : Str} {px : Pos} {body : List Stmt} {R : RP} {xs : List AV} {k n : Nat} {p : Addr × Addr} {loc loc' : LV} {H : List AO} (hk : H[k]? = some (.lst xs)) (hp : ρ[k]? = some p) (r : Rel cx ρ ⟨loc, H, [], []⟩ s) (G : Nat → Prop) (g0 : G 0)
  (hkind : sc.kind = .function) (hx : sc.names.lookup x = some .local) (hh : A.handled = none)
  (turn : ∀ pI j a s, G j → xs[j]? = some a → Rel cx (ρ ++ [pI]) ⟨qBm x a loc, H ++ [.lit k (j + 1)], [], []⟩ s →
   wpAny (MM cx.w) A (execs body (envOf q sc cx.L ad cd)) (fun f s' => match f with | .next | .cont => G (j + 1) ∧ Rel cx (ρ ++ [pI]) ⟨loc, H ++ [.lit k (j + 1)], [], []⟩ s' | .brk => R (.ok .next) s' | .ret v => R (.ok (.ret v)) s') (notedBy (MM cx.w) A (envOf q sc cx.L ad cd) fun e s' => R (.error e) s') s)
  (hn : n ≤ H.length) (ho : (H.take n).all (aoLt n) = true) (hl : ∀ e ∈ loc', loc.lookup e.1 = some e.2 ∧ avLt n e.2 = true)
  (fin : ∀ s, G xs.length → Rel cx (ρ.take n) ⟨loc', H.take n, [], []⟩ s → R (.ok .next) s) :
  wpAny (MM cx.w) A (pyIter (.ref p.1)) (fun it s₂ => codeAny (MM cx.w) A (.forLoop (.Name x px) it body [] (envOf q sc cx.L ad cd)) R s₂) E s := by
 refine wm (qPy r hk hp) (fun it s2 z => oz13 z fun ρ1 p1 v1 r1 => oz11 (qLn p1 r.hr r1.hr (by rw [List.length_append]; rfl)) fun pI e => ?_)
 subst e
 have hL : ρ.length = H.length := r.hr.len
 refine oz12 v1 fun p' e1 e2 => ?_
 subst e2
 refine qSO (fun j => ⟨loc, H ++ [.lit k j], [], []⟩) G g0 hkind hx hh (i := H.length) (fun j => List.getElem?_concat_length) e1 (k := k) (fun j => ?_) r1 (fun j a s g ha r2 => turn pI j a s g ha ?_) hn (List.take_append_of_le_length hn) ho hl fun s g r2 => fin s g ?_
 ·rw [List.getElem?_append_left (List.getElem?_eq_some_iff.mp hk).1]; exact hk
 ·rw [← qOa H (.lit k j)]; exact r2
 ·rw [← List.take_append_of_le_length (l₂ := [pI]) (by rw [hL]; exact hn)]; exact r2
end
theorem qKI {l : List Str} {j : Nat} {v : AV} {C : Prop} (h : (l.map AV.str)[j]? = some v) (k : ∀ y, l[j]? = some y → AV.str y = v → C) : C := by
 rw [List.getElem?_map] at h
 exact mp h k
end
section
theorem qJD {l : List Int} {j : Nat} {y : Str} (hs : (qCI l).fmod 4 ≠ 0) (hj : tails[j]? = some y) (hb : ∀ z ∈ tails.take j, (dueF (qAq l ++ z).cps.toList).2.isNone = false) (hy : (dueF (qAq l ++ y).cps.toList).2.isNone = true) : qBZ l = qAq l ++ y := by
 unfold qBZ
 rw [if_neg hs]
 have e : tails = tails.take j ++ y :: tails.drop (j + 1) := by
  obtain ⟨h1, h2⟩ := List.getElem?_eq_some_iff.mp hj
  rw [← h2, List.getElem_cons_drop, List.take_append_drop]
 rw [e, List.map_append, List.find?_append]
 have n : (List.map (qAq l ++ ·) (tails.take j)).find? (fun x => (dueF x.cps.toList).2.isNone) = none := by
  rw [List.find?_eq_none]
  intro x hx
  obtain ⟨z, hz, rfl⟩ := List.mem_map.mp hx
  rw [hb z hz]; decide
 rw [n, List.map_cons, List.find?_cons, hy]
 rfl
theorem qPb {l : List Int} (hs : (qCI l).fmod 4 ≠ 0) (hb : ∀ z ∈ tails, (dueF (qAq l ++ z).cps.toList).2.isNone = false) : qBZ l = qAq l := by
 unfold qBZ
 rw [if_neg hs]
 have n : (List.map (qAq l ++ ·) tails).find? (fun x => (dueF x.cps.toList).2.isNone) = none := by
  rw [List.find?_eq_none]
  intro x hx
  obtain ⟨z, hz, rfl⟩ := List.mem_map.mp hx
  rw [hb z hz]; decide
 rw [n]; rfl
theorem qSp (P : Params) (l : List Int) (T : Str) : run (KK P) cs0 scLin [l2] ⟨qBe T, liH l, [], []⟩ = some (.ret (.str T), ⟨qBe T, liH l, [], []⟩, []) := by kernel_rfl
theorem qUy {n : Int} (h : (!((n.fmod 4) == 0)) = true) : n.fmod 4 ≠ 0 := by simpa using h
theorem qSa {n : Int} (h : (!((n.fmod 4) == 0)) = false) : n.fmod 4 = 0 := by simpa using h
section
variable {cx : Cx} {ρ : Rho} {s : Shared} {A : Around} {E : VP} {d : Nat} {q0 : Str} {cd : Value} {l : List Int} {p0 : Addr × Addr}
theorem qF5 : ([.lst (l.map .int)] : List AO).all (aoLt 1) = true := by simp [aoLt, avLt]
theorem qL3 (ok : AOK cx A (d + 1)) {T : Str} (r : Rel cx [p0] ⟨qBe T, liH l, [], []⟩ s) {Q : FP} (k : ∀ t s', Rel cx [p0] ⟨qBe T, liH l, [], []⟩ s' → Q (.ret (.str T t)) s') : wpAny (MM cx.w) A (execs [l2] (envOf q0 scLin cx.L 799 cd)) Q E s :=
 rnR qAW (csv0 cx.w d) (qSp cx.w.params l T) qAb ok r fun ρ' c s' p' v' r' => oz11 v' fun t e => by rw [e]; rw [qA3 p' r.hr r'.hr rfl] at r'; exact k t s' r'
theorem qJB {px pf : Pos} (hlo : ∀ a ∈ qAa A, nS ≤ a) (ok : AOK cx A (d + 5)) (r : Rel cx [p0] ⟨qBe (qAq l), liH l, [], []⟩ s) (hs : (qCI l).fmod 4 ≠ 0) (hl : l.length ≤ 14) {Q : FP}
  (no : qBZ l = qAq l → ∀ s', Rel cx [p0] ⟨qBe (qAq l), liH l, [], []⟩ s' → Q .next s') (yes : ∀ t s', (∃ loc, Rel cx [p0] ⟨loc, liH l, [], []⟩ s') → Q (.ret (.str (qBZ l) t)) s') :
  wpAny (MM cx.w) A (exec (.For (.Name "tail" px) (foI lF) [.If qEh [.Return (some (qEn (stE lFr))) (stP lFr)] [] (stP lFb)] [] pf) (envOf q0 scLin cx.L 799 cd)) Q E s := by
 have fl := qIC l
 refine wpAny_For (evO (qAt qAW (csv0 cx.w (d + 4)) 4).e (qPN cx.w.params l (qAq l)) qAb ok r rfl fun pT s4 r4 => ?_)
 refine qMF (k := 1) (n := 1) (loc' := qBe (qAq l)) rfl rfl r4 (fun j => ∀ z ∈ tails.take j, (dueF (qAq l ++ z).cps.toList).2.isNone = false) (fun z hz => nomatch hz) qAW qIj ok.room.2 (fun pI j a s6 g ha r6 => qKI ha fun y hy e => ?_) (Nat.le_of_ble_eq_true rfl) qF5 (fun e he => ?_) fun s6 g r6 => no (qPb hs fun z hz => g z (by rw [List.length_map, List.take_length]; exact hz)) s6 r6
 ·subst e
  have fy := qIB y (List.mem_of_getElem? hy)
  have fxy := qEe fl fy
  have fx := fl.ln
  have fy' := fy.ln
  have hz : (qAq l).length + y.length ≤ sizeLine := by rw [qAZ, qAZ, sizeLine_eq]; omega
  with_reducible refine wpAny_execs_cons (wpAny_If (qQe (d := d + 1) (T := qAq l) (y := y) hlo ok r6 rfl rfl hz fxy.sg (by have := fxy.ln; rw [sizeLine_eq]; omega) fun s7 r7 => ?_))
  cases e7 : (dueF (qAq l ++ y).cps.toList).2.isNone with
  | false =>
   rw [if_neg Bool.false_ne_true]
   with_reducible refine wpAny_execs_nil (wpAny_execs_nil ⟨fun z hz => ?_, r7.locs fun e he => ?_⟩)
   ·rw [List.take_add_one, hy] at hz
    rcases List.mem_append.mp hz with hz | hz
    ·with_reducible exact g z hz
    ·rw [show z = y by simpa using hz]; exact e7
   ·simp only [qBe, qF6, List.cons_append, List.nil_append] at he
    rcases lc he with he | he
    ·cases he; rfl
    ·rw [ls he]; rfl
  | true =>
   rw [if_pos rfl]
   have ef := qJD hs hy g e7
   with_reducible refine wpAny_execs_cons (wpAny_Return_some (qIV r7 rfl rfl hz fun t s8 r8 => ?_))
   rw [← ef]
   exact yes t s8 ⟨[], r8.cut 1 (H1 := liH l) [] rfl qF5 (fun e he => nomatch he)⟩
 ·simp only [qBe, qF6, List.cons_append, List.nil_append] at he ⊢
  rcases lc he with he | he
  ·cases he; exact ⟨rfl, rfl⟩
  ·rw [ls he]; exact ⟨rfl, rfl⟩
theorem qL5 (hlo : ∀ a ∈ qAa A, nS ≤ a) (hst : ∀ ρ' S' s', Rel cx ρ' S' s' → Stk A s'.heap) (ok : AOK cx A (d + 5)) (r : Rel cx [p0] ⟨qF6, liH l, [], []⟩ s) (hl : l.length ≤ 14) {Q : FP}
  (k : ∀ t s', (∃ loc, Rel cx [p0] ⟨loc, liH l, [], []⟩ s') → Q (.ret (.str (qBZ l) t)) s') : wpAny (MM cx.w) A (execs bLin (envOf q0 scLin cx.L 799 cd)) Q E s := by
 rw [qL8]
 with_reducible refine wpAny_execs_cons (qL9 (d := d + 2) hlo (hst _ _ _ r) ok r (qL1 (by omega)) (by rw [sizeLine_eq]; omega) fun s2 r2 => ?_)
 dsimp only
 rw [qJE]
 with_reducible refine wpAny_execs_cons (wpAny_If (qKx (d := d + 2) (T := qAq l) hlo ok r2 (by omega) fun s3 r3 => ?_))
 have out : qBZ l = qAq l → ∀ s', Rel cx [p0] ⟨qBe (qAq l), liH l, [], []⟩ s' → wpAny (MM cx.w) A (execs [l2] (envOf q0 scLin cx.L 799 cd)) Q E s' := fun e s' r' => qL3 (d := d + 4) ok r' fun t s'' r'' => by rw [← e]; exact k t s'' ⟨_, r''⟩
 cases e : !((qCI l).fmod 4 == 0) with
 | false =>
  rw [if_neg Bool.false_ne_true]
  with_reducible refine wpAny_execs_nil (out ?_ s3 r3)
  unfold qBZ
  rw [if_pos (qSa e)]
 | true =>
  rw [if_pos rfl]
  rw [show ifB l1 = _ from qME]
  with_reducible exact wpAny_execs_cons (qJB (d := d) hlo ok r3 (qUy e) hl (fun e s' r' => wpAny_execs_nil (out e s' r')) k)
end
theorem qL4 {w : World} {A : Around} {s : Shared} {l : List Int} {p0 : Addr × Addr} {Q E : VP} (rm : Room A 6) (hr : HR w [p0] (liH l) s.heap) (hst : Stk A s.heap) (hF : ∀ a ∈ qAa A, nS ≤ a ∧ a ∉ feet (liH l) [p0]) (hl : l.length ≤ 14)
  (hQ : ∀ t s', HR w [p0] (liH l) s'.heap → Kp (feet (liH l) [p0]) (qAa A) s.heap s'.heap → SameRest s s' → Q (.str (qBZ l) t) s') : codeAny (MM w) A (.call (.ref 799) ⟨[.ref p0.1], []⟩) (ends Q E) s := by
 refine qBl (d := 4) (ρ := [p0]) (H := liH l) (args := [.obj 0]) (qMW w) rm hr (fun a ha => ⟨let ⟨o, e, _⟩ := hst.there a ha; ⟨o, e⟩, (hF a ha).2⟩) (.cons ⟨p0, rfl, rfl⟩ .nil) rfl fun s1 E' hL r ok => ?_
 rw [qOg] at ok ⊢
 with_reducible refine qL5 (cx := cxIn w A s (liH l) [p0]) (d := 0) (fun a ha => ?_) (fun ρ' S' s' r' => ?_) ok r hl fun t s' z => ?_
 rotate_left
 ·exact qDW hst (fun a ha => (hF a ha).2) qAW rfl r'
 ·exact oz11 z fun _ r' => hQ t s' r'.hr r'.kp r'.rest
 rw [qCi (q := (qPX w.params).qualname) (sc := scLin) (a := 799) (cd := (qPX w.params).code) hst rfl] at ha
 rcases lc ha with z | z
 ·rw [z]; exact r.lo.1
 ·with_reducible exact (hF a z).1
end
section
open PySem.NumText Builtin Builtin.Str
theorem qEA {x : Str} {l u : Option Int} {a b : Nat} (e : strSliceIndices l u 1 x.length = strSliceIndices (some (a : Int)) (some (b : Int)) 1 x.length) (hab : a ≤ b) (hb : b ≤ x.length) : (Txt.slice x l u).cps.toList = (x.cps.toList.drop a).take (b - a) := by
 have h := StrLaws.sliced_plain x hab hb
 have hl : (strSliceIndices (some (a : Int)) (some (b : Int)) 1 x.length).length = b - a := by rw [StrLaws.strSliceIndices_plain hab hb]; simp
 unfold Txt.slice
 rw [e, hl]
 split
 ·rename_i q
  have q : b - a = x.length := by simpa using q
  have : a = 0 := by omega
  subst this
  rw [List.drop_zero, List.take_of_length_le (by rw [← qAZ]; omega)]
 ·rw [← h]
theorem qS9 (n : Nat) : strSliceIndices none (some 1) 1 n = strSliceIndices (some ((0 : Nat) : Int)) (some ((min 1 n : Nat) : Int)) 1 n := by
 cases n with
 | zero => kernel_rfl
 | succ k =>
  have e : min 1 (k + 1) = 1 := Nat.min_eq_left (Nat.le_add_left 1 k)
  rw [e]
  kernel_rfl
theorem qS8 (n : Nat) : strSliceIndices (some 1) none 1 n = strSliceIndices (some ((min 1 n : Nat) : Int)) (some ((n : Nat) : Int)) 1 n := by
 unfold strSliceIndices
 have h1 : ¬ ((1 : Int) < 0) := by decide
 have h2 : ¬ ((n : Int) < 0) := by omega
 have h3 : ¬ (((min 1 n : Nat) : Int) < 0) := by omega
 simp only [h1, h2, h3, if_false, show ((1 : Int) > 0) = True from by simp, if_true]
 congr 1 <;> omega
theorem qJe (x : Str) : (Txt.slice x none (some 1)).cps.toList = x.cps.toList.take 1 := by
 rw [qEA (qS9 x.length) (Nat.zero_le _) (Nat.min_le_right _ _), List.drop_zero, Nat.sub_zero, qAZ]
 cases x.cps.toList <;> simp
theorem qJd (x : Str) : (Txt.slice x (some 1) none).cps.toList = x.cps.toList.drop 1 := by
 rw [qEA (qS8 x.length) (Nat.min_le_right _ _) (Nat.le_refl _), qAZ]
 cases h : x.cps.toList with
 | nil => simp
 | cons c l =>
  have : min 1 (c :: l).length = 1 := by simp
  rw [this]
  simp
theorem qI5 {x : Str} {p : Nat → Bool} : (Txt.stripBy p true true x).cps.toList = (x.cps.toList.drop (stripLo p true x)).take (stripHi p true x (stripLo p true x) - stripLo p true x) := by
 unfold Txt.stripBy
 split
 ·rename_i h
  unfold stripSame at h
  rw [Bool.and_eq_true, beq_iff_eq, beq_iff_eq] at h
  rw [h.2, h.1, List.drop_zero, Nat.sub_zero, List.take_of_length_le (by rw [qAZ]; exact Nat.le_refl _)]
 ·unfold PySem.stripped
  rw [StrLaws.strSub_toList]
theorem qBk {p : Nat → Bool} : ∀ {l : List Nat}, (∃ c ∈ l, p c = false) → (l.takeWhile p).length < l.length
 | [], ⟨c, h, _⟩ => nomatch h
 | d :: l, ⟨c, h, hp⟩ => by
  rw [List.takeWhile_cons]
  split
  ·rename_i hd
   rw [List.length_cons, List.length_cons]
   refine Nat.succ_lt_succ (qBk ⟨c, ?_, hp⟩)
   rcases lc h with rfl | h
   ·rw [hd] at hp; cases hp
   ·exact h
  ·simp
theorem qBQ {p : Nat → Bool} : ∀ {l : List Nat}, l.all p = true → (l.takeWhile p).length = l.length
 | [], _ => rfl
 | d :: l, h => by
  rw [List.all_cons, Bool.and_eq_true] at h
  rw [List.takeWhile_cons, if_pos h.1, List.length_cons, List.length_cons, qBQ h.2]
theorem qCB {p : Nat → Bool} : ∀ {l : List Nat}, (∃ c ∈ l, p c = false) → ∃ c ∈ l.drop (l.takeWhile p).length, p c = false
 | [], ⟨c, h, _⟩ => nomatch h
 | d :: l, ⟨c, h, hp⟩ => by
  rw [List.takeWhile_cons]
  split
  ·rename_i hd
   rw [List.length_cons, List.drop_succ_cons]
   refine qCB ⟨c, ?_, hp⟩
   rcases lc h with rfl | h
   ·rw [hd] at hp; cases hp
   ·exact h
  ·rename_i hd
   exact ⟨d, .head _, by simpa using hd⟩
theorem qKG (x : Str) (p : Nat → Bool) : ((Txt.stripBy p true true x).cps.toList != []) = !(x.cps.toList.all p) := by
 rw [qI5]
 have e1 : stripLo p true x = (x.cps.toList.takeWhile p).length := rfl
 have e2 : stripHi p true x (stripLo p true x) = x.length - ((x.cps.toList.drop (stripLo p true x)).reverse.takeWhile p).length := rfl
 rw [e2, e1, qAZ]
 generalize x.cps.toList = l
 cases h : l.all p with
 | true =>
  rw [qBQ h, List.drop_of_length_le (Nat.le_refl _)]
  simp
 | false =>
  have ex : ∃ c ∈ l, p c = false := by simpa using h
  obtain ⟨c, hc, hp⟩ := qCB ex
  have lt := qBk (p := p) (l := (l.drop (l.takeWhile p).length).reverse) ⟨c, List.mem_reverse.mpr hc, hp⟩
  rw [List.length_reverse, List.length_drop] at lt
  have lt2 := qBk ex
  rw [Bool.not_false, bne_iff_ne]
  intro z
  have z := congrArg List.length z
  rw [List.length_take, List.length_drop, List.length_nil] at z
  omega
theorem qMi {x : Str} {c : Nat} {l : List Nat} (h : x.cps.toList = c :: l) : (Txt.item x 0).cps.toList = [c] := by
 have hl : x.length = l.length + 1 := by rw [qAZ, h]; rfl
 have hc : x.cps[0]? = some c := by
  have : x.cps.toList[0]? = some c := by rw [h]; rfl
  simpa using this
 have e : Txt.charAt x 0 = some c := by
  unfold Txt.charAt seqIndex?
  rw [hl]
  have n1 : ¬ ((0 : Int) < 0) := by decide
  simp [n1, hc]
 unfold Txt.item
 rw [e]; rfl
noncomputable abbrev hMin (x : Str) : Bool := (Txt.slice x none (some 1)).cps.toList == ("-" : Str).cps.toList
noncomputable def hFig (x : Str) (m : Bool) : Str := if m then Txt.slice x (some 1) none else x
noncomputable def qHo (f : Str) : Bool := (f.cps.toList == ("" : Str).cps.toList) || ((Txt.stripChars f "0123456789").cps.toList != ("" : Str).cps.toList)
noncomputable def qMs (x f : Str) : Bool := ((Txt.item f 0).cps.toList == ("0" : Str).cps.toList) && (x.cps.toList != ("0" : Str).cps.toList)
theorem qPW (x : Str) : (hFig x (hMin x)).cps.toList = if x.cps.toList.take 1 == [45] then x.cps.toList.drop 1 else x.cps.toList := by
 have e : hMin x = (x.cps.toList.take 1 == [45]) := by
  unfold hMin
  rw [qJe]
  rfl
 unfold hFig
 rw [e]
 split
 ·exact qJd x
 ·rfl
theorem qMJ (k : Nat) : ("0123456789" : Str).cps.contains (k + 58) = qA2 (k + 58) := by kernel_rfl
theorem qPV : ∀ c < 58, ("0123456789" : Str).cps.contains c = qA2 c := by decide +kernel
theorem qGh : ∀ c : Nat, ("0123456789" : Str).cps.contains c = qA2 c := by
 intro c
 by_cases h : c < 58
 ·exact qPV c h
 ·have e : c = (c - 58) + 58 := by omega
  rw [e]; exact qMJ _
theorem qNo (f : Str) : qHo f = (f.cps.toList.isEmpty || !(f.cps.toList.all qA2)) := by
 unfold qHo Txt.stripChars
 have e : ("" : Str).cps.toList = [] := by decide
 rw [e, qKG]
 have : ("0123456789" : Str).cps.contains = qA2 := funext qGh
 rw [this]
 cases f.cps.toList <;> rfl
theorem qSJ (x : Str) : qAG x.cps.toList = (!(qHo (hFig x (hMin x))) && !(qMs x (hFig x (hMin x)))) := by
 rw [qNo]
 have fl := qPW x
 unfold qAG
 rw [← fl]
 generalize hFig x (hMin x) = f
 dsimp only
 cases h : f.cps.toList with
 | nil => rfl
 | cons c l =>
  unfold qMs
  rw [qMi h]
  have e0 : ("0" : Str).cps.toList = [48] := by decide
  rw [e0]
  cases (c :: l).all qA2 with
  | false => simp
  | true =>
   have : ((c :: l).head? == some 48) = (([c] : List Nat) == [48]) := by
    rw [Bool.eq_iff_iff]; simp
   rw [this]; simp
end
section
section
open Builtin Builtin.Str
theorem qKH {w : World} {A : Around} {E : VP} {s : Shared} {x y : Str} {t : Tok} {pos : Pos} {Q : VP} {a : Sem Value} (hy : (y.length == 0) = false) (hx : x.length + 2 ≤ sizeLine)
  (h : wpAny (MM w) A a (fun v s1 => ∃ u, v = .str y u ∧ ∀ l k, l.map (·.1) = Txt.split x y → Q (.ref s1.heap.objs.size) { s1 with heap := s1.heap.push (qD8 (strValues l) 0), toks := k }) E s) : MethodOnS pw w A E "split" (.str x t) pos [(false, a)] Q s := by
 have hn := qF0 (x := x) (y := y) hx
 refine ⟨"str", _, F.plainAttrs_str, F.slot_str_split, F.type_str_split, typeIs_str _ _ _, (fun _ e => nomatch e), method1_meets F.slot_str_split F.entry_str_split (wpAny_mono h (fun v s1 h₁ => ?_) fun _ _ e => e)⟩
 obtain ⟨u, rfl, hq⟩ := h₁
 refine ⟨typeIs_str _ _ _, F.args_str_split_2 _ _, ?_⟩
 have hz : Txt.split x y = if (decide (x.length < y.length) || decide (strKind x < strKind y)) = true then [x] else if (occurrences x y 0 x.length (x.length + 1)).isEmpty = true then [x] else partsBetween x (occurrences x y 0 x.length (x.length + 1)) y.length := rfl
 cases h1 : (decide (x.length < y.length) || decide (strKind x < strKind y)) with
 | true =>
  rw [h1, if_pos rfl] at hz
  exact ⟨_, meets_str_split_cannot_occur x y t u h1, hq [(x, t)] _ hz.symm⟩
 | false =>
  rw [h1, if_neg Bool.false_ne_true] at hz
  cases hf : (occurrences x y 0 x.length (x.length + 1)).isEmpty with
  | true =>
   rw [hf, if_pos rfl] at hz
   exact ⟨_, meets_str_split_not_found x y t u h1 hy hf, hq [(x, t)] _ hz.symm⟩
  | false =>
   rw [hf, if_neg Bool.false_ne_true] at hz
   refine ⟨_, meets_str_split_sep x y t u h1 hy hf (by omega) hn, ?_⟩
   show wants Q E _ { s1 with toks := _, heap := s1.heap.push { cls := .type "list", data := .seq (strsFrom s1.toks (partsBetween x (occurrences x y 0 x.length (x.length + 1)) y.length)).toArray } }
   rw [strsFrom_eq]
   exact hq (numbered s1.toks _) _ ((numbered_texts _ _).trans hz.symm)
end
theorem qH2 (ρ : Rho) : ∀ l : List (Str × Tok), vrels ρ ((l.map (·.1)).map .str) (strValues l)
 | [] => .nil
 | p :: l => .cons ⟨p.2, rfl⟩ (qH2 ρ l)
section
variable {cx : Cx} {ρ : Rho} {S : Sta} {s : Shared} {A : Around} {E : VP} {sc : Scope} {q : Str} {a : Addr} {cd : Value} {d : Nat}
theorem qFQ {v : Str} {p1 ap pos : Pos} {e : PySem.Expr} {x y : Str} (hk : sc.kind = .function) (hpl : qBG e = true) (hli : (ap.endLine == pos.line) = true) (hv : qAi (Kx cx) sc v S = some (.str x, S, [])) (hc : (evs (Kx cx) cs0 sc 3).e e S = some (.str y, S, [])) (hy : (y.length == 0) = false) (hx : x.length + 2 ≤ sizeLine)
  (ok : AOK cx A (d + 1)) (r : Rel cx ρ S s) {Q : VP} (k : ∀ q s', Rel cx (ρ ++ [q]) { S with H := S.H ++ [.lst ((Txt.split x y).map .str)] } s' → Q (.ref q.1) s') :
  wpAny (MM cx.w) A (eval (.Call (.Attribute (.Name v p1) "split" ap) [e] [] pos) (envOf q sc cx.L a cd)) Q E s := by
 refine Call_method1 rfl (qAy hpl) hli (nmS hk hv r fun t1 s1 r1 => qKH hy hx (evS (qAt hk (csv0 cx.w d) 3).e hc qAb ok r1 rfl fun t2 s2 r2 => ⟨t2, rfl, fun l kk hl => k (s2.heap.objs.size, 0) _ ?_⟩))
 refine r2.new (k := kk) (Chg.push [] _ _) ⟨_, 0, Heap.get?_push_size _ rfl, ?_⟩ (by simp [foot]) fun b hb => ?_
 ·rw [← hl]; exact qH2 _ l
 ·simp [foot] at hb; subst hb; exact Nat.le_refl _
end
noncomputable abbrev fdPl (P : Params) : FuncData := fdOf (o818 P)
noncomputable abbrev bPl : List Stmt := qBh (F1 36)
noncomputable abbrev scPl : Scope := qAM (F1 36)
theorem qRx (P : Params) : (fdPl P).scope = scPl := by kernel_rfl
theorem qP0 (w : World) : FnFacts w 818 (fdPl w.params) bPl ["text"] :=
 .of1 (by kernel_rfl) (by kernel_rfl) (by kernel_rfl) fun _ => by kernel_rfl
noncomputable abbrev q0 : Stmt := nthS bPl 0
noncomputable abbrev q1 : Stmt := nthS bPl 1
noncomputable abbrev qB : List Stmt := qHq q0
noncomputable abbrev qA : Stmt := nthS qB 0
noncomputable abbrev qL : Stmt := nthS qB 1
noncomputable abbrev qH : Stmt := nthS qB 2
noncomputable abbrev qHB : List Stmt := qHq qH
noncomputable def ixT : PySem.Expr → PySem.Expr
 | .IfExp t _ _ _ => t
 | e => e
noncomputable def ixA : PySem.Expr → PySem.Expr
 | .IfExp _ a _ _ => a
 | e => e
noncomputable def ixB : PySem.Expr → PySem.Expr
 | .IfExp _ _ b _ => b
 | e => e
noncomputable def boV (i : Nat) : PySem.Expr → PySem.Expr
 | .BoolOp _ vs _ => vs.getD i (.Name "" default)
 | e => e
noncomputable abbrev qI : PySem.Expr := foI q0
noncomputable def qGt (v m : Str) (e : PySem.Expr) : PySem.Expr := .Call (.Attribute (.Name v (cP (cF (cF e)))) m (cP (cF e))) [cA 0 e] [] (cP e)
noncomputable def ret0 (st : Stmt) : Stmt := .Return (some (.Constant (.bool false) (cKn (stE st)) (cQ (stE st)))) (stP st)
noncomputable def qSD : PySem.Expr := .IfExp (ixT qI) (qGt "text" "split" (ixA qI)) (ixB qI) (PySem.Expr.pos qI)
noncomputable def asgM (y v m : Str) (st : Stmt) : Stmt := .Assign [.Name y (cP (stT st))] (qGt v m (stE st)) (stP st)
noncomputable def lenT : PySem.Expr := .Compare (.Call (.Name "len" (cP (cF (cmL (stE qL))))) [.Name "halves" (cP (cA 0 (cmL (stE qL))))] [] (cP (cmL (stE qL)))) [.NotEq] [.Constant (.int 2) (cKn (cmR (stE qL))) (cQ (cmR (stE qL)))] (PySem.Expr.pos (stE qL))
noncomputable abbrev i2 : Stmt := nthS qHB 1
noncomputable abbrev i3 : Stmt := nthS qHB 2
noncomputable abbrev i2b : PySem.Expr := boV 1 (stE i2)
noncomputable def qGO : PySem.Expr := .BoolOp .Or [boV 0 (stE i2), .Compare (qGt "figures" "strip" (cmL i2b)) [.NotEq] [cmR i2b] (PySem.Expr.pos i2b)] (PySem.Expr.pos (stE i2))
noncomputable def qGN : PySem.Expr := .BoolOp .And [boV 0 (stE i3), boV 1 (stE i3)] (PySem.Expr.pos (stE i3))
theorem qOK : bPl = [.For (.Name "word" (cP (foT q0))) qSD [asgM "halves" "word" "split" qA, .If lenT [ret0 (ifB qL)] [] (stP qL), .For (.Name "half" (cP (foT qH))) (.Name "halves" (cP (foI qH))) [nthS qHB 0, .If qGO [ret0 (ifB i2)] [] (stP i2), .If qGN [ret0 (ifB i3)] [] (stP i3)] [] (foP qH)] [] (foP q0), q1] := by kernel_rfl
end
noncomputable abbrev qDu (x : Str) : LV := [("text", .str x)]
noncomputable abbrev qId (x w : Str) : LV := [("text", .str x), ("word", .str w)]
noncomputable abbrev qB8 (x w : Str) : LV := [("text", .str x), ("word", .str w), ("halves", .obj 2)]
noncomputable abbrev qEG (x w h : Str) : LV := [("text", .str x), ("word", .str w), ("halves", .obj 2), ("half", .str h)]
noncomputable abbrev qBd (x w h f : Str) : LV := [("text", .str x), ("word", .str w), ("halves", .obj 2), ("half", .str h), ("figures", .str f)]
theorem pl_t (P : Params) (x : Str) : (evs (KK P) cs0 scPl 4).t (ixT qI) ⟨qDu x, [], [], []⟩ = some (x.cps.toList != ("" : Str).cps.toList, ⟨qDu x, [], [], []⟩, []) := by kernel_rfl
theorem pl_b (P : Params) (x : Str) : (evs (KK P) cs0 scPl 4).e (ixB qI) ⟨qDu x, [], [], []⟩ = some (.obj 0, ⟨qDu x, [.lst []], [], []⟩, []) := by kernel_rfl
theorem pl_n (P : Params) (x : Str) : qAi (KK P) scPl "text" ⟨qDu x, [], [], []⟩ = some (.str x, ⟨qDu x, [], [], []⟩, []) := by kernel_rfl
theorem pl_c (P : Params) (S : Sta) : (evs (KK P) cs0 scPl 3).e (cA 0 (ixA qI)) S = some (.str " ", S, []) := by kernel_rfl
theorem qRZ : ((cP (cF (ixA qI))).endLine == (cP (ixA qI)).line) = true := by kernel_rfl
theorem qRU : qBG (cA 0 (ixA qI)) = true := by kernel_rfl
theorem qV6 (P : Params) (x w : Str) (H : List AO) : qAi (KK P) scPl "word" ⟨qId x w, H, [], []⟩ = some (.str w, ⟨qId x w, H, [], []⟩, []) := by kernel_rfl
theorem qV9 (P : Params) (S : Sta) : (evs (KK P) cs0 scPl 3).e (cA 0 (stE qA)) S = some (.str ".", S, []) := by kernel_rfl
theorem qOM : ((cP (cF (stE qA))).endLine == (cP (stE qA)).line) = true := by kernel_rfl
theorem qOJ : qBG (cA 0 (stE qA)) = true := by kernel_rfl
theorem qV5 (x w : Str) (H : List AO) : qA0 scPl "halves" (.obj 2) ⟨qId x w, H, [], []⟩ = some ((), ⟨qB8 x w, H, [], []⟩, []) := by kernel_rfl
theorem qUp (P : Params) (x w : Str) (H : List AO) : qAi (KK P) scPl "len" ⟨qB8 x w, H, [], []⟩ = some (.lit (.builtin "len"), ⟨qB8 x w, H, [], []⟩, []) := by kernel_rfl
theorem pl_h (P : Params) (x w : Str) (H : List AO) : qAi (KK P) scPl "halves" ⟨qB8 x w, H, [], []⟩ = some (.obj 2, ⟨qB8 x w, H, [], []⟩, []) := by kernel_rfl
theorem qWb (P : Params) (x w h : Str) (H : List AO) : run (KK P) cs0 scPl [nthS qHB 0] ⟨qEG x w h, H, [], [true]⟩ = some (.next, ⟨qBd x w h (Txt.slice h (some 1) none), H, [], []⟩, [h.length ≤ sizeLine, hMin h = true, h.length ≤ sizeLine]) := by kernel_rfl
theorem qWc (P : Params) (x w h : Str) (H : List AO) : run (KK P) cs0 scPl [nthS qHB 0] ⟨qEG x w h, H, [], [false]⟩ = some (.next, ⟨qBd x w h h, H, [], []⟩, [h.length ≤ sizeLine, hMin h = false]) := by kernel_rfl
theorem qV4 (P : Params) (x w h f : Str) (H : List AO) : (evs (KK P) cs0 scPl 4).t (boV 0 (stE i2)) ⟨qBd x w h f, H, [], []⟩ = some (f.cps.toList == ("" : Str).cps.toList, ⟨qBd x w h f, H, [], []⟩, []) := by kernel_rfl
theorem pl_f (P : Params) (x w h f : Str) (H : List AO) : qAi (KK P) scPl "figures" ⟨qBd x w h f, H, [], []⟩ = some (.str f, ⟨qBd x w h f, H, [], []⟩, []) := by kernel_rfl
theorem qV8 (P : Params) (S : Sta) : (evs (KK P) cs0 scPl 3).e (cA 0 (cmL i2b)) S = some (.str "0123456789", S, []) := by kernel_rfl
theorem qV7 (P : Params) (S : Sta) : (evs (KK P) cs0 scPl 3).e (cmR i2b) S = some (.str "", S, []) := by kernel_rfl
theorem qRX : behindInMarks .NotEq (cmR i2b) = false := by kernel_rfl
theorem qOL : ((cP (cF (cmL i2b))).endLine == (cP (cmL i2b)).line) = true := by kernel_rfl
theorem qOI : qBG (cA 0 (cmL i2b)) = true := by kernel_rfl
theorem qV3 (P : Params) (x w h f : Str) (H : List AO) : (evs (KK P) cs0 scPl 5).t (boV 0 (stE i3)) ⟨qBd x w h f, H, [], []⟩ = some ((Txt.item f 0).cps.toList == ("0" : Str).cps.toList, ⟨qBd x w h f, H, [], []⟩, [(0 : Int) ≤ 0 ∧ (0 : Int) < f.length ∧ f.length ≤ sizeLine]) := by kernel_rfl
theorem qV2 (P : Params) (x w h f : Str) (H : List AO) : (evs (KK P) cs0 scPl 4).t (boV 1 (stE i3)) ⟨qBd x w h f, H, [], []⟩ = some (h.cps.toList != ("0" : Str).cps.toList, ⟨qBd x w h f, H, [], []⟩, []) := by kernel_rfl
theorem qUq (P : Params) : run (KK P) cs0 scPl [q1] ⟨[], [], [], []⟩ = some (.ret (.bool true), ⟨[], [], [], []⟩, []) := by kernel_rfl
theorem qRT : scPl.names.lookup (Str.ofString "word") = some .local := by kernel_rfl
theorem qR0 : scPl.names.lookup (Str.ofString "half") = some .local := by kernel_rfl
theorem qAP : scPl.kind = .function := by kernel_rfl
theorem qGI {w : Str} {hs : List Str} (h : hs = Txt.split w ".") : (hs.length ≠ 2 → qAz w.cps.toList = false) ∧ (hs.length = 2 → qAz w.cps.toList = hs.all fun y => qAG y.cps.toList) := by
 have e := qCf w 46
 rw [← qIJ, ← h] at e
 unfold qAz
 rw [← e]
 match hs with
 | [] => exact ⟨fun _ => rfl, nofun⟩
 | [a] => exact ⟨fun _ => rfl, nofun⟩
 | [a, b] => exact ⟨fun h => absurd rfl h, fun _ => by simp⟩
 | a :: b :: c :: r => exact ⟨fun _ => rfl, fun h => by simp at h⟩
theorem qDY {x y : Str} {c : Nat} (hy : y ∈ Txt.split x ⟨#[c]⟩) : y.length ≤ x.length := by
 have e := qCf x c
 have m : y.cps.toList ∈ cut c x.cps.toList := by rw [← e]; exact List.mem_map_of_mem (f := fun y : Str => y.cps.toList) hy
 rw [qAZ, qAZ]
 exact qDc c _ _ m
section
section
variable {cx : Cx} {ρ : Rho} {s : Shared} {A : Around} {E : VP} {q : Str} {a : Addr} {cd : Value} {d : Nat} {x w h f : Str} {H : List AO}
theorem Rel.same {S S' : Sta} (r : Rel cx ρ S s) (h1 : S'.H = S.H) (h2 : S'.loc = S.loc) : Rel cx ρ S' s := ⟨by rw [h1]; exact r.hr, by rw [h2]; exact r.ns, by rw [h1]; exact r.ft, r.lo, r.kp, r.rest⟩
theorem qPC (ok : AOK cx A (d + 1)) (r : Rel cx ρ ⟨qEG x w h, H, [], []⟩ s) (hx : h.length ≤ 100000) {Q : FP} (k : ∀ s', Rel cx ρ ⟨qBd x w h (hFig h (hMin h)), H, [], []⟩ s' → Q .next s') : wpAny (MM cx.w) A (execs [nthS qHB 0] (envOf q scPl cx.L a cd)) Q E s := by
 have hz : h.length ≤ sizeLine := by rw [sizeLine_eq]; omega
 cases hb : hMin h with
 | true => exact rnN (S := ⟨qEG x w h, H, [], [true]⟩) qAP (csv0 cx.w d) (qWb cx.w.params x w h H) (aCc hz (aCc hb (aCc hz qAb))) ok (r.same rfl rfl) rfl fun s' r' => k s' (by rw [hb]; exact r')
 | false => exact rnN (S := ⟨qEG x w h, H, [], [false]⟩) qAP (csv0 cx.w d) (qWc cx.w.params x w h H) (aCc hz (aCc hb qAb)) ok (r.same rfl rfl) rfl fun s' r' => k s' (by rw [hb]; exact r')
theorem qJL (ok : AOK cx A (d + 1)) (r : Rel cx ρ ⟨qBd x w h f, H, [], []⟩ s) (hx : f.length ≤ 100000) {Q : Bool → Shared → Prop} (k : ∀ s', Rel cx ρ ⟨qBd x w h f, H, [], []⟩ s' → Q ((Txt.stripChars f "0123456789").cps.toList != ("" : Str).cps.toList) s') :
  wpAny (MM cx.w) A (isTrue (.Compare (qGt "figures" "strip" (cmL i2b)) [.NotEq] [cmR i2b] (PySem.Expr.pos i2b)) (envOf q scPl cx.L a cd) (eval (.Compare (qGt "figures" "strip" (cmL i2b)) [.NotEq] [cmR i2b] (PySem.Expr.pos i2b)) (envOf q scPl cx.L a cd))) Q E s := by
 refine wpAny_isTrue_Compare1 ?_ qRX
 unfold qGt
 exact Call_method1 rfl (qAy qOI) qOL (nmS qAP (pl_f cx.w.params x w h f H) r fun t2 s2 r2 => SB.stripChars (evS (qAt qAP (csv0 cx.w d) 3).e (qV8 cx.w.params _) qAb ok r2 rfl fun t3 s3 r3 =>
  ⟨_, _, rfl, fun t' kk => evS (qAt qAP (csv0 cx.w d) 3).e (qV7 cx.w.params _) qAb ok (r3.toks kk) rfl fun t5 s5 r5 => P.ne_str (wpAny_pure (k s5 r5))⟩) (by rw [sizeLine_eq]; omega))
theorem qJK (ok : AOK cx A (d + 1)) (r : Rel cx ρ ⟨qBd x w h f, H, [], []⟩ s) (hx : f.length ≤ 100000) {Q : Bool → Shared → Prop} (k : ∀ s', Rel cx ρ ⟨qBd x w h f, H, [], []⟩ s' → Q (qHo f) s') :
  wpAny (MM cx.w) A (isTrue qGO (envOf q scPl cx.L a cd) (eval qGO (envOf q scPl cx.L a cd))) Q E s := by
 unfold qGO
 refine isTrue_or (evT (qAt qAP (csv0 cx.w d) 4).t (qV4 cx.w.params x w h f H) qAb ok r rfl fun s1 r1 => ?_)
 unfold qHo at k
 cases hc : (f.cps.toList == ("" : Str).cps.toList) with
 | true => rw [if_pos rfl]; rw [hc] at k; exact k s1 r1
 | false =>
  rw [if_neg Bool.false_ne_true]
  rw [hc] at k
  refine isTrue_or (qJL ok r1 hx fun s2 r2 => ?_)
  rw [Bool.false_or] at k
  revert k
  cases ((Txt.stripChars f "0123456789").cps.toList != ("" : Str).cps.toList) with
  | true => intro k; rw [if_pos rfl]; exact k s2 r2
  | false => intro k; rw [if_neg Bool.false_ne_true]; exact isTrue_or_nil (k s2 r2)
theorem qJJ (ok : AOK cx A (d + 1)) (r : Rel cx ρ ⟨qBd x w h f, H, [], []⟩ s) (hx : f.length ≤ 100000) (h0 : 0 < f.length) {Q : Bool → Shared → Prop} (k : ∀ s', Rel cx ρ ⟨qBd x w h f, H, [], []⟩ s' → Q (qMs h f) s') :
  wpAny (MM cx.w) A (isTrue qGN (envOf q scPl cx.L a cd) (eval qGN (envOf q scPl cx.L a cd))) Q E s := by
 unfold qGN
 refine isTrue_and (evT (qAt qAP (csv0 cx.w d) 5).t (qV3 cx.w.params x w h f H) (aCc ⟨Int.le_refl _, by omega, by rw [sizeLine_eq]; omega⟩ qAb) ok r rfl fun s1 r1 => ?_)
 unfold qMs at k
 cases hc : ((Txt.item f 0).cps.toList == ("0" : Str).cps.toList) with
 | false => rw [if_neg Bool.false_ne_true]; rw [hc] at k; exact k s1 r1
 | true =>
  rw [if_pos rfl]
  rw [hc, Bool.true_and] at k
  refine isTrue_and (evT (qAt qAP (csv0 cx.w d) 4).t (qV2 cx.w.params x w h f H) qAb ok r1 rfl fun s2 r2 => ?_)
  revert k
  cases (h.cps.toList != ("0" : Str).cps.toList) with
  | true => intro k; rw [if_pos rfl]; exact isTrue_and_nil (k s2 r2)
  | false => intro k; rw [if_neg Bool.false_ne_true]; exact k s2 r2
theorem qMK (h : Str) (b : Bool) : (hFig h b).length ≤ h.length := by
 unfold hFig
 split
 ·exact Txt.slice_le h _ _
 ·exact Nat.le_refl _
theorem qQx {f : Str} (h : qHo f = false) : 0 < f.length := by
 rw [qNo] at h
 rw [qAZ]
 cases hf : f.cps.toList with
 | nil => rw [hf] at h; cases h
 | cons c l => simp
theorem qMr (r : Rel cx ρ ⟨qBd x w h f, H, [], []⟩ s) : Rel cx ρ ⟨qB8 x w, H, [], []⟩ s := r.locs fun e he => by
 simp only [qB8] at he
 rcases lc he with he | he
 ·cases he; rfl
 rcases lc he with he | he
 ·cases he; rfl
 ·rw [ls he]; rfl
theorem qFi {st : Stmt} {env : Env} {rest : List Stmt} {Q : FP} (k : Q (.ret (.bool false)) s) : wpAny (MM cx.w) A (execs (ret0 st :: rest) env) Q E s := wpAny_execs_cons (wpAny_Return_some (wpAny_Constant_bool k))
theorem qMp (ok : AOK cx A (d + 1)) (r : Rel cx ρ ⟨qEG x w h, H, [], []⟩ s) (hx : h.length ≤ 100000) {Q : FP} (no : qAG h.cps.toList = false → ∀ S' s', Rel cx ρ S' s' → Q (.ret (.bool false)) s') (yes : qAG h.cps.toList = true → ∀ s', Rel cx ρ ⟨qB8 x w, H, [], []⟩ s' → Q .next s') :
  wpAny (MM cx.w) A (execs [nthS qHB 0, .If qGO [ret0 (ifB i2)] [] (stP i2), .If qGN [ret0 (ifB i3)] [] (stP i3)] (envOf q scPl cx.L a cd)) Q E s := by
 have hs := qSJ h
 have fs := qMK h (hMin h)
 refine qBz (l1 := [nthS qHB 0]) (qPC ok r hx fun s1 r1 => ?_)
 dsimp only
 generalize hFig h (hMin h) = f at hs fs r1
 refine wpAny_execs_cons (wpAny_If (qJK ok r1 (by omega) fun s2 r2 => ?_))
 cases e2 : qHo f with
 | true =>
  rw [e2] at hs
  rw [if_pos rfl]
  exact qFi (no hs _ _ r2)
 | false =>
  rw [e2] at hs
  rw [if_neg Bool.false_ne_true]
  refine wpAny_execs_nil (wpAny_execs_cons (wpAny_If (qJJ ok r2 (by omega) (qQx e2) fun s3 r3 => ?_)))
  cases e3 : qMs h f with
  | true =>
   rw [e3] at hs
   rw [if_pos rfl]
   exact qFi (no hs _ _ r3)
  | false =>
   rw [e3] at hs
   rw [if_neg Bool.false_ne_true]
   exact wpAny_execs_nil (wpAny_execs_nil (yes hs _ (qMr r3)))
end
end
section
section
variable {cx : Cx} {s : Shared} {A : Around} {E : VP} {q : Str} {a : Addr} {cd : Value} {d : Nat} {x w : Str} {H : List AO}
noncomputable abbrev plE (cx : Cx) (q : Str) (a : Addr) (cd : Value) : Env := envOf q scPl cx.L a cd
theorem qLu (h : (x.cps.toList != ("" : Str).cps.toList) = true) : qB7 x.cps.toList = (Txt.split x " ").all fun y => qAz y.cps.toList := by
 have e := qCf x 32
 rw [← qRq] at e
 unfold qB7
 rw [← e, List.all_map]
 cases hxs : x.cps.toList with
 | nil => rw [hxs] at h; exact nomatch h
 | cons c l => rfl
theorem qLs (h : (x.cps.toList != ("" : Str).cps.toList) = false) : qB7 x.cps.toList = true := by
 have e0 : ("" : Str).cps.toList = [] := by decide
 have : x.cps.toList = [] := by rw [e0] at h; simpa using h
 rw [this]; rfl
theorem qJt (ok : AOK cx A (d + 1)) (r : Rel cx [] ⟨qDu x, [], [], []⟩ s) (hx : x.length ≤ 100000) {Q : VP}
  (k : ∀ p (ws : List Str) s', Rel cx [p] ⟨qDu x, [.lst (ws.map .str)], [], []⟩ s' → qB7 x.cps.toList = ws.all (fun y => qAz y.cps.toList) → (∀ y ∈ ws, y.length ≤ 100000) → Q (.ref p.1) s') :
  wpAny (MM cx.w) A (eval qSD (plE cx q a cd)) Q E s := by
 unfold qSD
 refine wpAny_IfExp (evT (qAt qAP (csv0 cx.w d) 4).t (pl_t cx.w.params x) qAb ok r rfl fun s1 r1 => ?_)
 cases hc : (x.cps.toList != ("" : Str).cps.toList) with
 | true =>
  rw [if_pos rfl]
  unfold qGt
  exact qFQ qAP qRU qRZ (pl_n cx.w.params x) (pl_c cx.w.params _) (by decide) (by rw [sizeLine_eq]; omega) ok r1 fun p s2 r2 => k p _ s2 r2 (qLu hc) fun y hy => by
   rw [qRq] at hy
   exact Nat.le_trans (qDY hy) hx
 | false =>
  rw [if_neg Bool.false_ne_true]
  exact evO (qAt qAP (csv0 cx.w d) 4).e (pl_b cx.w.params x) qAb ok r1 rfl fun p s2 r2 => k p [] s2 r2 (qLs hc) fun y hy => nomatch hy
theorem plain_len {ρ : Rho} {p : Addr × Addr} {hs : List Str} {o1 o2 : AO} (hp : ρ[2]? = some p) (r : Rel cx ρ ⟨qB8 x w, [o1, o2, .lst (hs.map .str)], [], []⟩ s) (hh : hs.length ≤ 200000) {Q : Bool → Shared → Prop} (k : ∀ s', Rel cx ρ ⟨qB8 x w, [o1, o2, .lst (hs.map .str)], [], []⟩ s' → Q (!(((hs.length : Nat) : Int) == 2)) s') :
  wpAny (MM cx.w) A (isTrue lenT (plE cx q a cd) (eval lenT (plE cx q a cd))) Q E s := by
 unfold lenT
 refine wpAny_isTrue_Compare1 (Call_Name rfl (nmL qAP (qUp cx.w.params x w _) r fun s1 r1 => qAT rfl (Calls.spliced_cons (nmO qAP (pl_h cx.w.params x w _) hp r1 fun s2 r2 => ?_)))) rfl
 refine oz22 (r2.hr.obj 2 _ p rfl hp) fun vs n h1 h2 => ?_
 have hl : vs.toArray.size = hs.length := by rw [List.size_toArray, ← h2.length, List.length_map]
 refine Calls.spliced_nil (len_list ⟨_, h1, rfl, n, rfl⟩ (by rw [hl]; omega) (wpAny_Constant_int (ne_int (wpAny_pure ?_))))
 rw [hl]; exact k _ (r2.toks _)
theorem qH1 {P : Str → Bool} {l : List Str} {j : Nat} {y : Str} (h : ∀ z ∈ l.take j, P z = true) (hy : l[j]? = some y) (hp : P y = true) : ∀ z ∈ l.take (j + 1), P z = true := fun z hz => by
 rw [List.take_add_one, hy] at hz
 rcases List.mem_append.mp hz with hz | hz
 ·exact h z hz
 ·rw [show z = y by simpa using hz]; exact hp
theorem qGC {P : Str → Bool} {l : List Str} (h : ∀ z ∈ l.take (l.map AV.str).length, P z = true) : l.all P = true := List.all_eq_true.mpr fun u hu => h u (by rw [List.length_map, List.take_length]; exact hu)
theorem qLK {P : Str → Bool} {l : List Str} {y : Str} (hy : y ∈ l) (h : P y = false) : l.all P = false := List.all_eq_false.mpr ⟨y, hy, by rw [h]; decide⟩
theorem qFY {y : Str} {hs : List Str} {p pI pH : Addr × Addr} {j : Nat} {ws : List Str} {px pn pf : Pos} (ok : AOK cx A (d + 1)) (r : Rel cx [p, pI, pH] ⟨qB8 x y, [.lst (ws.map .str), .lit 0 j, .lst (hs.map .str)], [], []⟩ s) (hl : ∀ z ∈ hs, z.length ≤ 100000) {Q : FP}
  (no : hs.all (fun z => qAG z.cps.toList) = false → ∀ ρ' S' s', Rel cx ρ' S' s' → Q (.ret (.bool false)) s') (yes : hs.all (fun z => qAG z.cps.toList) = true → ∀ s', Rel cx [p, pI] ⟨qDu x, [.lst (ws.map .str), .lit 0 j], [], []⟩ s' → Q .next s') :
  wpAny (MM cx.w) A (exec (.For (.Name "half" px) (.Name "halves" pn) [nthS qHB 0, .If qGO [ret0 (ifB i2)] [] (stP i2), .If qGN [ret0 (ifB i3)] [] (stP i3)] [] pf) (plE cx q a cd)) Q E s := by
 refine wpAny_For (nmO qAP (pl_h cx.w.params x y _) rfl r fun s8 r8 => ?_)
 refine qMF (k := 2) (n := 2) (loc' := qDu x) rfl rfl r8 (fun m => ∀ z ∈ hs.take m, qAG z.cps.toList = true) (fun z hz => nomatch hz) qAP qR0 ok.room.2 (fun pM m v s10 g10 hv r10 => qKI hv fun h hh e => ?_) (Nat.le_of_ble_eq_true rfl) (by simp [aoLt, avLt]) (fun e he => ?_) fun s10 g10 r10 => yes (qGC g10) s10 r10
 ·subst e
  exact qMp (x := x) (w := y) (h := h) ok r10 (hl h (List.mem_of_getElem? hh)) (fun ph S' s' r' => no (qLK (List.mem_of_getElem? hh) ph) _ S' s' r') fun ph s' r' => ⟨qH1 g10 hh ph, r'⟩
 ·rw [ls he]; exact ⟨rfl, rfl⟩
theorem qJr {y : Str} {p pI : Addr × Addr} {j : Nat} {ws : List Str} {px pn pf : Pos} (ok : AOK cx A (d + 1)) (r : Rel cx [p, pI] ⟨qId x y, [.lst (ws.map .str), .lit 0 j], [], []⟩ s) (hl : y.length ≤ 100000) {Q : FP}
  (no : qAz y.cps.toList = false → ∀ ρ' S' s', Rel cx ρ' S' s' → Q (.ret (.bool false)) s') (yes : qAz y.cps.toList = true → ∀ s', Rel cx [p, pI] ⟨qDu x, [.lst (ws.map .str), .lit 0 j], [], []⟩ s' → Q .next s') :
  wpAny (MM cx.w) A (execs [asgM "halves" "word" "split" qA, .If lenT [ret0 (ifB qL)] [] (stP qL), .For (.Name "half" px) (.Name "halves" pn) [nthS qHB 0, .If qGO [ret0 (ifB i2)] [] (stP i2), .If qGN [ret0 (ifB i3)] [] (stP i3)] [] pf] (plE cx q a cd)) Q E s := by
 refine wpAny_execs_cons ?_
 unfold asgM qGt
 refine wpAny_Assign_Name (qFQ qAP qOJ qOM (qV6 cx.w.params x y _) (qV9 cx.w.params _) (by decide) (by rw [sizeLine_eq]; omega) ok r fun pH s5 r5 => ?_) (qBj rfl)
 refine wm (qAu qAP (qV5 x y _) ⟨pH, rfl, rfl⟩ r5) (fun _ s6 r6 => ?_)
 replace r6 : Rel cx [p, pI, pH] ⟨qB8 x y, [.lst (ws.map .str), .lit 0 j, .lst ((Txt.split y ".").map .str)], [], []⟩ s6 := r6
 refine oz02 (qGI (w := y) (hs := Txt.split y ".") rfl) fun w1 w2 => ?_
 have hhl : ∀ z ∈ Txt.split y ".", z.length ≤ 100000 := fun z hz => by
  rw [qIJ] at hz
  exact Nat.le_trans (qDY hz) hl
 have hcount : (Txt.split y ".").length ≤ 200000 := by
  have := split_le y "."
  omega
 clear r5 r
 generalize Txt.split y "." = hs at *
 refine wpAny_execs_cons (wpAny_If (plain_len rfl r6 hcount fun s7 r7 => ?_))
 cases e7 : !(((hs.length : Nat) : Int) == 2) with
 | true =>
  rw [if_pos rfl]
  exact qFi (no (w1 fun z => by rw [z] at e7; exact nomatch e7) _ _ _ r7)
 | false =>
  rw [if_neg Bool.false_ne_true]
  have h2 : hs.length = 2 := by
   have : ((hs.length : Nat) : Int) = 2 := by simpa using e7
   omega
  rw [w2 h2] at no yes
  exact wpAny_execs_nil (wpAny_execs_cons (qFY ok r7 hhl no fun hy s' r' => wpAny_execs_nil (yes hy s' r')))
theorem qJv (ok : AOK cx A (d + 1)) (r : Rel cx [] ⟨qDu x, [], [], []⟩ s) (hx : x.length ≤ 100000) {Q : FP} (k : ∀ ρ' S' s', Rel cx ρ' S' s' → Q (.ret (.bool (qB7 x.cps.toList))) s') :
  wpAny (MM cx.w) A (execs bPl (plE cx q a cd)) Q E s := by
 rw [qOK]
 refine wpAny_execs_cons (wpAny_For (qJt ok r hx fun p ws s2 r2 hp hw => ?_))
 rw [hp] at k
 refine qMF (k := 0) (n := 0) (loc' := []) rfl rfl r2 (fun j => ∀ y ∈ ws.take j, qAz y.cps.toList = true) (fun z hz => nomatch hz) qAP qRT ok.room.2 (fun pI j v s4 g hv r4 => qKI hv fun y hy e => ?_) (Nat.zero_le _) rfl (fun e he => nomatch he) fun s4 g r4 => ?_
 ·subst e
  exact qJr ok r4 (hw y (List.mem_of_getElem? hy)) (fun h ρ' S' s' r' => by have := k ρ' S' s' r'; rw [qLK (P := fun y => qAz y.cps.toList) (List.mem_of_getElem? hy) h] at this; exact this) fun h s' r' => ⟨qH1 (P := fun y => qAz y.cps.toList) g hy h, r'⟩
 ·refine rnR qAP (csv0 cx.w d) (qUq cx.w.params) qAb ok r4 fun ρ' c s5 p' v' r5 => ?_
  have := k ρ' _ s5 r5
  rw [qGC (P := fun y => qAz y.cps.toList) g] at this
  rw [show c = .bool true from v']
  exact this
end
theorem qJu {w : World} {A : Around} {s : Shared} {x : Str} {t : Tok} {Q E : VP} (rm : Room A 3) (k : Kept w s.heap) (hst : Stk A s.heap) (hx : x.length ≤ 100000)
  (hQ : ∀ s', Kp [] (qAa A) s.heap s'.heap → SameRest s s' → Q (.bool (qB7 x.cps.toList)) s') : codeAny (MM w) A (.call (.ref 818) ⟨[.str x t], []⟩) (ends Q E) s := by
 refine qBl (d := 1) (ρ := []) (H := []) (args := [.str x]) (qP0 w) rm (HR.nil k) (fun a ha => ⟨let ⟨o, e, _⟩ := hst.there a ha; ⟨o, e⟩, nofun⟩) (.cons ⟨t, rfl⟩ .nil) rfl fun s1 E' hL r ok => ?_
 rw [qRx] at ok ⊢
 exact qJv (cx := cxIn w A s [] []) ok r hx fun ρ' S' s' r' => hQ s' r'.kp r'.rest
end
noncomputable def KR (P : Params) : Frag := [(55, o55 P), (56, o56 P), (759, o759 P)]
theorem qSw (P : Params) : [55, 56, 759] = (KR P).map (·.1) := by kernel_rfl
theorem qWI (P : Params) : [55, 56, 759].map (H1 P).get? = (KR P).map fun p => some p.2 := by kernel_rfl
theorem Kept.kr {w : World} {h : Heap} (k : Kept w h) : (KR w.params).In h := fun a o e => (k a o (Frag.in_of (qSw w.params) (qWI w.params) a o e)).1 fun z => by
 subst z
 have : (KR w.params).lookup 753 = none := by kernel_rfl
 rw [this] at e; cases e
noncomputable def srC : Array Nat := #[14, 17, 4, 1, 1, 21, 9, 0, 604043296, 1, 0, 0, 0, 0, 0, 8, 4, 0, 13, 14, 21, 9, 0, 604043296, 1, 0, 0, 0, 0, 0, 8, 4, 0, 1]
noncomputable def qH8 (x : Except String (Bool × Sre.Seen)) : Bool := match x with
 | .ok (false, _) => true
 | _ => false
theorem qKZ {x : Except String (Bool × Sre.Seen)} (h : qH8 x = true) : ∃ s, x = .ok (false, s) := by
 unfold qH8 at h
 split at h
 ·exact ⟨_, rfl⟩
 ·cases h
noncomputable def qQv : List Nat := [45, 46, 48, 49, 50, 51, 52, 53, 54, 55, 56, 57]
theorem qQu {c : Nat} (h : bare c) : c ∈ qQv := by
 have key : ∀ c < 58, 48 ≤ c → c ∈ qQv := by decide +kernel
 rcases h with rfl | rfl | h
 ·decide
 ·decide
 ·exact key c (by omega) h.1
theorem qUU {c : Nat} (h : bare c) (seen : Sre.Seen) : qH8 (Sre.inSet srC c srC.size 5 true seen) = true := by
 have key : ∀ c ∈ qQv, qH8 (Sre.inSet srC c srC.size 5 true seen) = true := by
  simp only [qQv, List.forall_mem_cons]
  exact ⟨by kernel_rfl, by kernel_rfl, by kernel_rfl, by kernel_rfl, by kernel_rfl, by kernel_rfl, by kernel_rfl, by kernel_rfl, by kernel_rfl, by kernel_rfl, by kernel_rfl, by kernel_rfl, fun _ h => nomatch h⟩
 exact key c (qQu h)
theorem adm {m : Sre.M} (hc : m.code = srC) (ht : ∀ i, i < m.lim → bare (m.text.getD i 0)) : ∀ (k i : Nat) (seen : Sre.Seen), ∃ s, Sre.M.admitted m k i seen = .ok (none, s)
 | 0, i, seen => ⟨seen, rfl⟩
 | k + 1, i, seen => by
  unfold Sre.M.admitted
  split
  ·exact ⟨seen, rfl⟩
  ·rename_i hi
   obtain ⟨s1, e⟩ := qKZ (qUU (ht i (by omega)) seen)
   rw [hc, e]
   exact adm hc ht k (i + 1) s1
theorem qRN {m : Sre.M} (h1 : m.outcome = none) (h2 : m.answer = some false) (h3 : m.frames = []) : m.runFor 4 = { m with outcome := some .failed } := by
 have e : m.step = { m with outcome := some .failed } := by
  unfold Sre.M.step
  rw [h1, h2, h3]
  rfl
 unfold Sre.M.runFor
 rw [h1]
 simp only [Option.isSome_none, Bool.false_eq_true, if_false]
 rw [e]
 unfold Sre.M.runFor
 rfl
theorem qPM {m : Sre.M} (hc : m.code = srC) (ht : ∀ i, i < m.lim → bare (m.text.getD i 0)) (ho : m.outcome = none) (hf : m.frames = []) : (m.attemptFrom 0 true).outcome = none ∧ (m.attemptFrom 0 true).answer = some false ∧ (m.attemptFrom 0 true).frames = [] := by
 have h1 : m.hasFirstSet = true := by unfold Sre.M.hasFirstSet; rw [hc]; kernel_rfl
 obtain ⟨s, e⟩ := adm hc ht (m.lim + 1 - 0) 0 m.seen
 unfold Sre.M.attemptFrom
 rw [h1, e]
 exact ⟨ho, rfl, hf⟩
theorem qJf {text : Array Nat} (h : ∀ c ∈ text.toList, bare c) (hn : 0 < text.size) : (Sre.forSearch srC text 0 0 text.size false).outcome = none ∧ (Sre.forSearch srC text 0 0 text.size false).answer = some false ∧ (Sre.forSearch srC text 0 0 text.size false).frames = [] := by
 have e1 : (Sre.header srC).1 = 1 := by kernel_rfl
 have e3 : (decide (0 > text.size) || decide (text.size - 0 < 1)) = false := by rw [decide_eq_false (by omega), decide_eq_false (by omega)]; rfl
 have ht : ∀ i, i < text.size → bare (text.getD i 0) := fun i hi => by
  refine h _ ?_
  simp [Array.getD, hi]
 unfold Sre.forSearch
 dsimp only
 rw [e1, if_neg (by rw [e3]; decide)]
 exact qPM rfl ht rfl rfl
theorem qGl : entryFor table "re.Pattern.search" = some Builtin.«re.Pattern.search» := entryFor_of_tree (by kernel_rfl)
noncomputable abbrev srT (x : Str) (t : Tok) : Builtin.Re.ReTarget := { pattern := .ref 56, string := .str x t, code := srC, text := x.cps, kind := 0, groups := 0, pos := min (0 : Int).toNat x.cps.size, lim := min ((2 ^ 63 - 1 : Int)).toNat x.cps.size }
theorem qGP (w : World) (x : Str) (t : Tok) : peek (KR w.params) ⟨pw, w.params⟩ (Builtin.Re.reTarget "re.Pattern.search" "search" ⟨[.ref 56, .str x t], []⟩) = some (srT x t) := by kernel_rfl
theorem qJ2 (w : World) (x : Str) (t : Tok) : peek (KR w.params) ⟨pw, w.params⟩ (checkBoundCall "re.Pattern.search" ⟨[.ref 56, .str x t], []⟩) = some () := by kernel_rfl
section
section
variable {M : Model} {w : World} {A : Around} {E : VP} {s : Shared}
theorem qGf {f : Nat → PUnit → Sem (ForInStep PUnit)} {Q : PUnit → Shared → Prop} (hf : ∀ (i : Nat) (Q : ForInStep PUnit → Shared → Prop), Q (.yield PUnit.unit) s → wpAny M A (f i PUnit.unit) Q E s) (h : Q PUnit.unit s) : ∀ l : List Nat, wpAny M A (forIn l PUnit.unit f) Q E s
 | [] => wpAny_pure h
 | i :: l => by
  rw [List.forIn_cons]
  exact wpAny_bind (hf i _ (qGf hf h l))
theorem qM5 {m : Sre.M} (h1 : m.outcome = none) (h2 : m.answer = some false) (h3 : m.frames = []) : Builtin.Re.reDrive (2 ^ 64) m = pure { m with outcome := some .failed } := by
 rw [show (2 : Nat) ^ 64 = 18446744073709551615 + 1 by decide]
 unfold Builtin.Re.reDrive
 have e : Builtin.Re.reTurnSteps = 4 := rfl
 rw [e]
 dsimp only
 rw [qRN h1 h2 h3]
 rfl
theorem qP9 {m : Sre.M} {Q : Option Sre.M → Shared → Prop} (h1 : m.outcome = none) (h2 : m.answer = some false) (h3 : m.frames = []) (h : Q none s) : wpAny M A (Builtin.Re.reRunToEnd m) Q E s := by
 unfold Builtin.Re.reRunToEnd
 rw [qM5 h1 h2 h3]
 refine wpAny_bind (wpAny_pure ?_)
 refine wpAny_bind (qGf (fun i Q hQ => ?_) ?_ _)
 ·dsimp only
  split
  ·exact wpAny_bind (wpAny_rule (wpAny_pure hQ))
  ·exact wpAny_bind (wpAny_pure (wpAny_pure hQ))
 ·exact wpAny_pure h
theorem qNl (P : Params) (x : Str) (t : Tok) : ∃ k, callAny (.ref 759) ⟨[.str x t], []⟩ = (load 759 >>= k) ∧ k (o759 P) = (checkBoundCall "re.Pattern.search" ⟨[.ref 56, .str x t], []⟩ >>= fun _ => again (.builtin "re.Pattern.search" ⟨[.ref 56, .str x t], []⟩)) := ⟨_, rfl, by kernel_rfl⟩
theorem qFT (x : Str) (t : Tok) : (Code.builtin "re.Pattern.search" ⟨[.ref 56, .str x t], []⟩).quiet = true := Code.quiet_builtin _ (by decide +kernel)
theorem qGY {x : Str} {t : Tok} {Q E : VP} (k : Kept w s.heap) (hb : ∀ c ∈ x.cps.toList, bare c) (hn : 0 < x.length) (hx : x.length ≤ 100000) (h : Q .none s) : codeAny (MM w) A (.call (.ref 759) ⟨[.str x t], []⟩) (ends Q E) s := by
 with_reducible refine codeAny_of_tree ?_
 show wpAny _ _ (callAny (.ref 759) ⟨[.str x t], []⟩) _ _ s
 obtain ⟨k0, e1, e2⟩ := qNl w.params x t
 have hs : x.cps.size = x.length := rfl
 rw [e1]
 refine wpAny_bind (wpAny_load (o := o759 w.params) (k.kr 759 _ rfl) ?_)
 rw [e2]
 with_reducible refine wpAny_bind ((Looks.of_peek k.kr (qJ2 w x t)).here (wpAny_pure ⟨qFT x t, ?_⟩))
 with_reducible refine codeAny_builtin qGl ?_
 unfold Builtin.«re.Pattern.search»
 with_reducible refine wpAny_bind ((Looks.of_peek k.kr (qGP w x t)).here ?_)
 have e3 : (srT x t).lim = x.cps.size := by
  show min ((2 ^ 63 - 1 : Int)).toNat x.cps.size = x.cps.size
  have : ((2 ^ 63 - 1 : Int)).toNat = 9223372036854775807 := by decide
  omega
 have e4 : (srT x t).pos = 0 := Nat.zero_min _
 rw [e3, e4]
 unfold Builtin.Re.reAnswer
 obtain ⟨h1, h2, h3⟩ := qJf (text := x.cps) hb (by omega)
 with_reducible refine wpAny_bind (qP9 h1 h2 h3 ?_)
 exact wpAny_pure h
end
end
noncomputable abbrev fdQt (P : Params) : FuncData := fdOf (o766 P)
noncomputable abbrev bQt : List Stmt := qBh (F1 27)
noncomputable abbrev scQt : Scope := qAM (F1 27)
theorem qRv (P : Params) : (fdQt P).scope = scQt := by kernel_rfl
theorem qPZ (w : World) : FnFacts w 766 (fdQt w.params) bQt ["s"] :=
 .of1 (by kernel_rfl) (by kernel_rfl) (by kernel_rfl) fun _ => by kernel_rfl
noncomputable abbrev u1S : Stmt := nthS bQt 1
theorem qOH : bQt = [nthS bQt 0, .If (.Compare (qB5 "_find_unsafe" "s" (cmL (stE u1S))) [.Is] [.Constant .none (cKn (cmR (stE u1S))) (cQ (cmR (stE u1S)))] (PySem.Expr.pos (stE u1S))) [.Return (some (.Name "s" (cP (stE (ifB u1S))))) (stP (ifB u1S))] [] (stP u1S), nthS bQt 2] := by kernel_rfl
noncomputable abbrev qJq (x : Str) : LV := [("s", .str x)]
theorem qt_0 (P : Params) (x : Str) : run (KK P) cs0 scQt [nthS bQt 0] ⟨qJq x, [], [], [true]⟩ = some (.next, ⟨qJq x, [], [], []⟩, [x.length ≤ sizeLine, ((x.length : Int) != 0) = true]) := by kernel_rfl
theorem qt_n (P : Params) (x : Str) : qAi (KK P) scQt "_find_unsafe" ⟨qJq x, [], [], []⟩ = some (.lit (.ref 759), ⟨qJq x, [], [], []⟩, []) := by kernel_rfl
theorem qt_s (P : Params) (x : Str) : qAi (KK P) scQt "s" ⟨qJq x, [], [], []⟩ = some (.str x, ⟨qJq x, [], [], []⟩, []) := by kernel_rfl
theorem qRQ (w : World) : peek (KR w.params) ⟨pw, w.params⟩ (keeperOf (.ref 759)) = some .machine := by kernel_rfl
theorem qJp {w : World} {A : Around} {s : Shared} {x : Str} {t : Tok} {Q E : VP} (rm : Room A 3) (k : Kept w s.heap) (hF : ∀ a ∈ qAa A, ∃ ob, s.heap.get? a = some ob) (hb : ∀ c ∈ x.cps.toList, bare c) (hn : 0 < x.length) (hx : x.length ≤ 100000)
  (hQ : ∀ t' s', Kp [] (qAa A) s.heap s'.heap → SameRest s s' → Q (.str x t') s') : codeAny (MM w) A (.call (.ref 766) ⟨[.str x t], []⟩) (ends Q E) s := by
 have hkind : scQt.kind = .function := by kernel_rfl
 refine qBl (d := 1) (ρ := []) (H := []) (args := [.str x]) (qPZ w) rm (HR.nil k) (fun a ha => ⟨hF a ha, nofun⟩) (.cons ⟨t, rfl⟩ .nil) rfl fun s1 E' hL r ok => ?_
 rw [qRv] at ok ⊢
 rw [qOH]
 refine qBz (l1 := [nthS bQt 0]) (wm (qAF (cx := cxIn w A s [] []) (sc := scQt) hkind (csv0 w 1) _ _ _ _ _ (qt_0 w.params x) (aCc (by rw [sizeLine_eq]; omega) (aCc (by simp; omega) qAb)) _ _ _ _ ok (r.same rfl rfl) fun _ _ x => x.elim) (fun f s2 z => ?_))
 obtain ⟨ρ2, p2, e2, r2⟩ := z
 cases e2
 obtain rfl : ρ2 = [] := r2.hr.nil_rho
 dsimp only
 refine wpAny_execs_cons (wpAny_If (wpAny_isTrue_Compare1 ?_ rfl))
 unfold qB5
 refine Call_Name rfl (wm (qAD (cx := cxIn w A s [] []) hkind (qt_n w.params x) r2) (fun fv s3 zz => ?_))
 obtain ⟨ρ3, p3, v3, r3⟩ := zz
 cases v3
 obtain rfl : ρ3 = [] := r3.hr.nil_rho
 refine callWith_of (P := fun h => (KR w.params).In h) (by rw [qCv rfl]; rfl) (fun h X => ⟨.machine, .inr (.inl rfl), Looks.of_peek X (qRQ w)⟩) (qB1 rfl (Calls.spliced_cons (wm (qAD (cx := cxIn w A s [] []) hkind (qt_s w.params x) r3) (fun xv s4 zz => ?_))))
 obtain ⟨ρ4, p4, ⟨t4, e4⟩, r4⟩ := zz
 subst e4
 obtain rfl : ρ4 = [] := r4.hr.nil_rho
 refine Calls.spliced_nil ⟨r4.hr.kept.kr, wpAny_call ?_⟩
 refine qGY r4.hr.kept hb hn hx ?_
 refine Constant_none (wpAny_is_self rfl (wpAny_pure ?_))
 simp only [if_true]
 refine wpAny_execs_cons (wpAny_Return_some (wm (qAD (cx := cxIn w A s [] []) hkind (qt_s w.params x) r4) (fun xv s5 zz => ?_)))
 obtain ⟨ρ5, p5, ⟨t5, e5⟩, r5⟩ := zz
 subst e5
 exact hQ t5 s5 r5.kp r5.rest
section
structure EltR (w : World) (cenv : Env) (x : Str) (elt : PySem.Expr) (Dp Un : Nat) (fp wr : List Addr) (P F : Nat → Value → Prop) (href : Heap) : Prop where
 elt : ∀ (A' : Around) (E' : VP) (i : Nat) (v : Value) (s₂ : Shared) (m2 : Str → Option Value), A'.handled = none → A'.depth ≤ Dp → A'.units ≤ Un → P i v → s₂.heap.Ns cenv.locals m2 → m2 x = some v →
  (∀ b ∈ fp, b ∉ wr → ∀ o, href.get? b = some o → s₂.heap.get? b = some o) → wpAny (MM w) A' (eval elt cenv) (fun y s₃ => F i y ∧ Keeps s₂ s₃) E' s₂
noncomputable abbrev qF4 (elt iter : PySem.Expr) (x : Str) (px : Pos) (scope : Scope) (pos : Pos) (I : Addr) (cenv : Env) : Code := .compLoop (.GeneratorExp elt [⟨.Name x px, iter, [], 0⟩] scope pos) 0 (.ref I) .none cenv
noncomputable abbrev qH5 (elt iter : PySem.Expr) (x : Str) (px : Pos) (scope : Scope) (pos : Pos) (I : Addr) (cenv : Env) : Code := .compStart (.GeneratorExp elt [⟨.Name x px, iter, [], 0⟩] scope pos) 0 (.ref I) .none cenv
noncomputable abbrev allP : Nat → Bool := fun _ => true
section
variable {w : World} {A : Around} {elt iter : PySem.Expr} {x : Str} {px : Pos} {scope : Scope} {pos : Pos} {I : Addr} {fp wr : List Addr} {n0 Dp Un : Nat} {P F : Nat → Value → Prop} {St0 : Nat → Heap → Prop} {cenv : Env} {href : Heap}
theorem qK0 (hh : A.handled = none) (hd : A.depth + 1 ≤ Dp) (hu : A.units + 3 ≤ Un) (W0 : ∀ A' : Around, A'.handled = none → Walks pw w A' I fp wr n0 P St0)
  (hx : cenv.kindOf x = some .local) (hp : (cenv.scope.kind == .class || (cenv.scope.kind == .module && cenv.locals != cenv.globals)) = false) (hco : cenv.scope.isCoroutine = false) (hCf : cenv.locals ∉ fp) (hq : EltR w cenv x elt Dp Un fp wr P F href) :
  ∀ (k i : Nat) (s0 s : Shared) (m : Str → Option Value), n0 - i = k → i ≤ n0 → St0 i s.heap → s.heap.Ns cenv.locals m → GenSince cenv.locals wr s0 s → (∀ b ∈ fp, b ∉ wr → ∀ o, href.get? b = some o → s.heap.get? b = some o) →
   Seg (MM w) A (fun n s0 r s1 => r = .ok .next ∧ (n = 0 ∧ GenSince cenv.locals wr s0 s1)) (genProto cenv.locals fp wr allP n0 F) (passing allP n0 i).length s0 (qF4 elt iter x px scope pos I cenv) ((MM w).den (qF4 elt iter x px scope pos I cenv)) [] s := by
 have hov : (A.over (qF4 elt iter x px scope pos I cenv) []).handled = none := hh
 have hod : (A.over (qF4 elt iter x px scope pos I cenv) []).depth ≤ Dp := hd
 have hou : (A.over (qF4 elt iter x px scope pos I cenv) []).units ≤ Un := hu
 have hCw : cenv.locals ∉ wr := fun h => hCf ((W0 A hh).sub _ h)
 have open_ : ∀ {s0 s : Shared} {n : Nat}, Seg (MM w) A (fun n s0 r s1 => r = .ok .next ∧ (n = 0 ∧ GenSince cenv.locals wr s0 s1)) (genProto cenv.locals fp wr allP n0 F) n s0 (qF4 elt iter x px scope pos I cenv)
   ((compTurn (.GeneratorExp elt [⟨.Name x px, iter, [], 0⟩] scope pos) 0 (.ref I) .none cenv).onRaise (leaving cenv)) [] s → Seg (MM w) A (fun n s0 r s1 => r = .ok .next ∧ (n = 0 ∧ GenSince cenv.locals wr s0 s1)) (genProto cenv.locals fp wr allP n0 F) n s0 (qF4 elt iter x px scope pos I cenv) ((MM w).den (qF4 elt iter x px scope pos I cenv)) [] s := fun h => h
 intro k
 induction k with
 | zero =>
  intro i s0 s m hk hi hst hn hsince hkp
  have hin : i = n0 := by omega
  subst hin
  refine open_ ?_
  rw [compTurn_gen, Sem.onRaise_eq_wrap]
  refine seg_bind_wrap (wpAny_standAt (seg_bind_wrap ((W0 _ hov).done s _ _ hst fun h' tk hk' => ?_)))
  exact seg_end (.ok .next) ⟨rfl, by rw [passing_end]; rfl, hsince.step fun b o _ hw e => hk' b o hw e⟩
 | succ k ih =>
  intro i s0 s m hk hi hst hn hsince hkp
  have hlt : i < n0 := by omega
  refine open_ ?_
  rw [compTurn_gen, Sem.onRaise_eq_wrap]
  refine seg_bind_wrap (wpAny_standAt (seg_bind_wrap ((W0 _ hov).item i s _ _ hlt hst fun v h1 tk1 hPv hst1 hk1 => ?_)))
  refine seg_bind_wrap (wpAny_of_eq (rfl : letOwnedTupleGo (.Name x px) (.ref I) v = pure ()) ?_)
  refine seg_bind_wrap (wpAny_assign_Name (wpAny_storeName_local hx (hn.at' fun o e => hk1 _ o hCw e) (fun h2 hn2 hs2 => ?_) hp))
  have up : ∀ b o, b ≠ cenv.locals → b ∉ wr → s.heap.get? b = some o → h2.get? b = some o := fun b o hbC hbw e => hs2.extBut b o hbC (hk1 b o hbw e)
  have st2 : St0 (i + 1) h2 := (W0 A hh).frame _ _ _ hst1 fun b hb o e => hs2.extBut b o (fun h => hCf (h ▸ hb)) e
  have kp2 : ∀ b ∈ fp, b ∉ wr → ∀ o, href.get? b = some o → h2.get? b = some o := fun b hb hbw o e => up b o (fun h => hCf (h ▸ hb)) hbw (hkp b hb hbw o e)
  refine seg_bind_wrap (wpAny_pure ?_)
  rw [passing_true hlt rfl, List.length_cons]
  simp only [if_true]
  have hy : ∀ v, yieldOut cenv v = yieldValue v := fun v => by simp only [yieldOut, hco, Bool.false_eq_true, if_false]
  simp only [hy]
  rw [Sem.bind_eq_wrap', Sem.bind_eq_wrap', Sem.wrap_wrap, Sem.wrap_wrap]
  refine seg_wrap (wpAny_mono (hq.elt _ _ i v _ _ hov hod hou hPv hn2 (by simp) kp2) (fun y s4 h4 => ?_) fun _ _ e => e)
  obtain ⟨hFy, h4, tk4, rfl, hk4⟩ := h4
  have since4 : GenSince cenv.locals wr s0 { s with heap := h4, toks := tk4 } := hsince.step fun b o hbC hbw e => hk4 b o (up b o hbC hbw e)
  refine seg_at (seg_yield rfl rfl rfl ⟨⟨i, passing_here hlt rfl, hFy⟩, since4, fun s'' hal => ?_⟩)
  exact seg_again rfl (ih (i + 1) s'' s'' _ (by omega) hlt ((W0 A hh).frame _ _ _ st2 fun b hb o e => hal b (List.mem_cons_of_mem _ hb) o (hk4 b o e)) ((hn2.keeps hk4).at' fun o e => hal _ (List.mem_cons_self ..) o e) (GenSince.refl _ _ _)
   fun b hb hbw o e => hal b (List.mem_cons_of_mem _ hb) o (hk4 b o (kp2 b hb hbw o e)))
theorem qK1 (hh : A.handled = none) (hd : A.depth + 1 ≤ Dp) (hu : A.units + 3 ≤ Un) (W0 : ∀ A' : Around, A'.handled = none → Walks pw w A' I fp wr n0 P St0)
  (hx : cenv.kindOf x = some .local) (hp : (cenv.scope.kind == .class || (cenv.scope.kind == .module && cenv.locals != cenv.globals)) = false) (hco : cenv.scope.isCoroutine = false) (hCf : cenv.locals ∉ fp) (hq : EltR w cenv x elt Dp Un fp wr P F href)
  (s0 s : Shared) (m : Str → Option Value) (hst : St0 0 s.heap) (hn : s.heap.Ns cenv.locals m) (hsince : GenSince cenv.locals wr s0 s) (hkp : ∀ b ∈ fp, b ∉ wr → ∀ o, href.get? b = some o → s.heap.get? b = some o) :
  Seg (MM w) A (fun n s0 r s1 => r = .ok .next ∧ (n = 0 ∧ GenSince cenv.locals wr s0 s1)) (genProto cenv.locals fp wr allP n0 F) (passing allP n0 0).length s0 (qH5 elt iter x px scope pos I cenv) ((MM w).den (qH5 elt iter x px scope pos I cenv)) [] s := by
 have hov : (A.over (qH5 elt iter x px scope pos I cenv) []).handled = none := hh
 have loop := qK0 (iter := iter) (px := px) (scope := scope) (pos := pos) hh hd hu W0 hx hp hco hCf hq n0 0 s0 s m (Nat.sub_zero _) (Nat.zero_le _) hst hn hsince hkp
 show Seg _ A _ _ _ s0 _ ((compStart (.GeneratorExp elt [⟨.Name x px, iter, [], 0⟩] scope pos) 0 (.ref I) .none cenv).onRaise (leaving cenv)) [] s
 unfold compStart
 rw [Sem.onRaise_eq_wrap]
 show Seg _ A _ _ _ s0 _ ((ask >>= _).wrap _ _ _ _) [] s
 refine seg_bind_wrap (wpAny_askSetting ?_)
 split
 ·exact seg_again rfl loop
 ·refine seg_bind_wrap (wpAny_rule ?_)
  show Seg _ A _ _ _ s0 _ ((standAt iter.pos >>= _).wrap _ _ _ _) [] s
  exact seg_bind_wrap (wpAny_standAt (seg_bind_wrap ((W0 _ hov).self 0 s _ _ hst (seg_again rfl loop))))
theorem qPL {a : Addr} {g : Nat} {s : Shared} {m : Str → Option Value} (hh : A.handled = none) (hd : A.in1.depth + 1 ≤ Dp) (hu : A.in1.units + 3 ≤ Un) (W0 : ∀ A' : Around, A'.handled = none → Walks pw w A' I fp wr n0 P St0)
  (hx : cenv.kindOf x = some .local) (hp : (cenv.scope.kind == .class || (cenv.scope.kind == .module && cenv.locals != cenv.globals)) = false) (hco : cenv.scope.isCoroutine = false) (hCf : cenv.locals ∉ fp) (hq : EltR w cenv x elt Dp Un fp wr P F s.heap)
  (hg : s.heap.IsGen a g) (hgs : s.gens[g]? = some (.fresh (qH5 elt iter x px scope pos I cenv))) (hst : St0 0 s.heap) (hn : s.heap.Ns cenv.locals m) (hl : s.heap.NoLimit) : GenAt pw w A a g cenv.locals fp wr allP n0 F 0 s :=
 ⟨hg, hl, _, hgs, fun s'' hal => ⟨rfl, qK1 (A := A.in1) hh hd hu W0 hx hp hco hCf hq s'' s'' m ((W0 A hh).frame _ _ _ hst fun b hb o e => hal b (List.mem_cons_of_mem _ hb) o e) (hn.at' fun o e => hal _ (List.mem_cons_self ..) o e) (GenSince.refl _ _ _)
  fun b hb _ o e => hal b (List.mem_cons_of_mem _ hb) o e⟩⟩
end
end
noncomputable def geE : PySem.Expr → PySem.Expr
 | .GeneratorExp e _ _ _ => e
 | e => e
noncomputable def geT : PySem.Expr → PySem.Expr
 | .GeneratorExp _ (⟨t, _, _, _⟩ :: _) _ _ => t
 | e => e
noncomputable def geI : PySem.Expr → PySem.Expr
 | .GeneratorExp _ (⟨_, i, _, _⟩ :: _) _ _ => i
 | e => e
noncomputable def geS : PySem.Expr → Scope
 | .GeneratorExp _ _ s _ => s
 | _ => qQH
noncomputable def geP : PySem.Expr → Pos
 | .GeneratorExp _ _ _ p => p
 | _ => default
noncomputable abbrev fdJn (P : Params) : FuncData := fdOf (o758 P)
noncomputable abbrev bJn : List Stmt := qBh (F1 24)
noncomputable abbrev scJn : Scope := qAM (F1 24)
theorem qRz (P : Params) : (fdJn P).scope = scJn := by kernel_rfl
theorem qP3 (w : World) : FnFacts w 758 (fdJn w.params) bJn ["split_command"] :=
 .of1 (by kernel_rfl) (by kernel_rfl) (by kernel_rfl) fun _ => by kernel_rfl
noncomputable abbrev jS : Stmt := nthS bJn 0
noncomputable abbrev jC : PySem.Expr := stE jS
noncomputable abbrev jG : PySem.Expr := cA 0 jC
noncomputable abbrev jSc : Scope := geS jG
noncomputable def genE : PySem.Expr := .GeneratorExp (qB5 "quote" "arg" (geE jG)) [⟨.Name "arg" (cP (geT jG)), .Name "split_command" (cP (geI jG)), [], 0⟩] jSc (geP jG)
theorem qPu : bJn = [.Return (some (.Call (.Attribute (.Constant (.str " ") (cKn (cF (cF jC))) (cQ (cF (cF jC)))) "join" (cP (cF jC))) [genE] [] (cP jC))) (stP jS)] := by kernel_rfl
theorem qSz : ((cP (cF jC)).endLine == (cP jC).line) = true := by kernel_rfl
theorem qMh : qBG genE = true := by kernel_rfl
theorem qUS : jSc.isCoroutine = false := by kernel_rfl
theorem qSC : ∀ y ∈ jSc.names, y.2 ≠ .cell := by decide +kernel
theorem jn_0 : jSc.names.lookup (".0" : Str) = some NameKind.local := by kernel_rfl
theorem qQQ : jSc.names.lookup (Str.ofString "arg") = some .local := by kernel_rfl
theorem qPv : jSc.names.lookup (Str.ofString "quote") = some .globalImplicit := by kernel_rfl
theorem qFh : jSc.kind = .function := by kernel_rfl
theorem qPw : scJn.kind = .function := by kernel_rfl
theorem qSA (P : Params) : (fdJn P).code = .ref 757 := by kernel_rfl
theorem qSB (env : Env) : closureFor jSc env = pure [] := by kernel_rfl
theorem qRP (P : Params) : nsIn (KK P) mainGlobals (Str.ofString "quote") = some (some (.ref 766)) := by kernel_rfl
theorem qJo (P : Params) : keepIn (KK P) (.ref 766) = true := by kernel_rfl
noncomputable def KB (P : Params) : Frag := [(3, o3v7 P), (4, o4 P)]
theorem qSy (P : Params) : [3, 4] = (KB P).map (·.1) := by kernel_rfl
theorem qWK (P : Params) : [3, 4].map (H1 P).get? = (KB P).map fun p => some p.2 := by kernel_rfl
theorem Kept.kb {w : World} {h : Heap} (k : Kept w h) : (KB w.params).In h := fun a o e => (k a o (Frag.in_of (qSy w.params) (qWK w.params) a o e)).1 fun z => by
 subst z
 have : (KB w.params).lookup 753 = none := by kernel_rfl
 rw [this] at e; cases e
theorem qTc (w : World) (r : Addr) : peek (KB w.params) ⟨pw, w.params⟩ (builtinsFor mainGlobals r) = some builtinsNs := by kernel_rfl
theorem qNE {α : Type} {M : Model} {A : Around} {t : Sem α} {Q : α → Shared → Prop} {E : VP} {s : Shared} (h : wpAny M { A with frames := none } t Q E s) : wpAny M A t Q E s :=
 fun Γ p hΓ => h Γ p ⟨hΓ.1, hΓ.2.1, (fun l hl => nomatch hl), hΓ.2.2.2.1, hΓ.2.2.2.2⟩
theorem qOQ (w : World) : (KK w.params).lookup 757 = some (o757 w.params) := by kernel_rfl
theorem qLE (P : Params) : ∃ vs file tf flags tg text tt, (o757 P).data = .fields vs ∧ (o757 P).cls = .type "code" ∧ vs[11]? = some (.ref 753) ∧ vs.getD 11 .none = .ref 753 ∧ vs.getD 18 .none = .str file tf ∧ vs.getD 7 .none = .int flags tg ∧ vs.getD 9 .none = .bool true ∧ vs.getD 10 .none = .int text tt :=
 ⟨_, _, _, _, _, _, _, rfl, rfl, rfl, rfl, rfl, rfl, rfl, rfl⟩
theorem qGa {w : World} {h : Heap} (k : Kept w h) (g : h.get? 753 = some (o753 w.params)) : h.IsCode 757 753 #[] ∧ h.TableAt 757 753 #[] := by
 obtain ⟨vs, file, tf, flags, tg, text, tt, d1, d2, d3, d4, d5, d6, d7, d8⟩ := qLE w.params
 have g1 := k.kk 757 _ (qOQ w)
 exact ⟨⟨_, vs, file, tf, flags, tg, true, text, tt, _, g1, d1, d4, d5, d6, d7, d8, g, rfl, trivial, by decide⟩, ⟨⟨_, vs, g1, d2, d1, d3⟩, g⟩⟩
theorem qPs {s s' : Shared} (k : Kp [] [] s.heap s'.heap) (r : SameRest s s') : Keeps s s' := by
 obtain ⟨h, g, d, tk, os⟩ := s'
 obtain ⟨r1, r2, r3⟩ := r
 dsimp only at r1 r2 r3
 subst r1 r2 r3
 refine ⟨h, tk, rfl, fun b o e => ?_⟩
 obtain ⟨sl, e1, e2⟩ := k.keep b o e nofun
 rw [e2 fun q => nomatch q] at e1
 exact e1
theorem qUR {w : World} {xs : List Str} {items : Array Value} {C It : Addr} {code : Value} {bi : Addr} {env : Env} {N : Nat} {href : Heap} (hg : env.globals = mainGlobals) (hit : ∀ (i : Nat) (v : Value), items[i]? = some v → (∃ t, v = .str (xs.getD i "") t) ∧ i < xs.length)
  (hx : ∀ x ∈ xs, (∀ c ∈ x.cps.toList, bare c) ∧ 0 < x.length ∧ x.length ≤ 100000) (hN : nS ≤ N) (hIt : nS ≤ It) (k : Kept w href) :
  EltR w (genEnv jSc [] C code bi env) (Str.ofString "arg") (qB5 "quote" "arg" (geE jG)) 890 8000 (List.range N) [It] (fun i v => items[i]? = some v) (fun i y => ∃ t, y = .str (xs.getD i "") t) href := by
 refine ⟨fun A' E' i v s2 m2 hh hd hu hP hn hm hk => qNE ?_⟩
 obtain ⟨⟨t, rfl⟩, hi⟩ := hit i v hP
 have kept2 : Kept w s2.heap := fun b o e => by
  have lt : b < nS := Kept.lt e
  have mem : b ∈ List.range N := List.mem_range.mpr (Nat.lt_of_lt_of_le lt hN)
  have ne : b ∉ [It] := fun q => absurd lt (by rw [ls q]; exact Nat.not_lt.mpr hIt)
  exact ⟨fun n => hk b mem ne o ((k b o e).1 n), let ⟨ob, z⟩ := (k b o e).2; ⟨ob, hk b mem ne ob z⟩⟩
 unfold qB5
 refine Call_Name rfl (qCG (P := w.params) qFh qPv hg (qRP w.params) kept2.kk ?_)
 refine qAx (K := KK w.params) rfl (qJo w.params) (Calls.spliced_cons (wpAny_Name (wpAny_loadName_local qFh qQQ hn hm ?_)))
 refine Calls.spliced_nil ⟨kept2.kk, wpAny_call ?_⟩
 have hxi : xs.getD i "" ∈ xs := by
  rw [List.getD_eq_getElem?_getD, List.getElem?_eq_getElem hi]; exact List.getElem_mem hi
 obtain ⟨h1, h2, h3⟩ := hx _ hxi
 exact qJp ⟨⟨by show A'.depth + 3 ≤ 900; omega, by show A'.units + 20 * 3 ≤ 9000; omega⟩, hh⟩ kept2 (fun a ha => nomatch ha) h1 h2 h3 fun t' s' k' rest' => ⟨⟨t', rfl⟩, qPs k' rest'⟩
theorem qG9 {w : World} {A : Around} {E : VP} {s : Shared} {env : Env} {pos : Pos} {x : Str} {t : Tok} {e : PySem.Expr} {Q : VP} (hs : qBG e = true)
  (h : wpAny (MM w) A (eval e env) (fun v s1 => wpAny (MM w) A (call (.builtin "str.join") [.str x t, v]) Q E s1) E s) : MethodOnS pw w A E "join" (.str x t) pos [(false, eval e env)] Q s := by
 have z := qAT (M := MM w) (A := A) (E := E) (s := s) (env := env) (pos := pos) (i := "str.join") (first := [.str x t]) (Q := Q) (es := [e]) (by unfold qA4; simp [hs]) (by
  rw [qAy hs]
  exact Calls.spliced_cons (wpAny_mono h (fun v s1 z => Calls.spliced_nil z) fun _ _ x => x))
 rw [qAy hs] at z
 exact ⟨"str", _, F.plainAttrs_str, F.slot_str_join, F.type_str_join, typeIs_str _ _ _, (fun _ e => nomatch e), z⟩
theorem qIf (n : Nat) : passing allP n 0 = List.range n := by
 unfold passing
 rw [List.drop_zero, List.filter_eq_self.mpr (fun _ _ => rfl)]
theorem qNP {l : List (Str × Tok)} {xs : List Str} (hi : ItemsOf (fun j y => ∃ i, (passing allP xs.length 0)[j]? = some i ∧ ∃ t, y = Value.str (xs.getD i "") t) (strValues l).toArray (passing allP xs.length 0).length) : l.map (·.1) = xs := by
 rw [qIf] at hi
 obtain ⟨h1, h2⟩ := hi
 have hl : l.length = xs.length := by
  rw [List.size_toArray, List.length_range] at h1
  rw [← h1]; unfold strValues; simp
 refine List.ext_getElem? fun j => ?_
 by_cases hj : j < l.length
 ·have e : (strValues l).toArray[j]? = some (.str l[j].1 l[j].2) := by
   unfold strValues
   simp [hj]
  obtain ⟨i, e1, t, e2⟩ := h2 j _ e
  rw [List.getElem?_range (by omega)] at e1
  have e1 := Option.some.inj e1
  subst e1
  have e2 := (Value.str.inj e2).1
  rw [List.getElem?_map, List.getElem?_eq_getElem hj, Option.map_some, e2, List.getD_eq_getElem?_getD, List.getElem?_eq_getElem (by omega)]
  rfl
 ·rw [List.getElem?_eq_none (by rw [List.length_map]; omega), List.getElem?_eq_none (by omega)]
theorem qMf {w : World} {A : Around} {E : VP} {s2 : Shared} {D : Addr} {xs : List Str} {vs : List Value} {t : Tok} {q : Str} {L a : Addr} {cd : Value} {Q : VP} (hcd : cd = .ref 757)
  (hh : A.handled = none) (hd : A.depth ≤ 800) (hu : A.units ≤ 7000) (k2 : Kept w s2.heap) (h753 : s2.heap.get? 753 = some (o753 w.params)) (hl : IsLst s2.heap D vs) (rv : vrels [] (xs.map .str) vs)
  (hx : ∀ x ∈ xs, (∀ c ∈ x.cps.toList, bare c) ∧ 0 < x.length ∧ x.length ≤ 100000) (hok : JoinOk " " xs = true) (hn : xs.length ≤ 100000)
  (hQ : ∀ t' s', (∀ b o, b ≠ 753 → s2.heap.get? b = some o → s'.heap.get? b = some o) → (∃ more, s'.heap.get? 753 = some { cls := .none, data := .fields more }) → (AllBare s2.gens → AllBare s'.gens) → s'.drawn = s2.drawn ∧ s'.os = s2.os → Q (.str (Txt.join " " xs) t') s') :
  wpAny (MM w) A (pyIter (.ref D)) (fun it s3 => s3.heap.NoLimit ∧ wpAny (MM w) A (genexprCode (envOf q scJn L a cd) (geP jG) ((envOf q scJn L a cd).qual ++ "<genexpr>") jSc) (fun code s4 => wpAny (MM w) A (builtinsFor (envOf q scJn L a cd).globals (envOf q scJn L a cd).builtins) (fun bi s5 =>
   ∀ h', h'.Ns s5.heap.objs.size (fun y => if y = ".0" then some it else none) → Heap.SameBut s5.heap.objs.size (s5.heap.push { cls := .type "frame", data := .dict #[] }) h' →
    wpAny (MM w) A (call (.builtin "str.join") [.str " " t, .ref h'.objs.size]) Q E { s5 with
      gens := s5.gens.push (.fresh (.compStart (.GeneratorExp (qB5 "quote" "arg" (geE jG)) [⟨.Name "arg" (cP (geT jG)), .Name "split_command" (cP (geI jG)), [], 0⟩] jSc (geP jG)) 0 it .none (genEnv jSc [] s5.heap.objs.size code bi (envOf q scJn L a cd)))),
      toks := s5.toks + 1 + 1 + 1,
      heap := h'.push { cls := .type "generator", data := .fields #[.int s5.gens.size 0, .str "<genexpr>" (s5.toks + 1), .str ((envOf q scJn L a cd).qual ++ "<genexpr>") (s5.toks + 1 + 1)] } }) E s4) E s3) E s2 := by
 subst hcd
 have hvl : vs.length = xs.length := by rw [← rv.length, List.length_map]
 have sz2 : nS ≤ s2.heap.objs.size := by
  have : ((H1 w.params).get? 823).isSome = true := by kernel_rfl
  obtain ⟨o, e⟩ := Option.isSome_iff_exists.mp this
  obtain ⟨_, z⟩ := (k2 _ _ e).2
  exact Heap.lt_size z
 obtain ⟨oD, e1, c1, n, d1⟩ := hl
 refine wpAny_pyIter_list (items := vs.toArray) ⟨_, e1, c1, n, d1⟩ ?_
 generalize hIt : s2.heap.objs.size = It at *
 have ltD : @LT.lt Nat _ D It := by rw [← hIt]; exact Heap.lt_size e1
 have g824 : 824 ≤ It := by rw [← hIt]; rw [← hIt] at sz2; exact sz2
 have ne753 : (It : Addr) ≠ 753 := Nat.ne_of_gt (by omega)
 generalize hh3 : s2.heap.push { cls := .type "list_iterator", data := .fields #[.ref D, .int 0 0] } = h3
 have keep3 : ∀ b o, s2.heap.get? b = some o → h3.get? b = some o := fun b o e => by rw [← hh3]; exact Heap.get?_push_of_some _ e
 have gIt : h3.get? It = some { cls := .type "list_iterator", data := .fields #[.ref D, .int 0 0] } := by rw [← hh3, ← hIt]; exact Heap.get?_push_size _ rfl
 have k3 : Kept w h3 := k2.keeps keep3
 have sz3 : h3.objs.size = It + 1 := by rw [← hh3, Heap.size_push, hIt]
 refine ⟨qD4 k3, ?_⟩
 obtain ⟨ic, tb⟩ := qGa k3 (keep3 _ _ h753)
 refine wpAny_genexprCodeX (c := 757) (P := 753) (ps := #[]) rfl ic tb rfl fun c' h4 tk4 hx4 hc1 hc2 ic4 _ tb4 _ => ?_
 have k4 : Kept w h4 := fun b o e => by
  refine ⟨fun n => hx4 b o n ((k3 b o e).1 n), ?_⟩
  by_cases z : b = 753
  ·exact ⟨_, by rw [z]; exact tb4.2⟩
  ·exact ⟨o, hx4 b o z ((k3 b o e).1 z)⟩
 refine (Looks.of_peek k4.kb (qTc w _)).here ?_
 intro h' hn' hs'
 dsimp only at hn' hs' ⊢
 have lt4 : It < h4.objs.size := Heap.lt_size (hx4 It _ ne753 gIt)
 generalize hC : h4.objs.size = C at *
 have sz5 : h'.objs.size = C + 1 := by rw [hs'.1, Heap.size_push, hC]
 have keep5 : ∀ b o, h4.get? b = some o → h'.get? b = some o := fun b o e => hs'.extBut b o (Nat.ne_of_lt (by rw [← hC]; exact Heap.lt_size e)) (Heap.get?_push_of_some _ e)
 generalize hh6 : h'.push { cls := .type "generator", data := .fields #[.int s2.gens.size 0, .str "<genexpr>" (tk4 + 1), .str ((envOf q scJn L a (.ref 757)).qual ++ "<genexpr>") (tk4 + 1 + 1)] } = h6
 have keep6 : ∀ b o, h4.get? b = some o → h6.get? b = some o := fun b o e => by rw [← hh6]; exact Heap.get?_push_of_some _ (keep5 b o e)
 have k6 : Kept w h6 := k4.keeps keep6
 have gG : h6.get? h'.objs.size = some { cls := .type "generator", data := .fields #[.int s2.gens.size 0, .str "<genexpr>" (tk4 + 1), .str ((envOf q scJn L a (.ref 757)).qual ++ "<genexpr>") (tk4 + 1 + 1)] } := by rw [← hh6]; exact Heap.get?_push_size _ rfl
 have sz6 : h6.objs.size = C + 2 := by rw [← hh6, Heap.size_push, sz5]
 have st0 : h6.IsListIter It D 0 ∧ h6.IsList D vs.toArray := ⟨⟨_, keep6 _ _ (hx4 It _ ne753 gIt), rfl, rfl⟩, ⟨_, keep6 _ _ (hx4 D _ (fun z => by rw [z, h753] at e1; cases e1; cases c1) (keep3 _ _ e1)), c1, n, d1⟩⟩
 have W0 : ∀ A' : Around, A'.handled = none → Walks pw w A' It (List.range C) [It] vs.toArray.size (fun i v => vs.toArray[i]? = some v) (fun i h => h.IsListIter It D i ∧ h.IsList D vs.toArray) := fun A' hA =>
  (Walks.list hA It D (Nat.ne_of_lt ltD) vs.toArray).mono_fp fun b hb => by
   rcases lc hb with rfl | hb
   ·exact List.mem_range.mpr (by omega)
   ·rw [ls hb]; exact List.mem_range.mpr (by omega)
 have hit : ∀ (i : Nat) (v : Value), vs.toArray[i]? = some v → (∃ t, v = .str (xs.getD i "") t) ∧ i < xs.length := fun i v hv => by
  have hv : vs[i]? = some v := by simpa using hv
  have hi : i < xs.length := by rw [← hvl]; exact (List.getElem?_eq_some_iff.mp hv).1
  obtain ⟨u, hu, ru⟩ := rv.get (i := i) (a := .str (xs.getD i "")) (by rw [List.getElem?_map, List.getElem?_eq_getElem hi, List.getD_eq_getElem?_getD, List.getElem?_eq_getElem hi]; rfl)
  rw [hv] at hu
  cases hu
  exact ⟨ru, hi⟩
 have hcsS : @LT.lt Nat _ cStatics It := Nat.lt_of_lt_of_le (by decide) g824
 have aC : h'.objs.size ≠ C := by rw [sz5]; exact Nat.succ_ne_self _
 have W := WalksS.genexpQ (prog := pw) (w := w) (A := A.in1.in1) hh h'.objs.size s2.gens.size C (List.range C) [It] allP vs.toArray.size (fun i y => ∃ t, y = .str (xs.getD i "") t) aC (fun hm => by have := List.mem_range.mp hm; omega)
  (fun b hb => by rw [ls hb]; exact List.mem_range.mpr (by omega)) (by show A.depth < 1000; omega) (List.mem_range.mpr (by omega)) (Nat.ne_of_lt (by omega)) (fun hm => absurd (ls hm) (Nat.ne_of_lt hcsS))
 have hsz : vs.toArray.size = xs.length := by rw [List.size_toArray, hvl]
 refine SC.joinGen (A := A) W (fun i s st => st.1.typeIs) (qPL (A := A.in1.in1) (Dp := 890) (Un := 8000) (cenv := genEnv jSc [] C (.ref c') builtinsNs (envOf q scJn L a (.ref 757))) (m := fun y => if y = ".0" then some (.ref It) else none) hh (by show A.depth + 1 ≤ 890; omega) (by show A.units + 1 + 1 + 1 + 3 ≤ 8000; omega) W0 qQQ
  (by show (jSc.kind == .class || (jSc.kind == .module && _)) = false; rw [qFh]; rfl) qUS (fun hm => by have := List.mem_range.mp hm; exact absurd this (Nat.lt_irrefl _)) (qUR rfl hit hx (by omega) (by omega) k6) ⟨_, _, _, gG, rfl, rfl, rfl⟩ (Array.getElem?_push_size ..) st0
  (by rw [← hh6]; exact hn'.push _) (qD4 k6)) (fun b hb => ?_) (.head _) (fun i v ⟨j, _, t, e⟩ => ⟨_, t, e⟩) (fun s' l hm hi => ?_) (by rw [qIf, List.length_range, hsz, sizeLine_eq]; omega)
 ·show @LT.lt Nat _ b h6.objs.size
  rcases lc hb with rfl | hb
  ·omega
  rcases lc hb with rfl | hb
  ·omega
  ·have := List.mem_range.mp hb; omega
 ·rw [hsz] at hi
  have et := qNP hi
  rw [et]
  refine ⟨hok, fun t' k => hQ t' _ (fun b o nb e => ?_) ⟨_, hm.heap 753 _ (fun hb => ?_) (keep6 _ _ tb4.2)⟩ (fun hb => ?_) ⟨hm.drawn, hm.os⟩⟩
  ·have lb : @LT.lt Nat _ b It := by rw [← hIt]; exact Heap.lt_size e
   refine hm.heap b o (fun hb => ?_) (keep6 _ _ (hx4 b o nb (keep3 _ _ e)))
   rcases lc hb with z | hb
   ·exact absurd z (Nat.ne_of_lt (by omega))
   ·exact absurd (ls hb) (Nat.ne_of_lt lb)
  ·rcases lc hb with z | hb
   ·exact absurd z (Nat.ne_of_lt (by omega))
   ·exact absurd (ls hb).symm ne753
  ·exact GenOnlyQ.bare hm.gens (AllBare.push hb rfl)
noncomputable abbrev jnL (D : Addr) : LV := [("split_command", .lit (.ref D))]
theorem qWL (P : Params) (D : Addr) : qAi (KK P) scJn "split_command" ⟨jnL D, [], [], []⟩ = some (.lit (.ref D), ⟨jnL D, [], [], []⟩, []) := by kernel_rfl
theorem qMg {w : World} {A : Around} {s : Shared} {xs : List Str} {D : Addr} {vs : List Value} {Q E : VP} (rm : Room A 102) (k : Kept w s.heap) (hst : Stk A s.heap) (hF : ∀ a ∈ qAa A, nS ≤ a) (h753 : s.heap.get? 753 = some (o753 w.params)) (hl : IsLst s.heap D vs) (rv : vrels [] (xs.map .str) vs)
  (hx : ∀ x ∈ xs, (∀ c ∈ x.cps.toList, bare c) ∧ 0 < x.length ∧ x.length ≤ 100000) (hok : JoinOk " " xs = true) (hn : xs.length ≤ 100000)
  (hQ : ∀ t' s', Kp [753] (qAa A) s.heap s'.heap → (∃ more, s'.heap.get? 753 = some { cls := .none, data := .fields more }) → (AllBare s.gens → AllBare s'.gens) → s'.drawn = s.drawn ∧ s'.os = s.os → Q (.str (Txt.join " " xs) t') s') :
  codeAny (MM w) A (.call (.ref 758) ⟨[.ref D], []⟩) (ends Q E) s := by
 refine qBl (d := 100) (ρ := []) (H := []) (args := [.lit (.ref D)]) (qP3 w) rm (HR.nil k) (fun a ha => ⟨let ⟨o, e, _⟩ := hst.there a ha; ⟨o, e⟩, nofun⟩) (.cons rfl .nil) rfl fun s1 E' hL r ok => ?_
 rw [qRz] at ok ⊢
 rw [qPu]
 with_reducible refine wpAny_execs_cons (wpAny_Return_some (Call_method1 rfl (qAy qMh) qSz (Calls.Constant_str ?_)))
 have r1 := r.toks (s1.toks + 1)
 with_reducible refine qG9 qMh ?_
 unfold genE
 have hd := ok.room.1.1
 have hu := ok.room.1.2
 refine wpAny_GeneratorExp_make (cl := []) qUS (qSB _) qSC jn_0 qFh (by show _ < 1000; omega) ?_ (fun x => rfl)
 with_reducible refine wm (qAD (cx := cxIn w A s [] []) qPw (qWL w.params D) r1) (fun xv s2 zz => ?_)
 obtain ⟨ρ2, p2, g2, r2⟩ := zz
 cases g2
 obtain rfl : ρ2 = [] := r2.hr.nil_rho
 have g753 : s2.heap.get? 753 = some (o753 w.params) := by
  obtain ⟨sl, z1, z2⟩ := r2.kp.keep 753 _ h753 nofun
  rw [z2 fun h => absurd (hF _ h) (by decide)] at z1
  with_reducible exact z1
 refine qMf (qSA w.params) ok.room.2 (by omega) (by omega) r2.hr.kept g753 (hl.kp r2.kp nofun) rv hx hok hn fun t' s' hk hm hb hrest => ?_
 refine hQ t' s' ?_ hm (fun h => hb (by rw [r2.rest.1]; exact h)) ⟨hrest.1.trans r2.rest.2.1, hrest.2.trans r2.rest.2.2⟩
 exact (r2.kp.mono fun a ha => nomatch ha).step (Y := [753]) ⟨fun b o e nb => hk b o (fun z => nb (by rw [z]; exact .head _)) e⟩ fun a ha => .inl ha
section
open PySem.SeqAt
noncomputable def qBc : OI → PyData
 | none => .none
 | some (a, b) => .tuple [.int a, .int b]
noncomputable def qPa (xs : List OI) : PyData := .list (xs.map qBc)
noncomputable def qD3 (xs : List OI) (z : Option Bool) : PyData := .tuple [qPa xs, .str (qBy z)]
theorem qG3 {h : Heap} {x : OI} {v : Value} (p : qAV h x v) : Reads h v (qBc x) [] := by
 cases x with
 | none =>
  have p : v = .none := p
  subst p; exact .none
 | some ab =>
  obtain ⟨q, t, u, rfl, o, e, c, n, d⟩ := p
  exact .tuple e c d (.cons (.int _ _) (.cons (.int _ _) .nil))
theorem qDj {h : Heap} : ∀ {xs : List OI} {vs : List Value}, All2 (qAV h) xs vs → ReadsAll h vs (xs.map qBc) []
 | _, _, .nil => .nil
 | _, _, .cons p r => .cons (qG3 p) (qDj r)
theorem qED {h : Heap} {l : Addr} {xs : List OI} {vs : List Value} (hl : IsLst h l vs) (p : All2 (qAV h) xs vs) : Reads h (.ref l) (qPa xs) [l] := by
 obtain ⟨o, e, c, n, d⟩ := hl
 exact .list e c d (qDj p)
theorem qCq {h : Heap} {a l : Addr} {t : Tok} {xs : List OI} {vs : List Value} {z : Option Bool} (ht : IsTup h a #[.ref l, .str (qBy z) t]) (hl : IsLst h l vs) (p : All2 (qAV h) xs vs) : Reads h (.ref a) (qD3 xs z) [l] := by
 obtain ⟨o, e, c, n, d⟩ := ht
 exact .tuple e c d (.cons (qED hl p) (.cons (.str _ _) .nil))
theorem qCs : ∀ xs : List OI, PyData.canLayAll0 (xs.map qBc) = true
 | [] => rfl
 | none :: xs => by
  show (true && PyData.canLayAll0 (xs.map qBc)) = true
  rw [qCs xs]; rfl
 | some (a, b) :: xs => by
  show (PyData.canLayAll0 [.int a, .int b] && PyData.canLayAll0 (xs.map qBc)) = true
  rw [qCs xs]; rfl
theorem qCl : ∀ xs : List OI, PyData.depthAll (xs.map qBc) ≤ 1
 | [] => Nat.zero_le _
 | none :: xs => by
  show max 0 (PyData.depthAll (xs.map qBc)) ≤ 1
  have := qCl xs
  omega
 | some (a, b) :: xs => by
  show max 1 (PyData.depthAll (xs.map qBc)) ≤ 1
  have := qCl xs
  omega
theorem qPY : ∀ z : Option Bool, PyData.strOk (qBy z) = true
 | none => by decide +kernel
 | some true => by decide +kernel
 | some false => by decide +kernel
theorem qBW (xs : List OI) (z : Option Bool) : shaped (qD3 xs z) = true := by
 have h1 : PyData.canLay0 (qD3 xs z) = true := by
  show (PyData.canLayAll0 (xs.map qBc) && (PyData.strOk (qBy z) && true)) = true
  rw [qCs, qPY]; rfl
 have h2 : PyData.depth (qD3 xs z) ≤ 64 := by
  show max (PyData.depthAll (xs.map qBc) + 1) (max 0 0) + 1 ≤ 64
  have := qCl xs
  omega
 unfold shaped
 rw [h1, decide_eq_true h2]; rfl
theorem qDa : ∀ xs : List OI, PyData.eqvAll (xs.map qBc) (xs.map qBc) = true
 | [] => by simp [PyData.eqvAll]
 | none :: xs => by
  simp only [List.map_cons, PyData.eqvAll, qBc, PyData.eqv, qDa xs, Bool.and_self]
 | some (a, b) :: xs => by
  simp only [List.map_cons, PyData.eqvAll, qBc, PyData.eqv, qDa xs, beq_self_eq_true, Bool.and_self]
theorem qIG (xs : List OI) (z : Option Bool) : PyData.eqv (qD3 xs z) (qD3 xs z) = true := by
 simp only [qD3, qPa, PyData.eqv, PyData.eqvAll, qDa, beq_self_eq_true, Bool.and_self]
theorem qG8 : ∀ xs : List OI, (xs.map qBc).any (fun y => PyData.eqv y .none) = xs.any (·.isNone)
 | [] => rfl
 | none :: xs => by
  rw [List.map_cons, List.any_cons, List.any_cons, qG8 xs]
  simp [qBc, PyData.eqv]
 | some (a, b) :: xs => by
  rw [List.map_cons, List.any_cons, List.any_cons, qG8 xs]
  simp [qBc, PyData.eqv]
section
variable {w : World} {A : Around} {E : VP} {s : Shared} {a b : Value} {xs : List OI} {z : Option Bool} {as bs : List Addr} {Q : VP}
theorem qR9 (ra : Reads s.heap a (qD3 xs z) as) (rb : Reads s.heap b (qD3 xs z) bs) (hu : A.units ≤ 9000) (h : Q (.bool false) s) : wpAny (MM w) A (compareOp .NotEq a b) Q E s :=
 ne_dataH ra rb (qBW xs z) (qBW xs z) (by show A.units + 64 < 9900; omega) (by rw [qIG]; exact h)
theorem qSZ (ra : Reads s.heap a (qD3 xs z) as) (rb : Reads s.heap b (qD3 xs z) bs) (hu : A.units ≤ 9000) (h : Q (.bool true) s) : wpAny (MM w) A (compareOp .Eq a b) Q E s :=
 eq_dataH ra rb (qBW xs z) (qBW xs z) (by show A.units + 64 < 9900; omega) (by rw [qIG]; exact h)
theorem qLL (ra : Reads s.heap a (qPa xs) as) (hu : A.units ≤ 9000) (h : Q (.bool (xs.any (·.isNone))) s) : wpAny (MM w) A (compareOp .In .none a) Q E s :=
 in_list_reads ra .none (qCs xs) rfl (by show A.units + 1 + min _ 0 < 9900; omega) (by rw [qG8]; exact h)
end
end
section
open PySem.Calls Builtin Builtin.Str
theorem qQo (n : Int) (c : Percent) (h1 : c.alt = false) (h2 : c.type = 100) (h3 : c.prec = none) {d : List Nat} (hd : d = (PySem.Str.ofString (toString ((n.natAbs : Nat) : Int))).cps.toList) : percentInt c (decide (n < 0)) d = decL n := by
 rw [hd, KIN.signs_num]
 unfold percentInt decL digL
 by_cases q : n < 0
 ·simp [h1, h2, h3, q]
 ·simp [h1, h2, h3, q]
section
variable {M : Model} {A : Around} {E : VP} {s : Shared} {l : List Nat} {p : List Value} {r : List Nat} {f : Nat → List Value × Writer × List Nat → Sem (ForInStep (List Value × Writer × List Nat))} {Q : List Value × Writer × List Nat → Shared → Prop}
 {w : Writer} {T : PySem.Str} {N : Nat} {o : Option Value}
theorem qGD {c : Percent} {n : Int} {d : List Nat} (g : KPc.Good w T N) (h1 : c.alt = false) (h2 : c.type = 100) (h3 : c.prec = none) (hd : d = (PySem.Str.ofString (toString ((n.natAbs : Nat) : Int))).cps.toList) (hl : (decL n).length ≤ 1000) (ho : o = none)
  (h : ∀ w', KPc.Good w' (T ++ ⟨(decL n).toArray⟩) (N + 1000) → wpAny M A (forIn l (p, w', r) f) Q E s) : wpAny M A (forIn l (p, w.add ⟨(percentInt c (decide (n < 0)) d).toArray⟩ o, r) f) Q E s := by
 rw [qQo n c h1 h2 h3 hd]
 refine h _ (KPc.good_mono (KPc.good_add g (KPc.obj_none ho)) ?_)
 have : (⟨(decL n).toArray⟩ : PySem.Str).length = (decL n).length := by simp [PySem.Str.length]
 omega
end
theorem qQP {n : Int} (h : n.natAbs < 10 ^ 100) : n.natAbs.log2 < 1920 := by
 by_cases q : n.natAbs = 0
 ·rw [q]; decide
 ·rw [Nat.log2_lt q]
  have h1 : (10 : Nat) ^ 100 ≤ (2 ^ 4) ^ 100 := Nat.pow_le_pow_left (by decide) 100
  rw [← Nat.pow_mul] at h1
  exact Nat.lt_of_lt_of_le h (Nat.le_trans h1 (Nat.pow_le_pow_right (by decide) (by decide)))
theorem qRn {x y : PySem.Str} (h : x.cps.toList = y.cps.toList) : x = y := by
 obtain ⟨x⟩ := x
 obtain ⟨y⟩ := y
 exact congrArg PySem.Str.mk (Array.toList_inj.mp h)
theorem qLB (a b : Int) : PySem.Str.empty ++ (⟨(decL a).toArray⟩ : PySem.Str) ++ ("." : PySem.Str) ++ (⟨(decL b).toArray⟩ : PySem.Str) = ⟨(qAN (a, b)).toArray⟩ := by
 refine qRn ?_
 have e : ("." : PySem.Str).cps = #[46] := by decide
 show (((PySem.Str.empty.cps ++ (decL a).toArray) ++ ("." : PySem.Str).cps) ++ (decL b).toArray).toList = (qAN (a, b)).toArray.toList
 rw [e]
 simp [qAN, PySem.Str.empty]
theorem qLz {X : PySem.Str} {t : Tok} {q : Addr} {a b : Int} {ta tb : Tok} (hX : X = "%d.%d") (ha : a.natAbs.log2 < 1920) (hb : b.natAbs.log2 < 1920) (la : (decL a).length ≤ 1000) (lb : (decL b).length ≤ 1000) :
  Meets («str.__mod__» ⟨[.str X t, .ref q], []⟩) (fun _ R s => IsTup s.heap q #[.int a ta, .int b tb] ∧ ∀ t' k, R (.ok (.ret (.str ⟨(qAN (a, b)).toArray⟩ t'))) { s with toks := k }) := by
 subst hX
 apply KPt.meets_tup
 intro pg w A s Q E hT hk
 obtain ⟨o, g, c, n, d⟩ := hT
 rw [KPt.entry_is_r]
 unfold Builtin.Str.percentFormat
 refine wpAny_bind (wpAny_isInstance (T := "tuple") ⟨o, g, c⟩ KPt.sub_tt ?_)
 refine wpAny_bind (KPt.asStr_ref g d ?_)
 refine wpAny_bind (KPt.fills_ref ⟨o, g, c⟩ ?_)
 intro _
 kpc_if
 refine wpAny_bind (wpAny_seqItems g d ?_)
 refine wpAny_bind (wpAny_pure ?_)
 refine wpAny_bind ?_
 rw [KPc.range_list]
 refine KPc.start ?_
 intro w0 g0
 refine KPc.turn ?_
 kpc_check
 repeat kpc_if
 refine wpAny_bind ?_
 refine wpAny_holding ?_
 repeat kpc_if
 refine wpAny_bind (wpAny_of_eq (a := _) rfl ?_)
 repeat kpc_if
 refine wpAny_bind (wpAny_mkInt ?_)
 refine wpAny_bind (call_gives F.slot_int_repr (typeIs_int _ _ _) F.entry_int_repr (F.args_int_repr_1 _) (gives_int_repr _ _ (KPt.hd2 ha)) ⟨int_text_fits (KPt.hd2 ha), ?_⟩)
 refine wpAny_bind (wpAny_of_eq (a := some _) rfl ?_)
 refine wpAny_pure ?_
 refine wpAny_pure ?_
 refine qGD g0 rfl rfl rfl rfl la (by first | rfl | exact ite_self _) ?_
 intro w1 g1
 refine KPc.turn ?_
 kpc_check
 repeat kpc_if
 refine wpAny_pure ?_
 refine KPc.after_add g1 (y := ".") (by kernel_rfl) (by first | exact KPc.obj_none rfl | exact KPc.obj_none (if_neg (by decide +kernel)) | exact KPc.obj_none (ite_self _)) ?_
 intro w2 g2
 refine KPc.turn ?_
 kpc_check
 repeat kpc_if
 refine wpAny_bind ?_
 refine wpAny_holding ?_
 repeat kpc_if
 refine wpAny_bind (wpAny_of_eq (a := _) rfl ?_)
 repeat kpc_if
 refine wpAny_bind (wpAny_mkInt ?_)
 refine wpAny_bind (call_gives F.slot_int_repr (typeIs_int _ _ _) F.entry_int_repr (F.args_int_repr_1 _) (gives_int_repr _ _ (KPt.hd2 hb)) ⟨int_text_fits (KPt.hd2 hb), ?_⟩)
 refine wpAny_bind (wpAny_of_eq (a := some _) rfl ?_)
 refine wpAny_pure ?_
 refine wpAny_pure ?_
 refine qGD g2 rfl rfl rfl rfl lb (by first | rfl | exact ite_self _) ?_
 intro w3 g3
 refine KPc.turn ?_
 kpc_check
 repeat kpc_if
 refine wpAny_pure ?_
 kpc_if
 exact KPc.finish_ok g3 (by decide +kernel) (qLB a b) hk
theorem qO0 {w : World} {A : Around} {E : VP} {s : Shared} {X : PySem.Str} {t : Tok} {q : Addr} {a b : Int} {ta tb : Tok} {Q : VP} (hX : X = "%d.%d") (ht : IsTup s.heap q #[.int a ta, .int b tb]) (ha : a.natAbs.log2 < 1920) (hb : b.natAbs.log2 < 1920) (la : (decL a).length ≤ 1000) (lb : (decL b).length ≤ 1000)
  (h : ∀ t' k, Q (.str ⟨(qAN (a, b)).toArray⟩ t') { s with toks := k }) : wpAny (model pw w) A (binaryOp .Mod (.str X t) (.ref q)) Q E s := by
 have hT : s.TypeIs (.ref q) "tuple" := by
  refine oz13 (ht) fun o ho hc _ => ?_
  exact ⟨o, ho, hc⟩
 exact KPt.bin_left (T := "str") (U := "tuple") (op := .Mod) (by decide) (typeIs_str s X t) hT F.fills_str_mod KPt.fills_tuple F.slot_str_mod
  (call_meets F.slot_str_mod (typeIs_str s X t) F.entry_str_mod (F.args_str_mod_2 _ _) (qLz hX ha hb la lb) ⟨ht, fun t' k => ⟨(fun e => nomatch e), h t' k⟩⟩)
end
noncomputable abbrev fdLw (P : Params) : FuncData := fdOf (o823 P)
noncomputable abbrev bLw : List Stmt := qBh (F1 37)
noncomputable abbrev scLw : Scope := qAM (F1 37)
theorem qRy (P : Params) : (fdLw P).scope = scLw := by kernel_rfl
theorem qP2 (w : World) : FnFacts w 823 (fdLw w.params) bLw ["script"] :=
 .of1 (by kernel_rfl) (by kernel_rfl) (by kernel_rfl) fun _ => by kernel_rfl
theorem qAv : scLw.kind = .function := by kernel_rfl
noncomputable abbrev z0 : Stmt := nthS bLw 0
noncomputable abbrev z1 : Stmt := nthS bLw 1
noncomputable abbrev z2 : Stmt := nthS bLw 2
noncomputable abbrev z3 : Stmt := nthS bLw 3
noncomputable abbrev z4 : Stmt := nthS bLw 4
noncomputable abbrev z5 : Stmt := nthS bLw 5
noncomputable abbrev z6 : Stmt := nthS bLw 6
noncomputable def slU : PySem.Expr → PySem.Expr
 | .Slice _ (some u) _ _ => u
 | e => e
noncomputable def slP : PySem.Expr → Pos
 | .Slice _ _ _ p => p
 | _ => default
noncomputable def tuA (i : Nat) : PySem.Expr → PySem.Expr
 | .Tuple es _ _ => es.getD i (.Name "" default)
 | e => e
noncomputable abbrev y0 : PySem.Expr := stE z0
noncomputable def rowT : PySem.Expr := .Compare (.Name "script" (cP (cmL (ixT y0)))) [.NotEq] [.List [] (PySem.Expr.pos (cmR (ixT y0)))] (PySem.Expr.pos (ixT y0))
noncomputable def rowA : PySem.Expr := .Subscript (.Name "script" (cP (suQ (ixA y0)))) (.Slice none (some (.Constant (.int 14) (cKn (slU (suI (ixA y0)))) (cQ (slU (suI (ixA y0)))))) none (slP (suI (ixA y0)))) (PySem.Expr.pos (ixA y0))
noncomputable def rowE : PySem.Expr := .IfExp rowT rowA (ixB y0) (PySem.Expr.pos y0)
noncomputable def st0 : Stmt := .Assign [.Name "row" (cP (stT z0))] rowE (stP z0)
noncomputable def st1 : Stmt := qDL "text" "_law_line" "row" z1
noncomputable def st2 : Stmt := .Assign [.Tuple [.Name "places" (cP (tuA 0 (stT z2))), .Name "fault" (cP (tuA 1 (stT z2)))] (cKn (stT z2)) (PySem.Expr.pos (stT z2))] (qB5 "_law_told" "text" (stE z2)) (stP z2)
noncomputable def tupE (e : PySem.Expr) : PySem.Expr := .Tuple [.Name "places" (cP (tuA 0 e)), .Name "fault" (cP (tuA 1 e))] (cKn e) (PySem.Expr.pos e)
noncomputable def t3E : PySem.Expr := .Compare (tupE (cmL (stE z3))) [.NotEq] [qB5 "_law_due" "text" (cmR (stE z3))] (PySem.Expr.pos (stE z3))
noncomputable def st3 : Stmt := .If t3E [ret0 (ifB z3)] [] (stP z3)
noncomputable abbrev y4 : PySem.Expr := boV 1 (stE z4)
noncomputable def t4E : PySem.Expr := .BoolOp .Or [boV 0 (stE z4), .Compare (.Constant .none (cKn (cmL y4)) (cQ (cmL y4))) [.In] [.Name "places" (cP (cmR y4))] (PySem.Expr.pos y4)] (PySem.Expr.pos (stE z4))
noncomputable def retT (st : Stmt) : Stmt := .Return (some (.Constant (.bool true) (cKn (stE st)) (cQ (stE st)))) (stP st)
noncomputable def st4 : Stmt := .If t4E [retT (ifB z4)] [] (stP z4)
noncomputable abbrev y5 : PySem.Expr := stE z5
noncomputable abbrev y5C : PySem.Expr := cA 0 y5
noncomputable abbrev y5E : PySem.Expr := lcE y5C
noncomputable def pctE : PySem.Expr := .BinOp (.Constant (.str "%d.%d") (cKn (cmL y5E)) (cQ (cmL y5E))) .Mod (.Name "place" (cP (cmR y5E))) (PySem.Expr.pos y5E)
noncomputable abbrev sc5 : Scope := lcS y5C
noncomputable def lc5 : PySem.Expr := .ListComp pctE [⟨.Name "place" (cP (lcT y5C)), .Name "places" (cP (lcI y5C)), [], 0⟩] sc5 (lcP y5C)
noncomputable def st5 : Stmt := .Assign [.Name "line" (cP (stT z5))] (.Call (.Name "join_shlex" (cP (cF y5))) [lc5] [] (cP y5)) (stP z5)
noncomputable abbrev y6 : PySem.Expr := stE z6
noncomputable abbrev y6a : PySem.Expr := boV 0 y6
noncomputable abbrev y6b : PySem.Expr := boV 1 y6
noncomputable abbrev y6c : PySem.Expr := cmR y6a
noncomputable def e6a : PySem.Expr := .Compare (qB5 "_law_told" "line" (cmL y6a)) [.Eq] [.Tuple [.Name "places" (cP (tuA 0 y6c)), .Constant (.str "") (cKn (tuA 1 y6c)) (cQ (tuA 1 y6c))] (cKn y6c) (PySem.Expr.pos y6c)] (PySem.Expr.pos y6a)
noncomputable def e6b : PySem.Expr := .Compare (cmL y6b) [.Eq] [qB5 "_law_plain" "text" (cmR y6b)] (PySem.Expr.pos y6b)
noncomputable def st6 : Stmt := .Return (some (.BoolOp .And [e6a, e6b] (PySem.Expr.pos y6))) (stP z6)
theorem qO4 : bLw = [st0, st1, st2, st3, st4, st5, st6] := by kernel_rfl
section
noncomputable abbrev lwL0 (D : Addr) : LV := [("script", .lit (.ref D))]
noncomputable abbrev lwL1 : LV := [("row", .obj 0)]
noncomputable abbrev lwL2 (x : Str) : LV := [("text", .str x)]
noncomputable def rowD : List Int := [7, 17, 6, 0, 33, 7, 6, 10, 49, 9, 0, 65]
noncomputable def rowF (ns : List Int) : List Int := if ns = [] then rowD else ns.take 14
theorem qOC (ns : List Int) : (rowF ns).length ≤ 14 := by
 unfold rowF
 split
 ·decide
 ·rw [List.length_take]; omega
theorem qUz (P : Params) (D : Addr) : qAi (KK P) scLw "script" ⟨lwL0 D, [], [], []⟩ = some (.lit (.ref D), ⟨lwL0 D, [], [], []⟩, []) := by kernel_rfl
theorem qWv (P : Params) (D : Addr) : (evs (KK P) cs0 scLw 5).e (ixB y0) ⟨lwL0 D, [], [], []⟩ = some (.obj 0, ⟨lwL0 D, [.lst (rowD.map .int)], [], []⟩, []) := by kernel_rfl
theorem qWu (D : Addr) (H : List AO) : qA0 scLw "row" (.obj 0) ⟨lwL0 D, H, [], []⟩ = some ((), ⟨lwL0 D ++ lwL1, H, [], []⟩, []) := by kernel_rfl
theorem qWx (P : Params) (H : List AO) : qAi (KK P) scLw "_law_line" ⟨lwL1, H, [], []⟩ = some (.lit (.ref 799), ⟨lwL1, H, [], []⟩, []) := by kernel_rfl
theorem qWw (P : Params) (H : List AO) : qAi (KK P) scLw "row" ⟨lwL1, H, [], []⟩ = some (.obj 0, ⟨lwL1, H, [], []⟩, []) := by kernel_rfl
theorem qWC (P : Params) : keepIn (KK P) (.ref 799) = true := by kernel_rfl
theorem qWt (x : Str) (H : List AO) : qA0 scLw "text" (.str x) ⟨lwL1, H, [], []⟩ = some ((), ⟨lwL1 ++ lwL2 x, H, [], []⟩, []) := by kernel_rfl
theorem qIn (ρ : Rho) : ∀ {vs : List Value} {ns : List Int}, IntsAre vs ns → vrels ρ (ns.map .int) vs
 | _, _, .nil => .nil
 | _, _, .cons n t h => .cons ⟨t, rfl⟩ (qIn ρ h)
section
variable {cx : Cx} {A : Around} {s : Shared} {E : VP} {d : Nat} {q0 : Str} {cd : Value}
noncomputable abbrev lwE (cx : Cx) (q : Str) (cd : Value) : Env := envOf q scLw cx.L 823 cd
theorem qLl {D : Addr} {p : Addr × Addr} {xs ns : List Int} (r : Rel cx [p] ⟨lwL0 D, [.lst (xs.map .int)], [], []⟩ s) (hx : xs = rowF ns) {Q : Unit → Shared → Prop} (k : ∀ v p s', Rel cx [p] ⟨lwL1, [.lst ((rowF ns).map .int)], [], []⟩ s' → Q v s') :
  wpAny (MM cx.w) A (storeName (lwE cx q0 cd) "row" (.ref p.1)) Q E s := by
 subst hx
 refine wm (qAu (w := .obj 0) qAv (qWu D _) ⟨p, rfl, rfl⟩ r) (fun v s3 r3 => k v p s3 (r3.locs fun e he => ?_))
 rw [ls he]; rfl
theorem qLk {D : Addr} {vs : List Value} {ns : List Int} (r : Rel cx [] ⟨lwL0 D, [], [], []⟩ s) (hl : ∀ S s', Rel cx [] S s' → s'.heap.IsList D vs.toArray) (hi : IntsAre vs ns) (hn : ns.length ≤ 100000) {Q : VP}
  (k : ∀ p s', Rel cx [p] ⟨lwL0 D, [.lst ((ns.take 14).map .int)], [], []⟩ s' → Q (.ref p.1) s') : wpAny (MM cx.w) A (eval rowA (lwE cx q0 cd)) Q E s := by
 unfold rowA
 refine wpAny_Subscript_list_slice (nmL qAv (qUz cx.w.params D) r fun s4 r4 => evalPart_none_step (evalPart_some_step (wpAny_Constant_int ?_)))
 have r5 := r4.toks (s4.toks + 1)
 refine ⟨D, vs.toArray, none, some 14, rfl, hl _ _ r5, ?_, .none, .int _ _, ?_⟩
 ·have hvl : vs.length = ns.length := hi.length
  rw [List.size_toArray, hvl, sizeLine_eq]; omega
 have iv := kmk_upto (y := 14) hi (by decide)
 generalize slicePick vs.toArray none (some 14) none = its at iv
 have r6 := r5.push { cls := .type "slice", data := .fields #[.none, .int 14 s4.toks, .none] } (s4.toks + 1)
 have sz : (s4.heap.push { cls := .type "slice", data := .fields #[.none, .int 14 s4.toks, .none] }).objs.size = s4.heap.objs.size + 1 := Heap.size_push ..
 exact k (s4.heap.objs.size + 1, 0) _ (r6.new (o := .lst ((ns.take 14).map .int)) (p := (s4.heap.objs.size + 1, 0)) (k := s4.toks + 1) (Chg.push [] _ { cls := .type "list", data := .seq its.toList.toArray 0 })
  ⟨its.toList, 0, by rw [← sz]; exact Heap.get?_push_size _ rfl, qIn _ iv⟩ (by simp [foot]) (fun b hb => by
   simp [foot] at hb; subst hb; exact Nat.le_of_eq sz))
theorem qOB {D : Addr} {vs : List Value} {ns : List Int} (ok : AOK cx A (d + 1)) (r : Rel cx [] ⟨lwL0 D, [], [], []⟩ s) (hl : ∀ S s', Rel cx [] S s' → s'.heap.IsList D vs.toArray) (hi : IntsAre vs ns) (hn : ns.length ≤ 100000) {Q : FP}
  (k : ∀ p s', Rel cx [p] ⟨lwL1, [.lst ((rowF ns).map .int)], [], []⟩ s' → Q .next s') : wpAny (MM cx.w) A (exec st0 (lwE cx q0 cd)) Q E s := by
 have hu := ok.room.1.2
 unfold st0
 refine wpAny_Assign_Name ?_ (qBj rfl)
 unfold rowE
 refine wpAny_IfExp ?_
 unfold rowT
 refine wpAny_isTrue_Compare1 (nmL qAv (qUz cx.w.params D) r fun s2 r2 => wpAny_List (Calls.spliced_nil ⟨by rw [sizeLine_eq]; decide, ?_⟩)) rfl
 have r3 := r2.push { cls := .type "list", data := .seq ([] : List Value).toArray } s2.toks
 refine ke_ne_ints (xs := vs) (ys := []) (hl _ _ r3) ⟨_, Heap.get?_push_size _ rfl, rfl, _, rfl⟩ hi .nil (by show _ + 64 < 9900; omega) (wpAny_pure ?_)
 by_cases hz : ns = []
 ·rw [decide_eq_true hz, if_neg (by decide)]
  have hh := qWv cx.w.params D
  revert hh
  generalize ixB y0 = e0
  intro hh
  exact evO (qAt qAv (csv0 cx.w d) 5).e hh qAb ok r3 rfl fun p s4 r4 => qLl r4 (by unfold rowF; rw [if_pos hz]) fun _ p s' r' => k p s' r'
 ·rw [decide_eq_false hz, if_pos (by decide)]
  exact qLk r3 hl hi hn fun p s4 r4 => qLl r4 (by unfold rowF; rw [if_neg hz]) fun _ p s' r' => k p s' r'
end
end
section
theorem qSd (P : Params) (x : Str) : qAi (KK P) scLw "_law_told" ⟨lwL2 x, [], [], []⟩ = some (.lit (.ref 811), ⟨lwL2 x, [], [], []⟩, []) := by kernel_rfl
theorem qSe (P : Params) (x : Str) : qAi (KK P) scLw "text" ⟨lwL2 x, [], [], []⟩ = some (.str x, ⟨lwL2 x, [], [], []⟩, []) := by kernel_rfl
theorem qUA (P : Params) : keepIn (KK P) (.ref 811) = true := by kernel_rfl
theorem qWB (P : Params) : keepIn (KK P) (.ref 794) = true := by kernel_rfl
noncomputable abbrev lwL3 (x : Str) (l : Addr) (z : Option Bool) : LV := [("text", .str x), ("places", .lit (.ref l)), ("fault", .str (qBy z))]
theorem qWp (x f : Str) (l : Addr) (p q : Pos) : qBf scLw [.Name "places" p, .Name "fault" q] [.lit (.ref l), .str f] ⟨lwL2 x, [], [], []⟩ = some ((), ⟨[("text", .str x), ("places", .lit (.ref l)), ("fault", .str f)], [], [], []⟩, []) := by kernel_rfl
structure PlK (L : Addr) (h : Heap) (l : Addr) (vs : List Value) (xs : List OI) : Prop where
 lst : IsLst h l vs
 pl : All2 (qAV h) xs vs
 far : ∀ q, q = l ∨ Value.ref q ∈ vs → q ≠ L ∧ nS ≤ q
theorem PlK.kp {L : Addr} {h h' : Heap} {l : Addr} {vs : List Value} {xs : List OI} {Y F : List Addr} (p : PlK L h l vs xs) (k : Kp Y F h h') (n : ∀ q, q = l ∨ Value.ref q ∈ vs → q ∉ Y) : PlK L h' l vs xs :=
 ⟨p.lst.kp k (n l (.inl rfl)), p.pl.imp' fun x v hv r => qDF k (fun q e => n q (.inr (by rw [← e]; exact hv))) r, p.far⟩
theorem PlK.there {L : Addr} {h : Heap} {l : Addr} {vs : List Value} {xs : List OI} (p : PlK L h l vs xs) : ∀ q, q = l ∨ Value.ref q ∈ vs → ∃ ob, h.get? q = some ob := fun q hq => by
 rcases hq with rfl | hq
 ·obtain ⟨o, e, _⟩ := p.lst; exact ⟨o, e⟩
 ·exact PlOk.there (h₀ := h) (X := []) p.pl q hq
theorem qLW {A : Around} (hA : A.frames = some []) {env : Env} {L : Addr} (hf : env.frame = some L) : qAa (A.deeper env) = [L] := by
 unfold qAa Around.deeper
 simp [hA, hf]
theorem qNX {A : Around} (hA : A.frames = some []) (h : Heap) : Stk A h := ⟨[], hA, fun e he => nomatch he⟩
section
variable {L l : Addr} {h h' : Heap} {vs : List Value} {xs : List OI} {F : List Addr}
theorem PlK.on (p : PlK L h l vs xs) {ρ : Rho} (k : Kp (L :: feet [] ρ) F h h') : PlK L h' l vs xs := p.kp k fun q hq hy => by
 rcases lc hy with e | hy
 ·exact (p.far q hq).1 e
 ·nomatch hy
theorem PlK.on0 (p : PlK L h l vs xs) (k : Kp [] F h h') : PlK L h' l vs xs := p.kp k fun q _ hq => nomatch hq
end
section
variable {cx : Cx} {A : Around} {s : Shared} {E : VP} {d : Nat} {q0 : Str} {cd : Value}
theorem qKw {ns : List Int} {p : Addr × Addr} (hlo : ∀ a ∈ qAa A, nS ≤ a) (hst : ∀ ρ' S' s', Rel cx ρ' S' s' → Stk A s'.heap) (ok : AOK cx A (d + 6)) (hl : ns.length ≤ 14) (r : Rel cx [p] ⟨lwL1, [.lst (ns.map .int)], [], []⟩ s) {Q : FP}
  (k : ∀ s', Rel cx [] ⟨lwL2 (qBZ ns), [], [], []⟩ s' → Q .next s') : wpAny (MM cx.w) A (exec st1 (lwE cx q0 cd)) Q E s := by
 unfold st1 qDL
 refine wpAny_Assign_Name (Call_Name rfl (nmL qAv (qWx cx.w.params _) r fun s2 r2 => qAx (K := KK cx.w.params) rfl (qWC cx.w.params) (Calls.spliced_cons (nmO qAv (qWw cx.w.params _) rfl r2 fun s3 r3 => Calls.spliced_nil ⟨r3.X, wpAny_call ?_⟩)))) (qBj rfl)
 refine qL4 (ok.room.le (by omega)) r3.hr (hst _ _ _ r3) (lowF hlo ok r3) hl fun t s4 hr4 k4 rest4 => ?_
 have r4 : Rel cx [p] ⟨lwL1, [.lst (ns.map .int)], [], []⟩ s4 := r3.called (H' := [.lst (ns.map .int)]) ok (List.prefix_refl _) hr4 k4 (fun a ha => .inl ha) rest4
 refine wm (qAu qAv (qWt (qBZ ns) _) ⟨t, rfl⟩ r4) (fun _ s5 r5 => k s5 (r5.cut 0 _ rfl rfl fun e he => ?_))
 rw [ls he]; exact ⟨rfl, rfl⟩
theorem qKm {x : Str} {xs : List OI} {z : Option Bool} (hlo : ∀ a ∈ qAa A, nS ≤ a) (hst : ∀ ρ' S' s', Rel cx ρ' S' s' → Stk A s'.heap) (ok : AOK cx A (d + 18)) (hx : Fit x 640) (hr : dueF x.cps.toList = (xs, z)) (r : Rel cx [] ⟨lwL2 x, [], [], []⟩ s) {Q : FP}
  (k : ∀ l vs s', Rel cx [] ⟨lwL3 x l z, [], [], []⟩ s' → PlK cx.L s'.heap l vs xs → Q .next s') : wpAny (MM cx.w) A (exec st2 (lwE cx q0 cd)) Q E s := by
 have hln := hx.ln
 have et : qEq x = (xs, z) := by rw [qNG hx.sg (by omega), hr]
 refine oz02 (qKg hx.sg hln) fun wf1 wf2 => ?_
 unfold st2
 refine Assign_Tuple ?_
 unfold qB5
 refine Call_Name rfl (nmL qAv (qSd cx.w.params x) r fun s2 r2 => qAx (K := KK cx.w.params) rfl (qUA cx.w.params) (Calls.spliced_cons (nmS qAv (qSe cx.w.params x) r2 fun t3 s3 r3 => Calls.spliced_nil ⟨r3.X, wpAny_call ?_⟩)))
 refine qFK (ok.room.le (by omega)) r3.hr.kept (hst _ _ _ r3) hlo hx.sg (by omega) wf1 wf2 fun b l vs u s4 T k4 rest4 => ?_
 rw [et] at T
 have r4 := r3.kp0 ok k4 (lowF hlo ok r3) rest4
 have far : ∀ q, q = l ∨ Value.ref q ∈ vs → q ≠ cx.L ∧ nS ≤ q := fun q hq => by
  have n : s3.heap.get? q = none := by
   rcases hq with rfl | hq
   ·exact T.new.2.1
   ·exact T.new.2.2 q hq
  refine ⟨fun e => oz12 r3.ns fun m ns _ => ?_, r3.hr.kept.high n⟩
  obtain ⟨oL, es, ep, gL, _⟩ := ns
  rw [e, gL] at n
  exact nomatch n
 refine assign_Tuple_tuple ok.room.2 T.tup rfl rfl fun h' hk => ?_
 have r5 := r4.grow (h' := h') ⟨fun b o e _ => hk b o (Nat.ne_of_lt (Heap.lt_size e)) e⟩
 have k5 : PlK cx.L h' l vs xs := (PlK.mk T.lst T.pl far).on0 (F := []) ⟨fun b o e _ => ⟨o.slots, hk b o (Nat.ne_of_lt (Heap.lt_size e)) e, fun _ => rfl⟩⟩
 exact wm (qCd (cx := cx.now [] ⟨lwL2 x, [], [], []⟩ { s4 with heap := h' }) (q := q0) (a := 823) (cd := cd) qAv (qWp x (qBy z) l _ _) (.cons rfl (.cons ⟨u, rfl⟩ .nil)) r5.now) (fun _ s6 r6 => k l vs s6 (r5.later r6) (k5.on r6.kp))
theorem qWq (P : Params) (x : Str) (l : Addr) (z : Option Bool) : qAi (KK P) scLw "text" ⟨lwL3 x l z, [], [], []⟩ = some (.str x, ⟨lwL3 x l z, [], [], []⟩, []) := by kernel_rfl
theorem qWE (P : Params) (x : Str) (l : Addr) (z : Option Bool) : qAi (KK P) scLw "_law_due" ⟨lwL3 x l z, [], [], []⟩ = some (.lit (.ref 794), ⟨lwL3 x l z, [], [], []⟩, []) := by kernel_rfl
theorem Rel.pair {ρ : Rho} {S : Sta} (r : Rel cx ρ S s) (ws : List Value) (tk : Nat) {C : Prop} (k : ∀ h' p, h' = s.heap.push { cls := .type "tuple", data := .seq ws.toArray } → p = s.heap.objs.size → Rel cx ρ S { s with heap := h', toks := tk } → IsTup h' p ws.toArray → Kp [] [] s.heap h' → p ≠ cx.L → C) : C :=
 k _ _ rfl rfl (r.push _ tk) ⟨_, Heap.get?_push_size _ rfl, rfl, _, rfl⟩ ((Kp.refl [] [] _).step (Chg.push [] _ _) fun a ha => nomatch ha) (oz12 r.ns fun m ns _ => by obtain ⟨o, _, _, g, _⟩ := ns; exact Nat.ne_of_gt (Heap.lt_size g))
theorem qWz : scLw.names.lookup (Str.ofString "places") = some .local := by kernel_rfl
theorem qWy : scLw.names.lookup (Str.ofString "fault") = some .local := by kernel_rfl
theorem qQg {x : Str} {xs : List OI} {z : Option Bool} {l : Addr} {vs : List Value} (hlo : ∀ a ∈ qAa A, nS ≤ a) (ok : AOK cx A (d + 18)) (hx : Fit x 640) (hr : dueF x.cps.toList = (xs, z)) (r : Rel cx [] ⟨lwL3 x l z, [], [], []⟩ s) (pk : PlK cx.L s.heap l vs xs) {Q : FP}
  (k : ∀ s', Rel cx [] ⟨lwL3 x l z, [], [], []⟩ s' → PlK cx.L s'.heap l vs xs → Q .next s') : wpAny (MM cx.w) A (exec st3 (lwE cx q0 cd)) Q E s := by
 have hu := ok.room.1.2
 have hln := hx.ln
 unfold st3
 refine wpAny_If ?_
 unfold t3E tupE
 refine wpAny_isTrue_Compare1 ?_ rfl
 refine oz12 r.ns fun m ns hm => oz12 (hm (Str.ofString "places") (.lit (.ref l)) rfl) fun v1 m1 e1 => oz12 (hm (Str.ofString "fault") (.str (qBy z)) rfl) fun v2 m2 e2 => oz11 e2 fun t2 e2 => ?_
 rw [show v1 = .ref l from e1] at m1
 rw [e2] at m2
 refine wpAny_Tuple (Calls.spliced_cons (wpAny_Name (wpAny_loadName_local qAv qWz ns m1 (Calls.spliced_cons (wpAny_Name (wpAny_loadName_local qAv qWy ns m2 (Calls.spliced_nil ⟨by rw [sizeLine_eq]; exact Nat.le_of_ble_eq_true rfl, ?_⟩)))))))
 refine r.pair [.ref l, .str (qBy z) t2] s.toks fun h2 p eh ep r2 tp kp2 hL => ?_
 rw [← eh, ← ep]
 have pk2 := pk.on0 kp2
 clear eh ep hm m1 m2 ns e1 kp2
 unfold qB5
 refine Call_Name rfl (nmLK qAv (qWE cx.w.params x l z) r2 fun s3 r3 k3 => qAx (K := KK cx.w.params) rfl (qWB cx.w.params) (Calls.spliced_cons (nmSK qAv (qWq cx.w.params x l z) r3 fun t4 s4 r4 k4 => Calls.spliced_nil ⟨r4.X, wpAny_call ?_⟩)))
 have hp : p ∉ cx.L :: feet [] [] := fun hy => by
  rcases lc hy with e | hy
  ·exact hL e
  ·nomatch hy
 have tp4 := Mine.IsTup.kp k4 hp (Mine.IsTup.kp k3 hp tp)
 have pk4 := (pk2.on k3).on k4
 clear tp pk2 k3 k4 r2 r3
 refine qIH (w := cx.w) (ok.room.le (by omega)) r4.hr.kept (fun a ha => (ok.disj r4 a ha).1) hx.sg (by rw [sizeLine_eq]; omega) fun b l' vs' u s5 T k5 rest5 kept5 => ?_
 rw [hr] at T
 have pk5 := pk4.on0 k5
 refine qR9 (qCq (Mine.IsTup.kp k5 (nofun) tp4) pk5.lst pk5.pl) (qCq T.tup T.lst T.pl) (by show _ ≤ 9000; omega) (wpAny_pure ?_)
 rw [if_neg Bool.false_ne_true]
 exact wpAny_execs_nil (k s5 (r4.kp0 ok k5 (lowF hlo ok r4) rest5) pk5)
end
end
section
theorem qWr (P : Params) (x : Str) (l : Addr) (z : Option Bool) : (evs (KK P) cs0 scLw 4).t (boV 0 (stE z4)) ⟨lwL3 x l z, [], [], []⟩ = some ((qBy z).cps.toList != ("" : Str).cps.toList, ⟨lwL3 x l z, [], [], []⟩, []) := by kernel_rfl
theorem qJQ (z : Option Bool) : ((qBy z).cps.toList != ("" : Str).cps.toList) = z.isSome := by
 have := qES z
 unfold bne
 rw [this]
 cases z <;> rfl
theorem qLx : scLw.names.lookup (Str.ofString "places") = some .local := by kernel_rfl
theorem qIb : sc5.kind = .function := by kernel_rfl
theorem qOr : ∀ x ∈ sc5.names, x.2 ≠ .free := by decide +kernel
theorem qOs : ∀ x ∈ sc5.names, x.2 ≠ .cell := by decide +kernel
theorem qK6 : ∀ x ∈ sc5.names, x.2 = .local → sc5.names.lookup x.1 = some .local := by decide +kernel
theorem qFV : sc5.names.lookup (Str.ofString "place") = some .local := by kernel_rfl
theorem qWD (P : Params) (x : Str) (l : Addr) (z : Option Bool) : qAi (KK P) scLw "join_shlex" ⟨lwL3 x l z, [], [], []⟩ = some (.lit (.ref 758), ⟨lwL3 x l z, [], [], []⟩, []) := by kernel_rfl
theorem qWA (P : Params) : keepIn (KK P) (.ref 758) = true := by kernel_rfl
theorem qWF : behindInMarks .In (.Name "places" (cP (cmR y4))) = false := by kernel_rfl
theorem qO3 : qA4 [lc5] = true := by kernel_rfl
section
variable {cx : Cx} {A : Around} {s : Shared} {E : VP} {d : Nat} {q0 : Str} {cd : Value}
theorem qLp {st : Stmt} {env : Env} {rest : List Stmt} {Q : FP} (k : Q (.ret (.bool true)) s) : wpAny (MM cx.w) A (execs (retT st :: rest) env) Q E s := by
 unfold retT
 exact wpAny_execs_cons (wpAny_Return_some (wpAny_Constant_bool k))
noncomputable def c4E : PySem.Expr := .Compare (.Constant .none (cKn (cmL y4)) (cQ (cmL y4))) [.In] [.Name "places" (cP (cmR y4))] (PySem.Expr.pos y4)
theorem qLM {x : Str} {xs : List OI} {l : Addr} {vs : List Value} (hu : A.units ≤ 8640) (r : Rel cx [] ⟨lwL3 x l none, [], [], []⟩ s) (pk : PlK cx.L s.heap l vs xs) {Q : Bool → Shared → Prop} (k : Q (xs.any (·.isNone)) s) : wpAny (MM cx.w) A (isTrue c4E (lwE cx q0 cd) (eval c4E (lwE cx q0 cd))) Q E s := by
 unfold c4E
 refine wpAny_isTrue_Compare1 (oz12 r.ns fun m ns hm => oz12 (hm (Str.ofString "places") (.lit (.ref l)) rfl) fun v1 m1 e1 => ?_) qWF
 rw [show v1 = .ref l from e1] at m1
 exact Constant_none (wpAny_Name (wpAny_loadName_local qAv qLx ns m1 (qLL (qED pk.lst pk.pl) (by omega) (wpAny_pure k))))
theorem qLN {x : Str} {xs : List OI} {z : Option Bool} {l : Addr} {vs : List Value} (ok : AOK cx A (d + 18)) (r : Rel cx [] ⟨lwL3 x l z, [], [], []⟩ s) (pk : PlK cx.L s.heap l vs xs) {Q : FP}
  (yes : ∀ s', Rel cx [] ⟨lwL3 x l z, [], [], []⟩ s' → Q (.ret (.bool true)) s') (no : z = none → xs.any (·.isNone) = false → ∀ s', Rel cx [] ⟨lwL3 x l z, [], [], []⟩ s' → PlK cx.L s'.heap l vs xs → Q .next s') : wpAny (MM cx.w) A (exec st4 (lwE cx q0 cd)) Q E s := by
 have hu := ok.room.1.2
 unfold st4
 refine wpAny_If ?_
 unfold t4E
 have hh := qWr cx.w.params x l z
 revert hh
 generalize boV 0 (stE z4) = e0
 intro hh
 refine isTrue_or (evTK (qAt (cx := cx.now [] ⟨lwL3 x l z, [], [], []⟩ s) (q := q0) (a := 823) (cd := cd) qAv (csv0 cx.w (d + 17)) 4).t hh qAb ok r fun s2 r2 k2 => ?_)
 have pk2 := pk.on k2
 rw [qJQ]
 cases z with
 | some b => simp only [Option.isSome_some, if_true]; exact qLp (yes s2 r2)
 | none =>
  simp only [Option.isSome_none, Bool.false_eq_true, if_false]
  refine isTrue_or (qLM (by omega) r2 pk2 ?_)
  cases hb : xs.any (·.isNone) with
  | true => rw [if_pos rfl, if_pos rfl]; exact qLp (yes s2 r2)
  | false =>
   rw [if_neg Bool.false_ne_true]
   refine isTrue_or_nil ?_
   rw [if_neg Bool.false_ne_true]
   exact wpAny_execs_nil (no rfl hb s2 r2 pk2)
noncomputable abbrev cx2 (cx : Cx) (g : Array GenState) : Cx := { cx with X := [753], g := g }
noncomputable abbrev lwL5 (x : Str) (l : Addr) (z : Option Bool) (y : Str) : LV := [("text", .str x), ("places", .lit (.ref l)), ("fault", .str (qBy z)), ("line", .str y)]
theorem qWs (x y : Str) (l : Addr) (z : Option Bool) : qA0 scLw "line" (.str y) ⟨lwL3 x l z, [], [], []⟩ = some ((), ⟨lwL5 x l z y, [], [], []⟩, []) := by kernel_rfl
end
end
section
theorem qWa {h : Heap} {ps : List (Int × Int)} {vs : List Value} (p : All2 (qAV h) (ps.map some) vs) {i : Nat} {v : Value} (hv : vs[i]? = some v) : ∃ hi : i < ps.length, ∃ q t u, v = .ref q ∧ IsTup h q #[.int (ps.getD i (0, 0)).1 t, .int (ps.getD i (0, 0)).2 u] := by
 have hl : vs.length = ps.length := by rw [← p.length, List.length_map]
 have hi : i < ps.length := by rw [← hl]; exact (List.getElem?_eq_some_iff.mp hv).1
 obtain ⟨b, hb, r⟩ := p.get (i := i) (a := some ps[i]) (by rw [List.getElem?_map, List.getElem?_eq_getElem hi]; rfl)
 rw [hv] at hb
 cases hb
 have e : ps.getD i (0, 0) = ps[i] := by rw [List.getD_eq_getElem?_getD, List.getElem?_eq_getElem hi]; rfl
 rw [e]
 exact ⟨hi, r⟩
noncomputable abbrev qC6 (p : Int × Int) : Str := strL (qAN p)
theorem qJH (ps : List (Int × Int)) : Txt.join " " (ps.map qC6) = strL (qA1 ps) := by
 have h1 : Txt.join " " (ps.map qC6) = Str.join ⟨#[32]⟩ (ps.map qC6) := by rw [qRq]; exact StrLaws.glued_eq_join _ _
 have h2 := qEc 32 (ps.map qC6)
 rw [← h1] at h2
 have h3 : (ps.map qC6).map (fun x => x.cps.toList) = ps.map qAN := by
  rw [List.map_map]
  exact List.map_congr_left fun p _ => qAL _
 rw [h3] at h2
 show _ = (⟨(qA1 ps).toArray⟩ : Str)
 have h4 : (Txt.join " " (ps.map qC6)).cps = (qA1 ps).toArray := by
  unfold qA1
  rw [← h2]
 cases hz : Txt.join " " (ps.map qC6) with
 | mk c => rw [hz] at h4; rw [← h4]
theorem qKn {ps : List (Int × Int)} (h : ∀ p ∈ ps, p.1.natAbs < 10 ^ 100 ∧ p.2.natAbs < 10 ^ 100) : qEq (strL (qA1 ps)) = (ps.map some, none) := by
 have e : qBx (strL (qA1 ps)) = (ps.map qAN, none) := by
  unfold qBx
  rw [qAL]
  exact qFd _ ps (by have := qFc ps; omega)
 unfold qEq
 rw [e]
 show ((ps.map qAN).map qBD, none) = _
 rw [List.map_map]
 congr 1
 refine List.map_congr_left fun p hp => ?_
 have sg : ∀ c ∈ qAN p, c ∈ qAn := fun c hc => qDf (qA8 p c hc)
 have l1 := qBK (by decide) (h p hp).1
 have l2 := qBK (by decide) (h p hp).2
 show qBD (qAN p) = some p
 rw [qFE sg (by unfold qAN; rw [List.length_append, List.length_cons]; omega), ← qEw sg, qC5]
section
variable {cx : Cx} {A : Around} {s : Shared} {E : VP} {d : Nat} {q0 : Str} {cd : Value} {ps : List (Int × Int)}
theorem qPJ {α : Type} {l : List α} {i : Nat} {a : α} (h : i < l.length) : l.getD i a ∈ l := by rw [List.getD_eq_getElem?_getD, List.getElem?_eq_getElem h]; exact List.getElem_mem h
theorem qIg {p : Int × Int} (h : p.1.natAbs < 10 ^ 100 ∧ p.2.natAbs < 10 ^ 100) : (qC6 p).length ≤ 203 ∧ 0 < (qC6 p).length := by
 have l1 := qBK (by decide) h.1
 have l2 := qBK (by decide) h.2
 rw [qAZ, qAL]
 unfold qAN
 rw [List.length_append, List.length_cons]; omega
theorem qLA {ys : List Value} (hlen : ys.length = ps.length) (hall : ∀ (i : Nat) (y : Value), ys[i]? = some y → ∃ t, y = .str (qC6 (ps.getD i (0, 0))) t) : vrels [] ((ps.map qC6).map .str) ys :=
 All2.of_get (by rw [List.length_map, List.length_map, hlen]) fun i a y ha hy => oz11 (hall i y hy) fun t e => by
  have hi : i < ps.length := by rw [← hlen]; exact (List.getElem?_eq_some_iff.mp hy).1
  rw [List.getElem?_map, List.getElem?_map, List.getElem?_eq_getElem hi] at ha
  rw [← Option.some.inj ha]
  exact ⟨t, by rw [e, List.getD_eq_getElem?_getD, List.getElem?_eq_getElem hi]; rfl⟩
theorem qPr {w : World} {h h' : Heap} {F : List Addr} (k : Kept w h) (kj : Kp [753] F h h') (hF : ∀ a ∈ F, nS ≤ a) (mj : ∃ more, h'.get? 753 = some { cls := .none, data := .fields more }) : Kept w h' := fun b o e => by
 have nF : b ∉ F := fun h => absurd (hF b h) (Nat.not_le.mpr (Kept.lt e))
 have go : b ≠ 753 → h'.get? b = some o := fun n => oz12 (kj.keep b _ ((k b o e).1 n) fun h => n (ls h)) fun sl z1 z2 => by
  rw [z2 nF] at z1
  exact z1
 refine ⟨go, ?_⟩
 by_cases n : b = 753
 ·exact oz11 mj fun more g => ⟨_, by rw [n]; exact g⟩
 ·exact ⟨_, go n⟩
theorem qBY {Y F : List Addr} {h h' : Heap} (k : Kp Y F h h') (nY : 753 ∉ Y) (nF : 753 ∉ F) (m : ∃ more, h.get? 753 = some { cls := .none, data := .fields more }) : ∃ more, h'.get? 753 = some { cls := .none, data := .fields more } :=
 oz11 m fun more g => oz12 (k.keep 753 _ g nY) fun sl z1 z2 => by
  rw [z2 nF] at z1
  exact ⟨more, z1⟩
theorem Rel.n753 {ρ : Rho} {S : Sta} (r : Rel cx ρ S s) : 753 ∉ cx.L :: feet [] [] := fun h => by
 rcases lc h with e | h
 ·exact absurd r.lo.1 (by rw [← e]; decide)
 ·nomatch h
theorem AOK.n753 {ρ : Rho} {S : Sta} (ok : AOK cx A d) (hF : cx.F = []) (r : Rel cx ρ S s) : 753 ∉ qAa A := fun h => by
 rcases ok.fr _ h with h | h
 ·rw [hF] at h; nomatch h
 ·exact absurd r.lo.1 (by rw [← h]; decide)
theorem qOP {C q : Addr} {ta tb : Tok} {p : Int × Int} {m : Str → Option Value} {Q : VP} {env : Env} (h : p.1.natAbs < 10 ^ 100 ∧ p.2.natAbs < 10 ^ 100) (nC : s.heap.Ns C m) (hmx : m (Str.ofString "place") = some (.ref q)) (tp : IsTup s.heap q #[.int p.1 ta, .int p.2 tb])
  (k : ∀ t kk, Q (.str (qC6 p) t) { s with toks := kk }) : wpAny (MM cx.w) A (eval pctE (cEnv sc5 C env)) Q E s := by
 have l1 := qBK (by decide) h.1
 have l2 := qBK (by decide) h.2
 unfold pctE
 exact wpAny_BinOp (Calls.Constant_str (wpAny_Name (wpAny_loadName_local qIb qFV nC hmx (qO0 (q := q) (ta := ta) (tb := tb) rfl tp (qQP h.1) (qQP h.2) (by omega) (by omega) fun t' kk => k t' kk))))
theorem qMe {x : Str} {z : Option Bool} {l : Addr} {vs : List Value} (hlo : ∀ a ∈ qAa A, nS ≤ a) (hst : ∀ ρ' S' s', Rel cx ρ' S' s' → Stk A s'.heap) (hX : cx.X = []) (hF : cx.F = []) (h753 : cx.h₀.get? 753 = some (o753 cx.w.params)) (ok : AOK cx A (d + 102))
  (hp : ∀ p ∈ ps, p.1.natAbs < 10 ^ 100 ∧ p.2.natAbs < 10 ^ 100) (hn : ps.length ≤ 100) (r : Rel cx [] ⟨lwL3 x l z, [], [], []⟩ s) (pk : PlK cx.L s.heap l vs (ps.map some)) {Q : FP}
  (k : ∀ g s', Rel (cx2 cx g) [] ⟨lwL5 x l z (strL (qA1 ps)), [], [], []⟩ s' → PlK cx.L s'.heap l vs (ps.map some) → (∃ more, s'.heap.get? 753 = some { cls := .none, data := .fields more }) → (AllBare cx.g → AllBare g) → Q .next s') :
  wpAny (MM cx.w) A (exec st5 (lwE cx q0 cd)) Q E s := by
 have hvl : vs.length = ps.length := by rw [← pk.pl.length, List.length_map]
 unfold st5
 refine wpAny_Assign_Name (Call_Name rfl (nmLK qAv (qWD cx.w.params x l z) r fun s2 r2 k2 => qAx (K := KK cx.w.params) qO3 (qWA cx.w.params) (Calls.spliced_cons ?_))) (qBj rfl)
 have pk2 := pk.on k2
 refine oz12 r2.ns fun m ns hm => oz12 (hm (Str.ofString "places") (.lit (.ref l)) rfl) fun v1 m1 e1 => ?_
 rw [show v1 = .ref l from e1] at m1
 clear e1 hm
 unfold lc5
 refine qDK (vs := vs) (P := fun i y h => ∃ t, y = .str (qC6 (ps.getD i (0, 0))) t) (F := qAa A) qOr qOs qIb qK6 qFV (fun _ => rfl) (fun i y X F' h h' kk hq p => p) ok.room.2 (by rw [hvl, sizeLine_eq]; omega) ?_
 refine wpAny_Name (wpAny_loadName_local qAv qLx ns m1 ?_)
 clear ns m1 r k2 pk
 refine ⟨l, rfl, pk2.lst, fun C i v s8 m8 E' hv hC nC hmx k8 r8 => ?_, fun Acc ys s9 hAcc hlen hall hnew k9 r9 => ?_⟩
 ·obtain ⟨hi, q, ta, tb, e, tp⟩ := qWa pk2.pl hv
  rw [e] at hmx
  exact qOP (hp _ (qPJ hi)) nC hmx (Mine.IsTup.kp k8 (nofun) tp) fun t' kk => ⟨Kp.refl _ _ _, ⟨rfl, rfl, rfl⟩, ⟨t', rfl⟩, fun q hq => nomatch hq⟩
 ·have pk9 := pk2.on0 k9
  have rr := r2.kp0 ok k9 (lowF hlo ok r2) r9
  have rv := qLA (hlen.trans hvl) fun i y hy => (hall i y hy).1
  clear hall k9 r9 pk2 r2 hnew hlen
  have g753 : s9.heap.get? 753 = some (o753 cx.w.params) := by
   refine oz12 (rr.kp.keep 753 _ h753 (by rw [hX]; exact nofun)) fun sl z1 z2 => ?_
   rw [z2 (by rw [hF]; exact nofun)] at z1
   exact z1
  refine Calls.spliced_nil ⟨rr.X, wpAny_call ?_⟩
  refine qMg (ok.room.le (by omega)) rr.hr.kept (hst _ _ _ rr) hlo g753 hAcc rv (fun y hy => oz12 (List.mem_map.mp hy) fun p hpp e => ?_) (qF9 (n := 203) (fun y hy => oz12 (List.mem_map.mp hy) fun p hpp e => by rw [← e]; exact (qIg (hp p hpp)).1) ?_) (by rw [List.length_map]; omega) fun t' s' kj mj gj restj => ?_
  ·have := qIg (hp p hpp)
   rw [← e]
   exact ⟨by rw [qAL]; exact qA8 p, this.2, by omega⟩
  ·rw [List.length_map]
   have : (" " : Str).length = 1 := by decide
   rw [this]
   omega
  rw [qJH]
  have n7 := rr.n753
  have nL : cx.L ∉ [753] := fun h => n7 (by rw [← ls h]; exact .head _)
  have hL : cx.h₀.get? cx.L = none := rr.lo.2.elim (fun h => by rw [hX] at h; nomatch h) id
  have rj : Rel (cx2 cx s'.gens) [] ⟨lwL3 x l z, [], [], []⟩ s' := oz12 rr.ns fun m' ns' hm' => ⟨HR.nil (qPr rr.hr.kept kj hlo mj), ⟨m', kj.ns ns' nL, hm'⟩, (fun a ha => nomatch ha), ⟨rr.lo.1, .inr hL⟩,
   (rr.kp.mono fun a ha => by rw [hX] at ha; nomatch ha).trans kj (fun a ha => .inl ha) (fun a ha => (ok.fr a ha).imp id fun e => .inr (by rw [e]; exact hL)), ⟨rfl, restj.1.trans rr.rest.2.1, restj.2.trans rr.rest.2.2⟩⟩
  have pkj := pk9.kp kj fun q hq h => absurd (pk9.far q hq).2 (by rw [ls h]; decide)
  exact stK (cx := cx2 cx s'.gens) qAv (qWs x _ l z) ⟨t', rfl⟩ rj fun _ s6 r6 k6 => k s'.gens s6 r6 (pkj.on k6) (qBY k6 n7 (by rw [show (cx2 cx s'.gens).F = [] from hF]; exact nofun) mj) fun h => gj (by rw [rr.rest.1]; exact h)
end
end
section
theorem qSt (P : Params) (x y : Str) (l : Addr) (z : Option Bool) : qAi (KK P) scLw "_law_told" ⟨lwL5 x l z y, [], [], []⟩ = some (.lit (.ref 811), ⟨lwL5 x l z y, [], [], []⟩, []) := by kernel_rfl
theorem qSv (P : Params) (x y : Str) (l : Addr) (z : Option Bool) : qAi (KK P) scLw "line" ⟨lwL5 x l z y, [], [], []⟩ = some (.str y, ⟨lwL5 x l z y, [], [], []⟩, []) := by kernel_rfl
theorem qSu (P : Params) (x y : Str) (l : Addr) (z : Option Bool) : qAi (KK P) scLw "text" ⟨lwL5 x l z y, [], [], []⟩ = some (.str x, ⟨lwL5 x l z y, [], [], []⟩, []) := by kernel_rfl
theorem qPq (P : Params) (x y : Str) (l : Addr) (z : Option Bool) : qAi (KK P) scLw "_law_plain" ⟨lwL5 x l z y, [], [], []⟩ = some (.lit (.ref 818), ⟨lwL5 x l z y, [], [], []⟩, []) := by kernel_rfl
theorem l5_k (P : Params) : keepIn (KK P) (.ref 818) = true := by kernel_rfl
noncomputable abbrev eqP : PySem.Expr := cmL y6b
theorem qVy : cmL y6b = .Compare (.Name "line" (cP (cmL eqP))) [.Eq] [.Name "text" (cP (cmR eqP))] (PySem.Expr.pos eqP) := by kernel_rfl
theorem qHj : scLw.names.lookup (Str.ofString "line") = some .local := by kernel_rfl
theorem qHi : scLw.names.lookup (Str.ofString "text") = some .local := by kernel_rfl
section
variable {cx : Cx} {A : Around} {s : Shared} {E : VP} {d : Nat} {q0 : Str} {cd : Value} {ps : List (Int × Int)} {x : Str} {l : Addr} {vs : List Value}
noncomputable abbrev L5 (x : Str) (l : Addr) (ps : List (Int × Int)) : Sta := ⟨lwL5 x l none (strL (qA1 ps)), [], [], []⟩
theorem qHs (hlo : ∀ a ∈ qAa A, nS ≤ a) (hst : ∀ ρ' S' s', Rel cx ρ' S' s' → Stk A s'.heap) (hF : cx.F = []) (ok : AOK cx A (d + 102)) (hx : x.length ≤ 640) (hr : dueF x.cps.toList = (ps.map some, none)) (r : Rel cx [] (L5 x l ps) s)
  (mj : ∃ more, s.heap.get? 753 = some { cls := .none, data := .fields more }) {Q : VP} (k : ∀ s', Rel cx [] (L5 x l ps) s' → (∃ more, s'.heap.get? 753 = some { cls := .none, data := .fields more }) → Q (.bool true) s') : wpAny (MM cx.w) A (eval e6b (lwE cx q0 cd)) Q E s := by
 unfold e6b
 refine wpAny_Compare1 ?_ rfl
 rw [qVy]
 refine wpAny_Compare1 ?_ rfl
 refine oz12 r.ns fun m ns hm => oz12 (hm (Str.ofString "line") (.str (strL (qA1 ps))) rfl) fun v2 m2 e2 => oz12 (hm (Str.ofString "text") (.str x) rfl) fun v3 m3 e3 => oz11 e2 fun t2 e2 => oz11 e3 fun t3 e3 => ?_
 rw [e2] at m2
 rw [e3] at m3
 refine wpAny_Name (wpAny_loadName_local qAv qHj ns m2 (wpAny_Name (wpAny_loadName_local qAv qHi ns m3 ?_)))
 clear m2 m3 e2 e3 hm ns
 refine P.eq_str ?_
 unfold qB5
 refine Call_Name rfl (nmLK qAv (qPq cx.w.params x _ l none) r fun s6 r6 k6 => qAx (K := KK cx.w.params) rfl (l5_k cx.w.params) (Calls.spliced_cons (nmSK qAv (qSu cx.w.params x _ l none) r6 fun t7 s7 r7 k7 => Calls.spliced_nil ⟨r7.X, wpAny_call ?_⟩)))
 have nF : 753 ∉ cx.F := by rw [hF]; exact nofun
 have mj7 := qBY k7 r.n753 nF (qBY k6 r.n753 nF mj)
 refine qJu (ok.room.le (by omega)) r7.hr.kept (hst _ _ _ r7) (by omega) fun s8 k8 rest8 => ?_
 refine eq_bool ?_
 rw [qAL, qLt hr, beq_self_eq_true]
 exact k s8 (r7.kp0 ok k8 (lowF hlo ok r7) rest8) (qBY k8 (nofun) (ok.n753 hF r7) mj7)
theorem qJN (hlo : ∀ a ∈ qAa A, nS ≤ a) (hst : ∀ ρ' S' s', Rel cx ρ' S' s' → Stk A s'.heap) (hF : cx.F = []) (ok : AOK cx A (d + 102))
  (hx : x.length ≤ 640) (hp : ∀ p ∈ ps, p.1.natAbs < 10 ^ 100 ∧ p.2.natAbs < 10 ^ 100) (hn : ps.length ≤ 100) (hr : dueF x.cps.toList = (ps.map some, none)) (r : Rel cx [] (L5 x l ps) s) (pk : PlK cx.L s.heap l vs (ps.map some))
  (mj : ∃ more, s.heap.get? 753 = some { cls := .none, data := .fields more }) {Q : FP} (k : ∀ s', Rel cx [] (L5 x l ps) s' → (∃ more, s'.heap.get? 753 = some { cls := .none, data := .fields more }) → Q (.ret (.bool true)) s') :
  wpAny (MM cx.w) A (exec st6 (lwE cx q0 cd)) Q E s := by
 have hu := ok.room.1.2
 have nF : 753 ∉ cx.F := by rw [hF]; exact nofun
 refine oz03 (qL2 hp hn) fun f1 f2 f3 => ?_
 unfold st6
 refine wpAny_Return_some (BoolOp_and ?_)
 unfold e6a
 refine wpAny_Compare1 ?_ rfl
 unfold qB5
 refine Call_Name rfl (nmLK qAv (qSt cx.w.params x _ l none) r fun s2 r2 k2 => qAx (K := KK cx.w.params) rfl (qUA cx.w.params) (Calls.spliced_cons (nmSK qAv (qSv cx.w.params x _ l none) r2 fun t3 s3 r3 k3 => Calls.spliced_nil ⟨r3.X, wpAny_call ?_⟩)))
 have pk3 := (pk.on k2).on k3
 have mj3 := qBY k3 r.n753 nF (qBY k2 r.n753 nF mj)
 clear k2 k3 pk mj r2
 refine qFK (ok.room.le (by omega)) r3.hr.kept (hst _ _ _ r3) hlo (by rw [qAL]; exact qJC ps) (by rw [qAL]; omega) f2 f3 fun b l' vs' u s4 T k4 rest4 => ?_
 rw [qKn hp] at T
 have r4 := r3.kp0 ok k4 (lowF hlo ok r3) rest4
 have pk4 := pk3.on0 k4
 have mj4 := qBY k4 (nofun) (ok.n753 hF r3) mj3
 clear k4 rest4 pk3 mj3 r3 r f2 f3
 refine oz12 r4.ns fun m ns hm => oz12 (hm (Str.ofString "places") (.lit (.ref l)) rfl) fun v1 m1 e1 => ?_
 rw [show v1 = .ref l from e1] at m1
 refine wpAny_Tuple (Calls.spliced_cons (wpAny_Name (wpAny_loadName_local qAv qLx ns m1 (Calls.spliced_cons (Calls.Constant_str (k := cKn (tuA 1 y6c)) (pos := cQ (tuA 1 y6c)) (Calls.spliced_nil ⟨by rw [sizeLine_eq]; exact Nat.le_of_ble_eq_true rfl, ?_⟩))))))
 clear ns hm m1 e1
 refine r4.pair [.ref l, .str "" s4.toks] (s4.toks + 1) fun h2 p eh ep r5 tp pu hL => ?_
 rw [← eh, ← ep]
 have pk5 := pk4.on0 pu
 have mj5 := qBY pu (nofun) (nofun) mj4
 refine qSZ (xs := ps.map some) (z := none) (qCq (Mine.IsTup.kp pu (nofun) T.tup) (T.lst.kp pu nofun) (T.pl.imp' fun x v _ h => qDF pu (fun q _ h => nomatch h) h)) (qCq tp pk5.lst pk5.pl) (by show _ ≤ 9000; omega) (wpAny_truthy_bool ?_)
 rw [if_pos rfl]
 exact BoolOp_one (qHs hlo hst hF ok hx hr r5 mj5 fun s' r' m' => k s' r' m')
end
end
section
theorem qLF (P : Params) : ∃ more, o753 P = { cls := .none, data := .fields more } := ⟨#[], by kernel_rfl⟩
theorem qIT : ∀ {xs : List OI}, xs.any (·.isNone) = false → ∃ ps : List (Int × Int), xs = ps.map some
 | [], _ => ⟨[], rfl⟩
 | none :: xs, h => by simp at h
 | some p :: xs, h => by
  obtain ⟨ps, rfl⟩ := qIT (xs := xs) (by simpa using h)
  exact ⟨p :: ps, rfl⟩
section
variable {cx : Cx} {A : Around} {s : Shared} {E : VP} {q0 : Str} {cd : Value}
theorem qPm {D : Addr} {vs : List Value} {ns : List Int} (hlo : ∀ a ∈ qAa A, nS ≤ a) (hst : ∀ g ρ' S' s', Rel (cx2 cx g) ρ' S' s' ∨ Rel cx ρ' S' s' → Stk A s'.heap) (hX : cx.X = []) (hF : cx.F = []) (h753 : cx.h₀.get? 753 = some (o753 cx.w.params)) (ok : AOK cx A 121)
  (r : Rel cx [] ⟨lwL0 D, [], [], []⟩ s) (hl : ∀ S s', Rel cx [] S s' → s'.heap.IsList D vs.toArray) (hi : IntsAre vs ns) (hn : ns.length ≤ 100000) {Q : FP}
  (k : ∀ g S' s', Rel (cx2 cx g) [] S' s' → (∃ more, s'.heap.get? 753 = some { cls := .none, data := .fields more }) → (AllBare cx.g → AllBare g) → Q (.ret (.bool true)) s') : wpAny (MM cx.w) A (execs bLw (lwE cx q0 cd)) Q E s := by
 have f := qMH (rowF ns)
 have fl := qOC ns
 have fn := f.ln
 have hx : Fit (qBZ (rowF ns)) 640 := ⟨f.sg, by omega⟩
 have st1 : ∀ ρ' S' s', Rel cx ρ' S' s' → Stk A s'.heap := fun ρ' S' s' h => hst #[] ρ' S' s' (.inr h)
 rw [qO4]
 refine wpAny_execs_cons (qOB ok r hl hi hn fun p s2 r2 => wpAny_execs_cons (qKw (d := 115) hlo st1 ok fl r2 fun s3 r3 => ?_))
 rcases hr : dueF (qBZ (rowF ns)).cps.toList with ⟨xs, z⟩
 refine wpAny_execs_cons (qKm (d := 103) hlo st1 ok hx hr r3 fun l ws s4 r4 pk4 => wpAny_execs_cons (qQg (d := 103) hlo ok hx hr r4 pk4 fun s5 r5 pk5 => wpAny_execs_cons (qLN (d := 103) ok r5 pk5 (fun s6 r6 => ?_) fun hz1 hz2 s6 r6 pk6 => ?_)))
 ·refine oz11 (qLF cx.w.params) fun more e => k cx.g _ s6 ⟨r6.hr, r6.ns, (fun a ha => nomatch ha), ⟨r6.lo.1, r6.lo.2.elim (fun h => by rw [hX] at h; nomatch h) .inr⟩, r6.kp.mono (fun a ha => by rw [hX] at ha; nomatch ha), r6.rest⟩ ?_ id
  exact qBY r6.kp (by rw [hX]; exact nofun) (by rw [hF]; exact nofun) ⟨more, by rw [← e]; exact h753⟩
 refine oz11 (qIT hz2) fun ps eps => ?_
 subst hz1 eps
 refine oz02 (qM4 (qBZ (rowF ns)).cps.toList) fun d1 d2 => ?_
 rw [hr] at d1 d2
 have up : (10 : Nat) ^ (qBZ (rowF ns)).cps.toList.length ≤ 10 ^ 100 := Nat.pow_le_pow_right (by decide) (by omega)
 have hp : ∀ p ∈ ps, p.1.natAbs < 10 ^ 100 ∧ p.2.natAbs < 10 ^ 100 := fun p hpp => by
  have := d1 (some p) (List.mem_map_of_mem hpp) p rfl
  exact ⟨Nat.lt_of_lt_of_le this.1 up, Nat.lt_of_lt_of_le this.2 up⟩
 have hps : ps.length ≤ 100 := by
  have : (ps.map some).length ≤ (qBZ (rowF ns)).cps.toList.length + 1 := d2
  rw [List.length_map] at this; omega
 refine wpAny_execs_cons (qMe (d := 19) hlo st1 hX hF h753 ok hp hps r6 pk6 fun g s7 r7 pk7 mj hg => wpAny_execs_cons ?_)
 exact qJN (cx := cx2 cx g) (d := 19) hlo (fun ρ' S' s' h => hst g ρ' S' s' (.inl h)) hF ⟨ok.room, ok.fr, fun b hb => by rw [show (cx2 cx g).F = [] from hF] at hb; nomatch hb⟩ (by rw [qAZ]; omega) hp hps hr r7 pk7 mj fun s8 r8 mj8 => k g _ s8 r8 mj8 hg
end
theorem qPl {w : World} {A : Around} {s : Shared} {D : Addr} {vs : List Value} {ns : List Int} {Q E : VP} (hA : A.frames = some []) (rm : Room A 122) (k : Kept w s.heap) (h753 : s.heap.get? 753 = some (o753 w.params)) (hl : s.heap.IsList D vs.toArray) (hi : IntsAre vs ns) (hn : ns.length ≤ 100000)
  (hQ : ∀ s', Kp [753] [] s.heap s'.heap → (∃ more, s'.heap.get? 753 = some { cls := .none, data := .fields more }) → (AllBare s.gens → AllBare s'.gens) → s'.os = s.os → Q (.bool true) s') :
  codeAny (MM w) A (.call (.ref 823) ⟨[.ref D], []⟩) (ends Q E) s := by
 have fA0 : qAa A = [] := by unfold qAa; rw [hA]; rfl
 refine qBl (d := 120) (ρ := []) (H := []) (args := [.lit (.ref D)]) (qP2 w) rm (HR.nil k) (fun a ha => by rw [fA0] at ha; nomatch ha) (.cons rfl .nil) rfl fun s1 E' hL r ok => ?_
 rw [qRy] at ok ⊢
 refine qPm (cx := cxIn w A s [] []) (fun a ha => ?_) (fun g ρ' S' s' h => ?_) rfl fA0 h753 ok r (fun S s' r' => ?_) hi hn fun g S' s' r' mj hg => ?_
 ·rw [qLW hA (L := s.heap.objs.size) rfl] at ha
  rw [ls ha]; exact r.lo.1
 ·have go : (∃ m, s'.heap.Ns s.heap.objs.size m) → Stk (A.deeper (envOf (fdLw w.params).qualname scLw s.heap.objs.size 823 (fdLw w.params).code)) s'.heap := fun h => oz11 h fun m n => (qNX hA _).deeper qAv rfl n
  exact h.elim (fun r => go (oz12 r.ns fun m n _ => ⟨m, n⟩)) fun r => go (oz12 r.ns fun m n _ => ⟨m, n⟩)
 ·obtain ⟨o, e, c, n, dd⟩ := hl
  exact oz12 (r'.kp.keep D o e nofun) fun sl e1 e2 => ⟨_, e1, c, n, dd⟩
 ·have k8 := r'.kp
  replace k8 : Kp [753] (qAa A) s.heap s'.heap := k8
  rw [fA0] at k8
  exact hQ s' k8 mj (fun h => by rw [r'.rest.1]; exact hg h) r'.rest.2.2
end
theorem qUO (P : Params) : (H1 P).nsMap mainGlobals dLaw.name = some (.ref 823) := by kernel_rfl
theorem qUN (P : Params) : ((H1 P).get? mainGlobals).isSome = true := by kernel_rfl
theorem g753 (P : Params) : (H1 P).get? 753 = some (o753 P) := by kernel_rfl
theorem qPo : rw0.row.toRowW.args = [.list .int] := rfl
theorem qSE {R : WRecords} {cl : Str → Option Addr} {h : Heap} : ∀ {vs : List Value} {xs : List WData} {as : List Addr}, ReadsAllW R cl h vs xs as → WShape.hasItems R xs .int = true → ∃ ns, IntsAre vs ns ∧ ns.length = xs.length := by
 intro vs xs
 induction xs generalizing vs with
 | nil =>
  intro as r _
  cases r
  exact ⟨[], .nil, rfl⟩
 | cons x xs ih =>
  intro as r hx
  cases r with
  | cons rv rr =>
   have hx' : WShape.has R x .int = true ∧ WShape.hasItems R xs .int = true := by simpa [WShape.hasItems] using hx
   obtain ⟨i, rfl⟩ := hasW_int hx'.1
   obtain ⟨ns, h1, h2⟩ := ih rr hx'.2
   cases rv with
   | int i t => exact ⟨i :: ns, .cons i t h1, by simp [h2]⟩
theorem qRR {xs : List WData} (h : rw0.row.toRowW.pre.holds rw0.row.toRowW.records { args := [.list xs] } = true) : xs.length ≤ 63 := by
 have h : (WTm.and (.not (.lt (.lit (.int 63)) (.len (.arg 0)))) (.lit (.bool true))).holds [] { args := [.list xs] } = true := h
 rw [holdsW_of_value (w_and (w_not (w_lt w_lit (w_len_list (w_arg rfl)))) w_lit)] at h
 simp at h
 omega
theorem qRS (args : List WData) : rw0.row.toRowW.claim.post args (.bool true) args = true := by kernel_rfl
theorem qOG (args : List WData) (cls : ExcName) : rw0.row.toRowW.claim.raises args cls = false := rfl
theorem rw0_holds : rw0.Holds := by
 refine head ?_
 intro w s0 s1 mg mb G Y a o pm cd doc dV kV h1 h2 h3 h4 hmg hgens args vals as hpre hlay hreads hwell hsys
 have e1 : mg = s1.heap.nsMap mainGlobals := G.T.g.eq_nsMap
 obtain ⟨ob, hob⟩ := Option.isSome_iff_exists.mp (qUN w.params)
 have e2 : s1.heap.nsMap mainGlobals = (H1 w.params).nsMap mainGlobals := by
  funext n
  unfold Heap.nsMap
  rw [Y _ _ hob, hob]
 rw [e1, e2, qUO] at hmg
 obtain rfl : (823 : Addr) = a := by
  have := Option.some.inj hmg
  exact Value.ref.inj this
 obtain ⟨p1, p2⟩ := pre_splitW hpre
 rw [qPo] at p1
 obtain ⟨d0, r0, rfl, q1, q2⟩ := hasAllW_cons p1
 obtain rfl := hasAllW_nil q2
 obtain ⟨xs, rfl, q3⟩ := hasW_list q1
 have hlen := qRR p2
 cases hreads with
 | cons rv rr =>
  cases rr
  cases rv with
  | @list D ob' vs n xs as g1 g2 g3 hall =>
   obtain ⟨ns, i1, i2⟩ := qSE hall q3
   have kp : Kept w s1.heap := KeptA.weak Y
   have hl : s1.heap.IsList D vs.toList.toArray := ⟨ob', g1, g2, n, by rw [g3]⟩
   have c := qPl (w := w) (A := callerA) (s := s1) (E := fun e s' => GoodWG rw0.row.toRowW.claim (classAt s0.heap) (ExcName.means s0.heap) [.list xs] s1 (.error e) s')
    (Q := fun v s' => GoodWG rw0.row.toRowW.claim (classAt s0.heap) (ExcName.means s0.heap) [.list xs] s1 (.ok (.ret v)) s') rfl ⟨⟨by decide, by decide⟩, rfl⟩ kp (Y _ _ (g753 _)) hl i1 (by omega) fun s' k' mj hg hos => ?_
   ·exact wpAny_call c
   ·refine ⟨.inl ⟨.bool true, .bool true, [], rfl, qOG _, .bool true, qRS _, fun _ => ⟨List.nodup_nil, fun a ha => nomatch ha⟩⟩, ⟨fun b o e => ?_, fun b o e => ?_⟩, hos, hg (.of_eq hgens)⟩
    ·by_cases z : b = 753
     ·subst z
      have eo : o = o753 w.params := by
       have := (Y _ _ (g753 _)).symm.trans e
       exact (Option.some.inj this).symm
      subst eo
      obtain ⟨more, g⟩ := mj
      refine .inr (.inl ⟨(qGa kp (Y _ _ (g753 _))).2.isCodeTable, rfl, #[], more, rfl, ?_⟩)
      rw [Array.empty_append]
      exact g
     ·obtain ⟨sl, z1, z2⟩ := k'.keep b o e fun h => z (ls h)
      rw [z2 fun h => nomatch h] at z1
      exact .inl z1
    ·by_cases z : b = 753
     ·subst z
      obtain ⟨more, g⟩ := mj
      exact ⟨_, g⟩
     ·obtain ⟨sl, z1, _⟩ := k'.keep b o e fun h => z (ls h)
      exact ⟨_, z1⟩
end Mine

theorem PySem.Challenge.cw_mj0251_01_holds : PySem.Challenge.rw_mj0251_01.Holds :=
  Mine.rw0_holds
