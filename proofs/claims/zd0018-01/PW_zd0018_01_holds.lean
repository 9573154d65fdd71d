import PyProof.Rows.All
import Wide.All
import OpenK.AllK
import Wide.FinOn
import PySem.Challenge.RW_zd0018_01
set_option compiler.extract_closed false
set_option bootstrap.genMatcherCode false
set_option genSizeOf false
-- Hd
section
open PySem PySem.W PyProof.Rows
set_option Elab.async false
set_option linter.all false
set_option maxRecDepth 100000
namespace Mine
-- the head: the top's run by the library's quick twins
abbrev pw : Program := PySem.Challenge.pw_zd0018_01
abbrev lw0 : OpenLaw := PySem.Challenge.rw_zd0018_01
noncomputable def keepL : List Nat := [0, 1, 3, 4, 5] ++ ((List.range 53).map (· + 7) ++ ([61, 62, 63] ++ (List.range 11).map (· + 65)))
noncomputable def qw : Program := view pw keepL
noncomputable def looseL : List Str := ["EXACT_TOKEN_TYPES", "_name_disallowed_re", "_value_disallowed_re"]
noncomputable abbrev twinTab : String → Option Builtin := PySem.W.Fast.tw14364793385576792824
theorem twinTab_eq : treeTable = twinTab := PySem.W.Fast.te14364793385576792824
noncomputable def fencedQ (p : Program) (w : World) (N : Nat) : Option Shared :=
  (PySem.W.Fast.tw10274390034422433532 twinTab (opening p) w N (PySem.W.Fast.tw1435165496053646825 (opening p)).1 (PySem.W.Fast.tw1435165496053646825 (opening p)).2).bind (PySem.W.Fast.tw14289696077712309145 p)
theorem fencedQ_eq (p : Program) (w : World) (N : Nat) : fencedOpening treeTable p w N = fencedQ p w N := by
  unfold fencedOpening fencedQ
  rw [PySem.W.Fast.te10274390034422433532, PySem.W.Fast.te1435165496053646825, PySem.W.Fast.te14289696077712309145, twinTab_eq]
noncomputable def topFromQ (p : Program) (w : World) (N : Nat) (s₀ : Shared) : Option Shared :=
  match s₀.heap.isNs mainGlobals && s₀.gens.size == 0 with
  | true => (PySem.W.Fast.tw14082659384304107361 twinTab p w s₀.heap.objs.size (s₀.heap.nsMap mainGlobals "__annotations__") N s₀ (topStub p)).bind fun s₁ => match staticsOk (PySem.W.Fast.tw5923862056798008813 p.main.body) s₀.heap s₁.heap && namesBound p s₁.heap && gensDone s₁ && laidKept s₀.heap s₁.heap with
      | true => some s₁
      | false => none
  | false => none
theorem topFromQ_eq (p : Program) (w : World) (N : Nat) (s : Shared) : topFrom treeTable p w N s = topFromQ p w N s := by
  unfold topFrom topFromQ
  rw [PySem.W.Fast.te14082659384304107361, PySem.W.Fast.te5923862056798008813, twinTab_eq]
  rfl
noncomputable def endsQ (w : World) : Option Shared := (fencedQ pw w 5758).bind (topFromQ pw w 5758)
theorem endsQ_eq (w : World) : openEnds treeTable pw w 5758 = endsQ w := by
  unfold openEnds endsQ
  rw [fencedQ_eq]
  congr 1
  funext s
  exact topFromQ_eq ..
noncomputable def Xt0 (s : Shared) : Bool := xlAt qw [] s && recOk (RowW.records (OpenRow.toRowW lw0.row)) s
noncomputable def seenQ (s : Shared) := PySem.W.Fast.tw4187177175401517315 qw looseL (PySem.W.Fast.tw5923862056798008813 pw.main.body) Xt0 true s
theorem seenQ_eq (s : Shared) : openSeen qw looseL (importedModules pw.main.body) Xt0 true s = seenQ s := by
  unfold seenQ
  rw [← PySem.W.Fast.te4187177175401517315, ← PySem.W.Fast.te5923862056798008813]
theorem saidQ : PySem.W.Fast.tw9446332074065402090 lw0 = true := by kernel_rfl
theorem said : lw0.wellSaid = true := (congrFun PySem.W.Fast.te9446332074065402090 lw0).trans saidQ
end Mine
end
-- Fin
section
open PySem PySem.W PyProof.Rows
set_option Elab.async false
set_option linter.all false
set_option maxRecDepth 100000
namespace Mine.Z
noncomputable def N : Value := .none
noncomputable def B (b : Bool) : Value := .bool b
noncomputable def I (i : Int) : Value := .int i 0
noncomputable def J (i : Int) (t : Nat) : Value := .int i t
noncomputable def S (x : Str) (t : Nat) : Value := .str x t
noncomputable def R (a : Nat) : Value := .ref a
noncomputable def Y (n : String) : Value := .type n
noncomputable def U (n : String) : Value := .builtin n
noncomputable def E (P : Params) (x : Str) (t : Nat) (v : Value) : DictEntry := ⟨PyData.keyHash P x, .str x t, v⟩
noncomputable def D (n : Nat) (l : List DictEntry) : Data := .dict l.toArray n
noncomputable def L (l : List Value) : Data := .seq l.toArray 0
noncomputable def F (l : List Value) : Data := .fields l.toArray
noncomputable def sL : List Str → Nat → List Value
  | [], _ => []
  | x :: l, t => .str x t :: sL l (t + 1)
noncomputable def C (n q : Str) (t : Nat) (ln a b c fl : Int) (r1 : Nat) (bo : Bool) (m : Int) (r2 : Nat) (x y z u : Value) (p : Nat) : Data :=
  F [.str n t, .str q (t + 1), .str "/claim/cut.py" (t + 2), I ln, I a, I b, I c, I fl, R r1, B bo, I m, R r2, x, y, z, u, I (p : Int), I ln, .str "/claim/cut.py" (p + 1)]
noncomputable def O (c : Value) (d : Data) : Obj := { cls := c, data := d }
noncomputable def dIn (ss : List Stmt) (k : Nat) : Arguments × List Stmt × Scope := match ss[k]? with
  | some (.FunctionDef _ ps b _ _ _ sc _ _ _) => (ps, b, sc)
  | _ => (default, [], default)
noncomputable def cB : List Stmt := match (pw.main.body[63]? : Option Stmt) with
  | some (Stmt.ClassDef _ _ _ b _ _ _ _ _ _ _) => b
  | _ => []
noncomputable def K (n q : Str) (d : Arguments × List Stmt × Scope) : Obj := { cls := .none, data := .func { name := n, qualname := q, params := d.1, body := .stmts d.2.1, scope := d.2.2, globals := 0, closure := [], defaults := .none, kwdefaults := .none } }
noncomputable def G (n q : Str) (d : Arguments × List Stmt × Scope) (df : Value) (md : Value) (c : Nat) : Obj := { cls := .type "function", data := .func { name := n, qualname := q, params := d.1, body := .stmts d.2.1, scope := d.2.2, globals := 3, closure := [], defaults := df, kwdefaults := .none, pyModule := md, code := .ref c, builtins := 0 } }
noncomputable def h0 (P : Params) : List Obj := [
  O (Y "dict") (D 159 [E P "__name__" 1 (S "builtins" 160), E P "__doc__" 2 (U "builtins.__doc__:str#opaque"), E P "__package__" 3 (U "builtins.__package__:str#opaque"), E P "__loader__" 4 (U "builtins.__loader__:shared#opaque"), E P "__spec__" 5 (U "builtins.__spec__#opaque"), E P "__build_class__" 6 (U "__build_class__"), E P "__import__" 7 (U "__import__"), E P "abs" 8 (U "abs"), E P "all" 9 (U "all"), E P "any" 10 (U "any"), E P "ascii" 11 (U "ascii"), E P "bin" 12 (U "bin"), E P "breakpoint" 13 (U "breakpoint"), E P "callable" 14 (U "callable"), E P "chr" 15 (U "chr"), E P "compile" 16 (U "compile"), E P "delattr" 17 (U "delattr"), E P "dir" 18 (U "dir"), E P "divmod" 19 (U "divmod"), E P "eval" 20 (U "eval"), E P "exec" 21 (U "exec"), E P "format" 22 (U "format"), E P "getattr" 23 (U "getattr"), E P "globals" 24 (U "globals"), E P "hasattr" 25 (U "hasattr"), E P "hash" 26 (U "hash"), E P "hex" 27 (U "hex"), E P "id" 28 (U "id"), E P "input" 29 (U "input"), E P "isinstance" 30 (U "isinstance"), E P "issubclass" 31 (U "issubclass"), E P "iter" 32 (U "iter"), E P "aiter" 33 (U "aiter"), E P "len" 34 (U "len"), E P "locals" 35 (U "locals"), E P "max" 36 (U "max"), E P "min" 37 (U "min"), E P "next" 38 (U "next"), E P "anext" 39 (U "anext"), E P "oct" 40 (U "oct"), E P "ord" 41 (U "ord"), E P "pow" 42 (U "pow"), E P "print" 43 (U "print"), E P "repr" 44 (U "repr"), E P "round" 45 (U "round"), E P "setattr" 46 (U "setattr"), E P "sorted" 47 (U "sorted"), E P "sum" 48 (U "sum"), E P "vars" 49 (U "vars"), E P "None" 50 N, E P "Ellipsis" 51 .ellipsis, E P "NotImplemented" 52 .notImplemented, E P "False" 53 (B false), E P "True" 54 (B true), E P "bool" 55 (Y "bool"), E P "memoryview" 56 (Y "memoryview"), E P "bytearray" 57 (Y "bytearray"), E P "bytes" 58 (Y "bytes"), E P "classmethod" 59 (Y "classmethod"), E P "complex" 60 (Y "complex"), E P "dict" 61 (Y "dict"), E P "enumerate" 62 (Y "enumerate"), E P "filter" 63 (Y "filter"), E P "float" 64 (Y "float"), E P "frozenset" 65 (Y "frozenset"), E P "property" 66 (Y "property"), E P "int" 67 (Y "int"), E P "list" 68 (Y "list"), E P "map" 69 (Y "map"), E P "object" 70 (Y "object"), E P "range" 71 (Y "range"), E P "reversed" 72 (Y "reversed"), E P "set" 73 (Y "set"), E P "slice" 74 (Y "slice"), E P "staticmethod" 75 (Y "staticmethod"), E P "str" 76 (Y "str"), E P "super" 77 (Y "super"), E P "tuple" 78 (Y "tuple"), E P "type" 79 (Y "type"), E P "zip" 80 (Y "zip"), E P "__debug__" 81 (B true), E P "BaseException" 82 (Y "BaseException"), E P "BaseExceptionGroup" 83 (Y "BaseExceptionGroup"), E P "Exception" 84 (Y "Exception"), E P "GeneratorExit" 85 (Y "GeneratorExit"), E P "KeyboardInterrupt" 86 (Y "KeyboardInterrupt"), E P "SystemExit" 87 (Y "SystemExit"), E P "ArithmeticError" 88 (Y "ArithmeticError"), E P "AssertionError" 89 (Y "AssertionError"), E P "AttributeError" 90 (Y "AttributeError"), E P "BufferError" 91 (Y "BufferError"), E P "EOFError" 92 (Y "EOFError"), E P "ImportError" 93 (Y "ImportError"), E P "LookupError" 94 (Y "LookupError"), E P "MemoryError" 95 (Y "MemoryError"), E P "NameError" 96 (Y "NameError"), E P "OSError" 97 (Y "OSError"), E P "ReferenceError" 98 (Y "ReferenceError"), E P "RuntimeError" 99 (Y "RuntimeError"), E P "StopAsyncIteration" 100 (Y "StopAsyncIteration"), E P "StopIteration" 101 (Y "StopIteration"), E P "SyntaxError" 102 (Y "SyntaxError"), E P "SystemError" 103 (Y "SystemError"), E P "TypeError" 104 (Y "TypeError"), E P "ValueError" 105 (Y "ValueError"), E P "Warning" 106 (Y "Warning"), E P "FloatingPointError" 107 (Y "FloatingPointError"), E P "OverflowError" 108 (Y "OverflowError"), E P "ZeroDivisionError" 109 (Y "ZeroDivisionError"), E P "BytesWarning" 110 (Y "BytesWarning"), E P "DeprecationWarning" 111 (Y "DeprecationWarning"), E P "EncodingWarning" 112 (Y "EncodingWarning"), E P "FutureWarning" 113 (Y "FutureWarning"), E P "ImportWarning" 114 (Y "ImportWarning"), E P "PendingDeprecationWarning" 115 (Y "PendingDeprecationWarning"), E P "ResourceWarning" 116 (Y "ResourceWarning"), E P "RuntimeWarning" 117 (Y "RuntimeWarning"), E P "SyntaxWarning" 118 (Y "SyntaxWarning"), E P "UnicodeWarning" 119 (Y "UnicodeWarning"), E P "UserWarning" 120 (Y "UserWarning"), E P "BlockingIOError" 121 (Y "BlockingIOError"), E P "ChildProcessError" 122 (Y "ChildProcessError"), E P "ConnectionError" 123 (Y "ConnectionError"), E P "FileExistsError" 124 (Y "FileExistsError"), E P "FileNotFoundError" 125 (Y "FileNotFoundError"), E P "InterruptedError" 126 (Y "InterruptedError"), E P "IsADirectoryError" 127 (Y "IsADirectoryError"), E P "NotADirectoryError" 128 (Y "NotADirectoryError"), E P "PermissionError" 129 (Y "PermissionError"), E P "ProcessLookupError" 130 (Y "ProcessLookupError"), E P "TimeoutError" 131 (Y "TimeoutError"), E P "IndentationError" 132 (Y "IndentationError"), E P "_IncompleteInputError" 133 (Y "_IncompleteInputError"), E P "IndexError" 134 (Y "IndexError"), E P "KeyError" 135 (Y "KeyError"), E P "ModuleNotFoundError" 136 (Y "ModuleNotFoundError"), E P "NotImplementedError" 137 (Y "NotImplementedError"), E P "PythonFinalizationError" 138 (Y "PythonFinalizationError"), E P "RecursionError" 139 (Y "RecursionError"), E P "UnboundLocalError" 140 (Y "UnboundLocalError"), E P "UnicodeError" 141 (Y "UnicodeError"), E P "BrokenPipeError" 142 (Y "BrokenPipeError"), E P "ConnectionAbortedError" 143 (Y "ConnectionAbortedError"), E P "ConnectionRefusedError" 144 (Y "ConnectionRefusedError"), E P "ConnectionResetError" 145 (Y "ConnectionResetError"), E P "TabError" 146 (Y "TabError"), E P "UnicodeDecodeError" 147 (Y "UnicodeDecodeError"), E P "UnicodeEncodeError" 148 (Y "UnicodeEncodeError"), E P "UnicodeTranslateError" 149 (Y "UnicodeTranslateError"), E P "ExceptionGroup" 150 (Y "ExceptionGroup"), E P "EnvironmentError" 151 (Y "OSError"), E P "IOError" 152 (Y "OSError"), E P "open" 153 (U "open"), E P "quit" 154 (U "builtins.quit#opaque"), E P "exit" 155 (U "builtins.exit#opaque"), E P "copyright" 156 (U "builtins.copyright#opaque"), E P "credits" 157 (U "builtins.credits#opaque"), E P "license" 158 (U "builtins.license#opaque"), E P "help" 159 (U "builtins.help#opaque")]),
  O (Y "dict") (D 3 [E P "builtins" 162 (R 4), E P "__main__" 163 (R 5), E P "_sre" 244 (R 12)]),
  O N (D 9 [E P "\x69mport.loaded._sre" 183 (B true), E P "class._frozen_importlib.BuiltinImporter" 185 (R 14), E P "watched.\x69mport" 206 (R 18), E P "class._frozen_importlib.ModuleSpec" 216 (R 22), E P "sys.modules.booked-epoch" 245 (I 3), E P "\x69mport.later-laid._sre" 270 (B true), E P "watched.library" 272 (R 27), E P "watched.library-objects" 0 (S ⟨#[12]⟩ 0), E P "watched.library-deep._sre" 273 (S ⟨#[4, 0, 0, 11, 4, 0, 0, 11, 4, 0, 0, 3, 4, 0, 0, 11, 8, 4, 100, 105, 99, 116, 2]⟩ 0)]),
  O (Y "dict") (D 81 [E P "__name__" 165 (S "law_zd0018_01" 758), E P "__doc__" 166 N, E P "__package__" 167 N, E P "__loader__" 168 (U "__main__.__loader__#opaque"), E P "__spec__" 169 N, E P "__annotations__" 170 (R 6), E P "__builtins__" 171 (R 4), E P "__file__" 173 (S "/claim/cut.py" 172), E P "__cached__" 174 N, E P "_sre" 275 (R 12), E P "_wall" 288 (R 38), E P "add_func_stats" 308 (R 45), E P "add_callers" 319 (R 52), E P "count_calls" 328 (R 59), E P "ENDMARKER" 332 (J 0 331), E P "LPAR" 334 (J 7 333), E P "RPAR" 336 (J 8 335), E P "LSQB" 338 (J 9 337), E P "RSQB" 340 (J 10 339), E P "COLON" 342 (J 11 341), E P "COMMA" 344 (J 12 343), E P "SEMI" 346 (J 13 345), E P "PLUS" 348 (J 14 347), E P "MINUS" 350 (J 15 349), E P "STAR" 352 (J 16 351), E P "SLASH" 354 (J 17 353), E P "VBAR" 356 (J 18 355), E P "AMPER" 358 (J 19 357), E P "LESS" 360 (J 20 359), E P "GREATER" 362 (J 21 361), E P "EQUAL" 364 (J 22 363), E P "DOT" 366 (J 23 365), E P "PERCENT" 368 (J 24 367), E P "LBRACE" 370 (J 25 369), E P "RBRACE" 372 (J 26 371), E P "EQEQUAL" 374 (J 27 373), E P "NOTEQUAL" 376 (J 28 375), E P "LESSEQUAL" 378 (J 29 377), E P "GREATEREQUAL" 380 (J 30 379), E P "TILDE" 382 (J 31 381), E P "CIRCUMFLEX" 384 (J 32 383), E P "LEFTSHIFT" 386 (J 33 385), E P "RIGHTSHIFT" 388 (J 34 387), E P "DOUBLESTAR" 390 (J 35 389), E P "PLUSEQUAL" 392 (J 36 391), E P "MINEQUAL" 394 (J 37 393), E P "STAREQUAL" 396 (J 38 395), E P "SLASHEQUAL" 398 (J 39 397), E P "PERCENTEQUAL" 400 (J 40 399), E P "AMPEREQUAL" 402 (J 41 401), E P "VBAREQUAL" 404 (J 42 403), E P "CIRCUMFLEXEQUAL" 406 (J 43 405), E P "LEFTSHIFTEQUAL" 408 (J 44 407), E P "RIGHTSHIFTEQUAL" 410 (J 45 409), E P "DOUBLESTAREQUAL" 412 (J 46 411), E P "DOUBLESLASH" 414 (J 47 413), E P "DOUBLESLASHEQUAL" 416 (J 48 415), E P "AT" 418 (J 49 417), E P "ATEQUAL" 420 (J 50 419), E P "RARROW" 422 (J 51 421), E P "ELLIPSIS" 424 (J 52 423), E P "COLONEQUAL" 426 (J 53 425), E P "EXCLAMATION" 428 (J 54 427), E P "NT_OFFSET" 430 (J 256 429), E P "EXACT_TOKEN_TYPES" 527 (R 60), E P "ISNONTERMINAL" 534 (R 69), E P "ISEOF" 541 (R 76), E P "_name_disallowed_re" 569 (R 81), E P "_value_disallowed_re" 603 (R 86), E P "Headers" 757 (R 207), E P "_law_numbers" 769 (R 218), E P "_law_drawn" 775 (R 223), E P "_law_text" 781 (R 228), E P "_law_cases" 787 (R 233), E P "_law_symbols" 793 (R 238), E P "_law_entries" 799 (R 243), E P "_law_least" 805 (R 248), E P "_law_pairs" 811 (R 253), E P "_law_taken" 817 (R 258), E P "_law_masks" 823 (R 263), E P "law" 829 (R 268)]),
  ⟨(Y "module"), (some 0), .plain, [].toArray⟩,
  ⟨(Y "module"), (some 3), .plain, [].toArray⟩,
  O (Y "dict") (D 0 []),
  O (Y "tuple") (L []),
  O N (F []),
  O (Y "code") (C "<module>" "<module>" 176 1 0 0 0 0 7 false 175 8 N N N N 179),
  ⟨(Y "frame"), none, .plain, [some (R 9), some (R 3), some (R 3), none, some (S "__main__" 164), none, some (R 0)].toArray⟩,
  O (Y "dict") (D 17 [E P "__name__" 247 (S "_sre" 246), E P "__doc__" 248 N, E P "__package__" 250 (S "" 249), E P "__loader__" 251 (U "off-the-table:_sre.__loader__:shared#opaque"), E P "__spec__" 252 (U "off-the-table:_sre.__spec__:shared#opaque"), E P "compile" 253 (U "_sre.compile"), E P "template" 254 (U "off-the-table:_sre.template:shared#opaque"), E P "getcodesize" 255 (U "off-the-table:_sre.getcodesize:shared#opaque"), E P "ascii_iscased" 256 (U "off-the-table:_sre.ascii_iscased:shared#opaque"), E P "unicode_iscased" 257 (U "off-the-table:_sre.unicode_iscased:shared#opaque"), E P "ascii_tolower" 258 (U "off-the-table:_sre.ascii_tolower:shared#opaque"), E P "unicode_tolower" 259 (U "off-the-table:_sre.unicode_tolower:shared#opaque"), E P "MAGIC" 261 (J 20230612 260), E P "CODESIZE" 263 (J 4 262), E P "MAXREPEAT" 265 (J 4294967295 264), E P "MAXGROUPS" 267 (J 1073741823 266), E P "copyright" 269 (S " SRE 2.2.2 Copyright (c) 1997-2002 by Secret Labs AB " 268)]),
  ⟨(Y "module"), (some 11), .plain, [].toArray⟩,
  O (Y "dict") (D 14 [E P "__module__" 189 (S "_frozen_importlib" 186), E P "__firstlineno__" 190 (J 971 187), E P "__doc__" 191 (U "_frozen_importlib.BuiltinImporter.__doc__:str#opaque"), E P "_ORIGIN" 192 (S "built-in" 188), E P "find_spec" 193 (U "_frozen_importlib.BuiltinImporter.find_spec#opaque"), E P "create_module" 194 (U "_frozen_importlib.BuiltinImporter.create_module#opaque"), E P "exec_module" 195 (U "_frozen_importlib.BuiltinImporter.exec_module#opaque"), E P "get_code" 196 (U "_frozen_importlib.BuiltinImporter.get_code#opaque"), E P "get_source" 197 (U "_frozen_importlib.BuiltinImporter.get_source#opaque"), E P "is_package" 198 (U "_frozen_importlib.BuiltinImporter.is_package#opaque"), E P "load_module" 199 (U "_frozen_importlib.BuiltinImporter.load_module#opaque"), E P "__static_attributes__" 200 (R 15), E P "__dict__" 202 (R 16), E P "__weakref__" 204 (R 17)]),
  O (Y "type") (.cls ⟨"BuiltinImporter", [(Y "object")], [(R 14), (Y "object")], 13, "BuiltinImporter", true, [], [], false, none, false⟩),
  O (Y "tuple") (L []),
  O (Y "getset_descriptor") (F [(S "__dict__" 201), (R 14), (U "function.__dict__"), (U "function.__dict__#set")]),
  O (Y "getset_descriptor") (F [(S "__weakref__" 203), (R 14), (U "ExceptionGroup.__weakref__"), N]),
  O N (.seq [(I 13), (S ⟨#[6, 189, 10, 95, 95, 109, 111, 100, 117, 108, 101, 95, 95, 6, 186, 17, 95, 102, 114, 111, 122, 101, 110, 95, 105, 109, 112, 111, 114, 116, 108, 105, 98, 6, 190, 15, 95, 95, 102, 105, 114, 115, 116, 108, 105, 110, 101, 110, 111, 95, 95, 4, 187, 0, 971, 6, 191, 7, 95, 95, 100, 111, 99, 95, 95, 9, 52, 95, 102, 114, 111, 122, 101, 110, 95, 105, 109, 112, 111, 114, 116, 108, 105, 98, 46, 66, 117, 105, 108, 116, 105, 110, 73, 109, 112, 111, 114, 116, 101, 114, 46, 95, 95, 100, 111, 99, 95, 95, 58, 115, 116, 114, 35, 111, 112, 97, 113, 117, 101, 6, 192, 7, 95, 79, 82, 73, 71, 73, 78, 6, 188, 8, 98, 117, 105, 108, 116, 45, 105, 110, 6, 193, 9, 102, 105, 110, 100, 95, 115, 112, 101, 99, 9, 50, 95, 102, 114, 111, 122, 101, 110, 95, 105, 109, 112, 111, 114, 116, 108, 105, 98, 46, 66, 117, 105, 108, 116, 105, 110, 73, 109, 112, 111, 114, 116, 101, 114, 46, 102, 105, 110, 100, 95, 115, 112, 101, 99, 35, 111, 112, 97, 113, 117, 101, 6, 194, 13, 99, 114, 101, 97, 116, 101, 95, 109, 111, 100, 117, 108, 101, 9, 54, 95, 102, 114, 111, 122, 101, 110, 95, 105, 109, 112, 111, 114, 116, 108, 105, 98, 46, 66, 117, 105, 108, 116, 105, 110, 73, 109, 112, 111, 114, 116, 101, 114, 46, 99, 114, 101, 97, 116, 101, 95, 109, 111, 100, 117, 108, 101, 35, 111, 112, 97, 113, 117, 101, 6, 195, 11, 101, 120, 101, 99, 95, 109, 111, 100, 117, 108, 101, 9, 52, 95, 102, 114, 111, 122, 101, 110, 95, 105, 109, 112, 111, 114, 116, 108, 105, 98, 46, 66, 117, 105, 108, 116, 105, 110, 73, 109, 112, 111, 114, 116, 101, 114, 46, 101, 120, 101, 99, 95, 109, 111, 100, 117, 108, 101, 35, 111, 112, 97, 113, 117, 101, 6, 196, 8, 103, 101, 116, 95, 99, 111, 100, 101, 9, 49, 95, 102, 114, 111, 122, 101, 110, 95, 105, 109, 112, 111, 114, 116, 108, 105, 98, 46, 66, 117, 105, 108, 116, 105, 110, 73, 109, 112, 111, 114, 116, 101, 114, 46, 103, 101, 116, 95, 99, 111, 100, 101, 35, 111, 112, 97, 113, 117, 101, 6, 197, 10, 103, 101, 116, 95, 115, 111, 117, 114, 99, 101, 9, 51, 95, 102, 114, 111, 122, 101, 110, 95, 105, 109, 112, 111, 114, 116, 108, 105, 98, 46, 66, 117, 105, 108, 116, 105, 110, 73, 109, 112, 111, 114, 116, 101, 114, 46, 103, 101, 116, 95, 115, 111, 117, 114, 99, 101, 35, 111, 112, 97, 113, 117, 101, 6, 198, 10, 105, 115, 95, 112, 97, 99, 107, 97, 103, 101, 9, 51, 95, 102, 114, 111, 122, 101, 110, 95, 105, 109, 112, 111, 114, 116, 108, 105, 98, 46, 66, 117, 105, 108, 116, 105, 110, 73, 109, 112, 111, 114, 116, 101, 114, 46, 105, 115, 95, 112, 97, 99, 107, 97, 103, 101, 35, 111, 112, 97, 113, 117, 101, 6, 199, 11, 108, 111, 97, 100, 95, 109, 111, 100, 117, 108, 101, 9, 52, 95, 102, 114, 111, 122, 101, 110, 95, 105, 109, 112, 111, 114, 116, 108, 105, 98, 46, 66, 117, 105, 108, 116, 105, 110, 73, 109, 112, 111, 114, 116, 101, 114, 46, 108, 111, 97, 100, 95, 109, 111, 100, 117, 108, 101, 35, 111, 112, 97, 113, 117, 101, 6, 200, 21, 95, 95, 115, 116, 97, 116, 105, 99, 95, 97, 116, 116, 114, 105, 98, 117, 116, 101, 115, 95, 95, 4, 0, 0, 15, 6, 202, 8, 95, 95, 100, 105, 99, 116, 95, 95, 4, 0, 0, 16, 6, 204, 11, 95, 95, 119, 101, 97, 107, 114, 101, 102, 95, 95, 4, 0, 0, 17]⟩ 0), (B true), (B true), (S "" 205), (I 21), (S ⟨#[6, 227, 10, 95, 95, 109, 111, 100, 117, 108, 101, 95, 95, 6, 217, 17, 95, 102, 114, 111, 122, 101, 110, 95, 105, 109, 112, 111, 114, 116, 108, 105, 98, 6, 228, 15, 95, 95, 102, 105, 114, 115, 116, 108, 105, 110, 101, 110, 111, 95, 95, 4, 218, 0, 562, 6, 229, 7, 95, 95, 100, 111, 99, 95, 95, 9, 47, 95, 102, 114, 111, 122, 101, 110, 95, 105, 109, 112, 111, 114, 116, 108, 105, 98, 46, 77, 111, 100, 117, 108, 101, 83, 112, 101, 99, 46, 95, 95, 100, 111, 99, 95, 95, 58, 115, 116, 114, 35, 111, 112, 97, 113, 117, 101, 6, 230, 8, 95, 95, 105, 110, 105, 116, 95, 95, 9, 44, 95, 102, 114, 111, 122, 101, 110, 95, 105, 109, 112, 111, 114, 116, 108, 105, 98, 46, 77, 111, 100, 117, 108, 101, 83, 112, 101, 99, 46, 95, 95, 105, 110, 105, 116, 95, 95, 35, 111, 112, 97, 113, 117, 101, 6, 231, 8, 95, 95, 114, 101, 112, 114, 95, 95, 9, 44, 95, 102, 114, 111, 122, 101, 110, 95, 105, 109, 112, 111, 114, 116, 108, 105, 98, 46, 77, 111, 100, 117, 108, 101, 83, 112, 101, 99, 46, 95, 95, 114, 101, 112, 114, 95, 95, 35, 111, 112, 97, 113, 117, 101, 6, 232, 6, 95, 95, 101, 113, 95, 95, 9, 42, 95, 102, 114, 111, 122, 101, 110, 95, 105, 109, 112, 111, 114, 116, 108, 105, 98, 46, 77, 111, 100, 117, 108, 101, 83, 112, 101, 99, 46, 95, 95, 101, 113, 95, 95, 35, 111, 112, 97, 113, 117, 101, 6, 233, 6, 99, 97, 99, 104, 101, 100, 9, 42, 95, 102, 114, 111, 122, 101, 110, 95, 105, 109, 112, 111, 114, 116, 108, 105, 98, 46, 77, 111, 100, 117, 108, 101, 83, 112, 101, 99, 46, 99, 97, 99, 104, 101, 100, 35, 111, 112, 97, 113, 117, 101, 6, 234, 6, 112, 97, 114, 101, 110, 116, 9, 42, 95, 102, 114, 111, 122, 101, 110, 95, 105, 109, 112, 111, 114, 116, 108, 105, 98, 46, 77, 111, 100, 117, 108, 101, 83, 112, 101, 99, 46, 112, 97, 114, 101, 110, 116, 35, 111, 112, 97, 113, 117, 101, 6, 235, 12, 104, 97, 115, 95, 108, 111, 99, 97, 116, 105, 111, 110, 9, 48, 95, 102, 114, 111, 122, 101, 110, 95, 105, 109, 112, 111, 114, 116, 108, 105, 98, 46, 77, 111, 100, 117, 108, 101, 83, 112, 101, 99, 46, 104, 97, 115, 95, 108, 111, 99, 97, 116, 105, 111, 110, 35, 111, 112, 97, 113, 117, 101, 6, 236, 21, 95, 95, 115, 116, 97, 116, 105, 99, 95, 97, 116, 116, 114, 105, 98, 117, 116, 101, 115, 95, 95, 4, 0, 0, 23, 6, 238, 8, 95, 95, 100, 105, 99, 116, 95, 95, 4, 0, 0, 24, 6, 240, 11, 95, 95, 119, 101, 97, 107, 114, 101, 102, 95, 95, 4, 0, 0, 25, 6, 241, 8, 95, 95, 104, 97, 115, 104, 95, 95, 0]⟩ 0), (B true), (B true), (S "" 242)].toArray 1),
  O (Y "list") (L []),
  O (Y "dict") (D 9 [E P "name" 208 (S "_sre" 207), E P "loader" 209 (R 14), E P "origin" 210 (S "built-in" 184), E P "loader_state" 211 N, E P "submodule_search_locations" 212 N, E P "_uninitialized_submodules" 213 (R 19), E P "_set_fileattr" 214 (B false), E P "_cached" 215 N, E P "_initializing" 243 (B false)]),
  O (Y "dict") (D 13 [E P "__module__" 227 (S "_frozen_importlib" 217), E P "__firstlineno__" 228 (J 562 218), E P "__doc__" 229 (U "_frozen_importlib.ModuleSpec.__doc__:str#opaque"), E P "__init__" 230 (U "_frozen_importlib.ModuleSpec.__init__#opaque"), E P "__repr__" 231 (U "_frozen_importlib.ModuleSpec.__repr__#opaque"), E P "__eq__" 232 (U "_frozen_importlib.ModuleSpec.__eq__#opaque"), E P "cached" 233 (U "_frozen_importlib.ModuleSpec.cached#opaque"), E P "parent" 234 (U "_frozen_importlib.ModuleSpec.parent#opaque"), E P "has_location" 235 (U "_frozen_importlib.ModuleSpec.has_location#opaque"), E P "__static_attributes__" 236 (R 23), E P "__dict__" 238 (R 24), E P "__weakref__" 240 (R 25), E P "__hash__" 241 N]),
  O (Y "type") (.cls ⟨"ModuleSpec", [(Y "object")], [(R 22), (Y "object")], 21, "ModuleSpec", true, [], [], false, none, false⟩),
  O (Y "tuple") (L (sL ["_cached", "_set_fileattr", "_uninitialized_submodules", "loader", "loader_state", "name", "origin", "submodule_search_locations"] 219)),
  O (Y "getset_descriptor") (F [(S "__dict__" 237), (R 22), (U "function.__dict__"), (U "function.__dict__#set")]),
  O (Y "getset_descriptor") (F [(S "__weakref__" 239), (R 22), (U "ExceptionGroup.__weakref__"), N]),
  ⟨(R 22), (some 20), .plain, [].toArray⟩,
  O N (L [(I 11), (S ⟨#[6, 247, 8, 95, 95, 110, 97, 109, 101, 95, 95, 6, 246, 4, 95, 115, 114, 101, 6, 248, 7, 95, 95, 100, 111, 99, 95, 95, 0, 6, 250, 11, 95, 95, 112, 97, 99, 107, 97, 103, 101, 95, 95, 6, 249, 0, 6, 251, 10, 95, 95, 108, 111, 97, 100, 101, 114, 95, 95, 4, 0, 0, 14, 6, 252, 8, 95, 95, 115, 112, 101, 99, 95, 95, 4, 0, 0, 26, 6, 253, 7, 99, 111, 109, 112, 105, 108, 101, 9, 12, 95, 115, 114, 101, 46, 99, 111, 109, 112, 105, 108, 101, 6, 254, 8, 116, 101, 109, 112, 108, 97, 116, 101, 9, 13, 95, 115, 114, 101, 46, 116, 101, 109, 112, 108, 97, 116, 101, 6, 255, 11, 103, 101, 116, 99, 111, 100, 101, 115, 105, 122, 101, 9, 16, 95, 115, 114, 101, 46, 103, 101, 116, 99, 111, 100, 101, 115, 105, 122, 101, 6, 256, 13, 97, 115, 99, 105, 105, 95, 105, 115, 99, 97, 115, 101, 100, 9, 18, 95, 115, 114, 101, 46, 97, 115, 99, 105, 105, 95, 105, 115, 99, 97, 115, 101, 100, 6, 257, 15, 117, 110, 105, 99, 111, 100, 101, 95, 105, 115, 99, 97, 115, 101, 100, 9, 20, 95, 115, 114, 101, 46, 117, 110, 105, 99, 111, 100, 101, 95, 105, 115, 99, 97, 115, 101, 100, 6, 258, 13, 97, 115, 99, 105, 105, 95, 116, 111, 108, 111, 119, 101, 114, 9, 18, 95, 115, 114, 101, 46, 97, 115, 99, 105, 105, 95, 116, 111, 108, 111, 119, 101, 114, 6, 259, 15, 117, 110, 105, 99, 111, 100, 101, 95, 116, 111, 108, 111, 119, 101, 114, 9, 20, 95, 115, 114, 101, 46, 117, 110, 105, 99, 111, 100, 101, 95, 116, 111, 108, 111, 119, 101, 114, 6, 261, 5, 77, 65, 71, 73, 67, 4, 260, 0, 20230612, 6, 263, 8, 67, 79, 68, 69, 83, 73, 90, 69, 4, 262, 0, 4, 6, 265, 9, 77, 65, 88, 82, 69, 80, 69, 65, 84, 4, 264, 0, 4294967295, 6, 267, 9, 77, 65, 88, 71, 82, 79, 85, 80, 83, 4, 266, 0, 1073741823, 6, 269, 9, 99, 111, 112, 121, 114, 105, 103, 104, 116, 6, 268, 53, 32, 83, 82, 69, 32, 50, 46, 50, 46, 50, 32, 67, 111, 112, 121, 114, 105, 103, 104, 116, 32, 40, 99, 41, 32, 49, 57, 57, 55, 45, 50, 48, 48, 50, 32, 98, 121, 32, 83, 101, 99, 114, 101, 116, 32, 76, 97, 98, 115, 32, 65, 66, 32]⟩ 0), (B true), (B false), (S "_sre" 271)]),
  O (Y "tuple") (L []),
  O N (F [(I 2), (I 0), (R 37), (I 6), (I 0), (R 44), (I 10), (I 0), (R 51), (I 23), (I 0), (R 58), (I 80), (I 0), (R 68), (I 82), (I 0), (R 75), (I 87), (I 0), (R 92), (I 159), (I 0), (R 217), (I 164), (I 0), (R 222), (I 172), (I 0), (R 227), (I 175), (I 0), (R 232), (I 183), (I 0), (R 237), (I 195), (I 0), (R 242), (I 224), (I 0), (R 247), (I 230), (I 0), (R 252), (I 235), (I 0), (R 257), (I 247), (I 0), (R 262), (I 253), (I 0), (R 267)])]
noncomputable def h1 (P : Params) : List Obj := [
  O (Y "code") (C "<module>" "<module>" 277 1 0 0 0 0 28 false 276 29 N N N N 280),
  ⟨(Y "frame"), none, .plain, [some (R 30), some (R 3), some (R 3), none, some (S "__main__" 164), none, some (R 0)].toArray⟩,
  O (Y "tuple") (L []),
  O N (F []),
  O (Y "tuple") (L (sL ["k"] 285)),
  O (Y "tuple") (L []),
  K "_wall" "_wall" (dIn pw.main.body 1),
  O (Y "code") (C "_wall" "_wall" 282 2 1 0 0 3 32 true 276 33 N (R 34) (R 35) (R 36) 286),
  G "_wall" "_wall" (dIn pw.main.body 1) N (S "__main__" 164) 37,
  O (Y "tuple") (L []),
  O N (F []),
  O (Y "tuple") (L (sL ["target", "source", "cc", "nc", "tt", "ct", "callers", "t_cc", "t_nc", "t_tt", "t_ct", "t_callers"] 294)),
  O (Y "tuple") (L []),
  K "add_func_stats" "add_func_stats" (dIn pw.main.body 3),
  O (Y "code") (C "add_func_stats" "add_func_stats" 291 6 2 0 0 3 39 true 276 40 N (R 41) (R 42) (R 43) 306),
  G "add_func_stats" "add_func_stats" (dIn pw.main.body 3) N (S "cpy313.pstats" 289) 44,
  O (Y "tuple") (L []),
  O N (F []),
  O (Y "tuple") (L (sL ["target", "source", "new_callers", "func", "caller"] 312)),
  O (Y "tuple") (L []),
  K "add_callers" "add_callers" (dIn pw.main.body 4),
  O (Y "code") (C "add_callers" "add_callers" 309 10 2 0 0 3 46 true 276 47 N (R 48) (R 49) (R 50) 317),
  G "add_callers" "add_callers" (dIn pw.main.body 4) N (S "cpy313.pstats" 289) 51,
  O (Y "tuple") (L []),
  O N (F []),
  O (Y "tuple") (L (sL ["callers", "nc", "calls"] 323)),
  O (Y "tuple") (L []),
  K "count_calls" "count_calls" (dIn pw.main.body 5),
  O (Y "code") (C "count_calls" "count_calls" 320 23 1 0 0 3 53 true 276 54 N (R 55) (R 56) (R 57) 326),
  G "count_calls" "count_calls" (dIn pw.main.body 5) N (S "cpy313.pstats" 289) 58]
noncomputable def h2 (P : Params) : List Obj := [
  O (Y "dict") (D 48 [E P "!" 431 (J 54 427), E P "!=" 433 (J 28 375), E P "%" 435 (J 24 367), E P "%=" 437 (J 40 399), E P "&" 439 (J 19 357), E P "&=" 441 (J 41 401), E P "(" 443 (J 7 333), E P ")" 445 (J 8 335), E P "*" 447 (J 16 351), E P "**" 449 (J 35 389), E P "**=" 451 (J 46 411), E P "*=" 453 (J 38 395), E P "+" 455 (J 14 347), E P "+=" 457 (J 36 391), E P "," 459 (J 12 343), E P "-" 461 (J 15 349), E P "-=" 463 (J 37 393), E P "->" 465 (J 51 421), E P "." 467 (J 23 365), E P "..." 469 (J 52 423), E P "/" 471 (J 17 353), E P "//" 473 (J 47 413), E P "//=" 475 (J 48 415), E P "/=" 477 (J 39 397), E P ":" 479 (J 11 341), E P ":=" 481 (J 53 425), E P ";" 483 (J 13 345), E P "<" 485 (J 20 359), E P "<<" 487 (J 33 385), E P "<<=" 489 (J 44 407), E P "<=" 491 (J 29 377), E P "=" 493 (J 22 363), E P "==" 495 (J 27 373), E P ">" 497 (J 21 361), E P ">=" 499 (J 30 379), E P ">>" 500 (J 34 387), E P ">>=" 501 (J 45 409), E P "@" 502 (J 49 417), E P "@=" 503 (J 50 419), E P "[" 504 (J 9 337), E P "]" 505 (J 10 339), E P "^" 506 (J 32 383), E P "^=" 507 (J 43 405), E P "{" 508 (J 25 369), E P "|" 509 (J 18 355), E P "|=" 510 (J 42 403), E P "}" 511 (J 26 371), E P "~" 512 (J 31 381)]),
  O (Y "dict") (D 17 [E P "->" 465 (J 51 421), E P "." 467 (J 23 365), E P "..." 469 (J 52 423), E P "/" 471 (J 17 353), E P "//" 473 (J 47 413), E P "//=" 475 (J 48 415), E P "/=" 477 (J 39 397), E P ":" 479 (J 11 341), E P ":=" 481 (J 53 425), E P ";" 483 (J 13 345), E P "<" 485 (J 20 359), E P "<<" 487 (J 33 385), E P "<<=" 489 (J 44 407), E P "<=" 491 (J 29 377), E P "=" 493 (J 22 363), E P "==" 495 (J 27 373), E P ">" 497 (J 21 361)]),
  O (Y "dict") (D 14 [E P ">=" 499 (J 30 379), E P ">>" 500 (J 34 387), E P ">>=" 501 (J 45 409), E P "@" 502 (J 49 417), E P "@=" 503 (J 50 419), E P "[" 504 (J 9 337), E P "]" 505 (J 10 339), E P "^" 506 (J 32 383), E P "^=" 507 (J 43 405), E P "{" 508 (J 25 369), E P "|" 509 (J 18 355), E P "|=" 510 (J 42 403), E P "}" 511 (J 26 371), E P "~" 512 (J 31 381)]),
  O (Y "tuple") (L []),
  O N (F []),
  O (Y "tuple") (L (sL ["x"] 531)),
  O (Y "tuple") (L []),
  K "ISNONTERMINAL" "ISNONTERMINAL" (dIn pw.main.body 58),
  O (Y "code") (C "ISNONTERMINAL" "ISNONTERMINAL" 528 80 1 0 0 3 63 true 276 64 N (R 65) (R 66) (R 67) 532),
  G "ISNONTERMINAL" "ISNONTERMINAL" (dIn pw.main.body 58) N (S "cpy313.token" 329) 68,
  O (Y "tuple") (L []),
  O N (F []),
  O (Y "tuple") (L (sL ["x"] 538)),
  O (Y "tuple") (L []),
  K "ISEOF" "ISEOF" (dIn pw.main.body 59),
  O (Y "code") (C "ISEOF" "ISEOF" 535 82 1 0 0 3 70 true 276 71 N (R 72) (R 73) (R 74) 539),
  G "ISEOF" "ISEOF" (dIn pw.main.body 59) N (S "cpy313.token" 329) 75,
  O (Y "list") (L [(J 14 547), (J 10 548), (J 4 549), (J 1 550), (J 1 551), (J 22 552), (J 0 553), (J 31 554), (J 16 555), (J 127 556), (J 0 557), (J 13 558), (J 7 559), (J 22 560), (J 0 561), (J 31 562), (J 16 563), (J 127 564), (J 0 565), (J 1 566)]),
  O (Y "dict") (D 0 []),
  O (Y "tuple") (L [N]),
  O (Y "tuple") (L [(I 14), (I 10), (I 4), (I 1), (I 1), (I 22), (I 0), (I 31), (I 16), (I 127), (I 0), (I 13), (I 7), (I 22), (I 0), (I 31), (I 16), (I 127), (I 0), (I 1)]),
  O (Y "re.Pattern") (F [(S "[\\x00-\\x1F\\x7F]" 545), (J 32 568), (I 0), N, N, (R 80), (I 0)]),
  O (Y "list") (L [(J 14 573), (J 14 574), (J 4 575), (J 1 576), (J 1 577), (J 9 578), (J 4294966783 579), (J 0 580), (J 0 581), (J 2147483648 582), (J 0 583), (J 0 584), (J 0 585), (J 0 586), (J 0 587), (J 13 588), (J 11 589), (J 9 590), (J 4294966783 591), (J 0 592), (J 0 593), (J 2147483648 594), (J 0 595), (J 0 596), (J 0 597), (J 0 598), (J 0 599), (J 1 600)]),
  O (Y "dict") (D 0 []),
  O (Y "tuple") (L [N]),
  O (Y "tuple") (L [(I 14), (I 14), (I 4), (I 1), (I 1), (I 9), (I 4294966783), (I 0), (I 0), (I 2147483648), (I 0), (I 0), (I 0), (I 0), (I 0), (I 13), (I 11), (I 9), (I 4294966783), (I 0), (I 0), (I 2147483648), (I 0), (I 0), (I 0), (I 0), (I 0), (I 1)]),
  O (Y "re.Pattern") (F [(S "[\\x00-\\x08\\x0A-\\x1F\\x7F]" 571), (J 32 602), (I 0), N, N, (R 85), (I 0)]),
  O (Y "tuple") (L []),
  O (Y "builtin_function_or_method") (F [(U "type.__prepare__"), (Y "type")]),
  O (Y "dict") (D 21 [E P "__module__" 611 (S "cpy313.wsgiref.headers" 542), E P "__qualname__" 613 (S "Headers" 612), E P "__firstlineno__" 615 (J 87 614), E P "__init__" 625 (R 101), E P "_convert_string_type" 635 (R 108), E P "__len__" 642 (R 115), E P "__setitem__" 651 (R 122), E P "__delitem__" 657 (R 127), E P "__getitem__" 665 (R 134), E P "__contains__" 673 (R 141), E P "get_all" 679 (R 146), E P "get" 690 (R 154), E P "keys" 696 (R 159), E P "values" 702 (R 164), E P "items" 709 (R 171), E P "__repr__" 716 (R 178), E P "__str__" 722 (R 183), E P "__bytes__" 729 (R 190), E P "setdefault" 738 (R 197), E P "add_header" 748 (R 204), E P "__static_attributes__" 750 (R 205)])]
noncomputable def h3 (P : Params) : List Obj := [
  O (Y "tuple") (L []),
  O N (F [(I 89), (I 4), (R 100), (I 99), (I 4), (R 107), (I 107), (I 4), (R 114), (I 110), (I 4), (R 121), (I 114), (I 4), (R 126), (I 118), (I 4), (R 133), (I 121), (I 4), (R 140), (I 124), (I 4), (R 145), (I 128), (I 4), (R 153), (I 135), (I 4), (R 158), (I 138), (I 4), (R 163), (I 141), (I 4), (R 170), (I 144), (I 4), (R 177), (I 147), (I 4), (R 182), (I 150), (I 4), (R 189), (I 153), (I 4), (R 196), (I 156), (I 4), (R 203)]),
  O (Y "code") (C "Headers" "Headers" 606 87 0 0 0 0 90 false 276 91 N N N N 609),
  ⟨(Y "frame"), none, .plain, [some (R 92), some (R 3), some (R 89), none, some (S "cpy313.wsgiref.headers" 542), none, some (R 0)].toArray⟩,
  O (Y "tuple") (L [N]),
  O (Y "tuple") (L []),
  O N (F []),
  O (Y "tuple") (L (sL ["self", "headers", "k", "v"] 619)),
  O (Y "tuple") (L []),
  K "__init__" "Headers.__init__" (dIn cB 0),
  O (Y "code") (C "__init__" "Headers.__init__" 616 89 2 0 0 3 95 true 276 96 N (R 97) (R 98) (R 99) 623),
  G "__init__" "Headers.__init__" (dIn cB 0) (R 94) (S "cpy313.wsgiref.headers" 542) 100,
  O (Y "tuple") (L []),
  O N (F []),
  O (Y "tuple") (L (sL ["self", "value", "name", "regex"] 629)),
  O (Y "tuple") (L []),
  K "_convert_string_type" "Headers._convert_string_type" (dIn cB 1),
  O (Y "code") (C "_convert_string_type" "Headers._convert_string_type" 626 99 2 0 1 3 102 true 276 103 N (R 104) (R 105) (R 106) 633),
  G "_convert_string_type" "Headers._convert_string_type" (dIn cB 1) N (S "cpy313.wsgiref.headers" 542) 107,
  O (Y "tuple") (L []),
  O N (F []),
  O (Y "tuple") (L (sL ["self"] 639)),
  O (Y "tuple") (L []),
  K "__len__" "Headers.__len__" (dIn cB 2),
  O (Y "code") (C "__len__" "Headers.__len__" 636 107 1 0 0 3 109 true 276 110 N (R 111) (R 112) (R 113) 640),
  G "__len__" "Headers.__len__" (dIn cB 2) N (S "cpy313.wsgiref.headers" 542) 114,
  O (Y "tuple") (L []),
  O N (F []),
  O (Y "tuple") (L (sL ["self", "name", "val"] 646)),
  O (Y "tuple") (L [])]
noncomputable def h4 (P : Params) : List Obj := [
  K "__setitem__" "Headers.__setitem__" (dIn cB 3),
  O (Y "code") (C "__setitem__" "Headers.__setitem__" 643 110 3 0 0 3 116 true 276 117 N (R 118) (R 119) (R 120) 649),
  G "__setitem__" "Headers.__setitem__" (dIn cB 3) N (S "cpy313.wsgiref.headers" 542) 121,
  O (Y "tuple") (L []),
  O N (F []),
  K "__delitem__" "Headers.__delitem__" (dIn cB 4),
  O (Y "code") (C "__delitem__" "Headers.__delitem__" 652 114 2 0 0 3 123 true 276 124 N N N (R 125) 655),
  G "__delitem__" "Headers.__delitem__" (dIn cB 4) N (S "cpy313.wsgiref.headers" 542) 126,
  O (Y "tuple") (L []),
  O N (F []),
  O (Y "tuple") (L (sL ["self", "name"] 661)),
  O (Y "tuple") (L []),
  K "__getitem__" "Headers.__getitem__" (dIn cB 5),
  O (Y "code") (C "__getitem__" "Headers.__getitem__" 658 118 2 0 0 3 128 true 276 129 N (R 130) (R 131) (R 132) 663),
  G "__getitem__" "Headers.__getitem__" (dIn cB 5) N (S "cpy313.wsgiref.headers" 542) 133,
  O (Y "tuple") (L []),
  O N (F []),
  O (Y "tuple") (L (sL ["self", "name"] 669)),
  O (Y "tuple") (L []),
  K "__contains__" "Headers.__contains__" (dIn cB 6),
  O (Y "code") (C "__contains__" "Headers.__contains__" 666 121 2 0 0 3 135 true 276 136 N (R 137) (R 138) (R 139) 671),
  G "__contains__" "Headers.__contains__" (dIn cB 6) N (S "cpy313.wsgiref.headers" 542) 140,
  O (Y "tuple") (L []),
  O N (F []),
  K "get_all" "Headers.get_all" (dIn cB 7),
  O (Y "code") (C "get_all" "Headers.get_all" 674 124 2 0 0 3 142 true 276 143 N N N (R 144) 677),
  G "get_all" "Headers.get_all" (dIn cB 7) N (S "cpy313.wsgiref.headers" 542) 145,
  O (Y "tuple") (L [N]),
  O (Y "tuple") (L []),
  O N (F [])]
noncomputable def h5 (P : Params) : List Obj := [
  O (Y "tuple") (L (sL ["self", "name", "default", "k", "v"] 683)),
  O (Y "tuple") (L []),
  K "get" "Headers.get" (dIn cB 8),
  O (Y "code") (C "get" "Headers.get" 680 128 3 0 0 3 148 true 276 149 N (R 150) (R 151) (R 152) 688),
  G "get" "Headers.get" (dIn cB 8) (R 147) (S "cpy313.wsgiref.headers" 542) 153,
  O (Y "tuple") (L []),
  O N (F []),
  K "keys" "Headers.keys" (dIn cB 9),
  O (Y "code") (C "keys" "Headers.keys" 691 135 1 0 0 3 155 true 276 156 N N N (R 157) 694),
  G "keys" "Headers.keys" (dIn cB 9) N (S "cpy313.wsgiref.headers" 542) 158,
  O (Y "tuple") (L []),
  O N (F []),
  K "values" "Headers.values" (dIn cB 10),
  O (Y "code") (C "values" "Headers.values" 697 138 1 0 0 3 160 true 276 161 N N N (R 162) 700),
  G "values" "Headers.values" (dIn cB 10) N (S "cpy313.wsgiref.headers" 542) 163,
  O (Y "tuple") (L []),
  O N (F []),
  O (Y "tuple") (L (sL ["self"] 706)),
  O (Y "tuple") (L []),
  K "items" "Headers.items" (dIn cB 11),
  O (Y "code") (C "items" "Headers.items" 703 141 1 0 0 3 165 true 276 166 N (R 167) (R 168) (R 169) 707),
  G "items" "Headers.items" (dIn cB 11) N (S "cpy313.wsgiref.headers" 542) 170,
  O (Y "tuple") (L []),
  O N (F []),
  O (Y "tuple") (L (sL ["self"] 713)),
  O (Y "tuple") (L []),
  K "__repr__" "Headers.__repr__" (dIn cB 12),
  O (Y "code") (C "__repr__" "Headers.__repr__" 710 144 1 0 0 3 172 true 276 173 N (R 174) (R 175) (R 176) 714),
  G "__repr__" "Headers.__repr__" (dIn cB 12) N (S "cpy313.wsgiref.headers" 542) 177,
  O (Y "tuple") (L [])]
noncomputable def h6 (P : Params) : List Obj := [
  O N (F []),
  K "__str__" "Headers.__str__" (dIn cB 13),
  O (Y "code") (C "__str__" "Headers.__str__" 717 147 1 0 0 3 179 true 276 180 N N N (R 181) 720),
  G "__str__" "Headers.__str__" (dIn cB 13) N (S "cpy313.wsgiref.headers" 542) 182,
  O (Y "tuple") (L []),
  O N (F []),
  O (Y "tuple") (L (sL ["self"] 726)),
  O (Y "tuple") (L []),
  K "__bytes__" "Headers.__bytes__" (dIn cB 14),
  O (Y "code") (C "__bytes__" "Headers.__bytes__" 723 150 1 0 0 3 184 true 276 185 N (R 186) (R 187) (R 188) 727),
  G "__bytes__" "Headers.__bytes__" (dIn cB 14) N (S "cpy313.wsgiref.headers" 542) 189,
  O (Y "tuple") (L []),
  O N (F []),
  O (Y "tuple") (L (sL ["self", "name", "value"] 733)),
  O (Y "tuple") (L []),
  K "setdefault" "Headers.setdefault" (dIn cB 15),
  O (Y "code") (C "setdefault" "Headers.setdefault" 730 153 3 0 0 3 191 true 276 192 N (R 193) (R 194) (R 195) 736),
  G "setdefault" "Headers.setdefault" (dIn cB 15) N (S "cpy313.wsgiref.headers" 542) 196,
  O (Y "tuple") (L []),
  O N (F []),
  O (Y "tuple") (L (sL ["self", "_name", "_value", "_params"] 742)),
  O (Y "tuple") (L []),
  K "add_header" "Headers.add_header" (dIn cB 16),
  O (Y "code") (C "add_header" "Headers.add_header" 739 156 3 0 0 11 198 true 276 199 N (R 200) (R 201) (R 202) 746),
  G "add_header" "Headers.add_header" (dIn cB 16) N (S "cpy313.wsgiref.headers" 542) 203,
  O (Y "tuple") (L (sL ["_headers"] 749)),
  O (Y "dict") (D 4 [E P "__module__" 611 (S "cpy313.wsgiref.headers" 542), E P "__firstlineno__" 615 (J 87 614), E P "__init__" 625 (R 101), E P "_convert_string_type" 635 (R 108), E P "__len__" 642 (R 115), E P "__setitem__" 651 (R 122), E P "__delitem__" 657 (R 127), E P "__getitem__" 665 (R 134), E P "__contains__" 673 (R 141), E P "get_all" 679 (R 146), E P "get" 690 (R 154), E P "keys" 696 (R 159), E P "values" 702 (R 164), E P "items" 709 (R 171), E P "__repr__" 716 (R 178), E P "__str__" 722 (R 183), E P "__bytes__" 729 (R 190), E P "setdefault" 738 (R 197), E P "add_header" 748 (R 204), E P "__static_attributes__" 750 (R 205), E P "__dict__" 752 (R 208), E P "__weakref__" 754 (R 209), E P "__doc__" 755 N]),
  ⟨(Y "type"), none, (.cls ⟨"Headers", [(Y "object")], [(R 207), (Y "object")], 206, "Headers", true, [], [], false, none, false⟩), [none, none, some (S "Headers" 604), some (S "Headers" 612), some (U "object.__new__"), some (B true)].toArray⟩,
  O (Y "getset_descriptor") (F [(S "__dict__" 751), (R 207), (U "function.__dict__"), (U "function.__dict__#set")]),
  O (Y "getset_descriptor") (F [(S "__weakref__" 753), (R 207), (U "ExceptionGroup.__weakref__"), N])]
noncomputable def h7 (P : Params) : List Obj := [
  O (Y "super") (F [(R 207), (R 207), (R 207)]),
  O (Y "builtin_function_or_method") (F [(U "object.__init_subclass__"), (R 207)]),
  O (Y "tuple") (L []),
  O N (F []),
  O (Y "tuple") (L (sL ["script", "numbers", "k", "x"] 763)),
  O (Y "tuple") (L []),
  K "_law_numbers" "_law_numbers" (dIn pw.main.body 65),
  O (Y "code") (C "_law_numbers" "_law_numbers" 760 159 1 0 0 3 212 true 276 213 N (R 214) (R 215) (R 216) 767),
  G "_law_numbers" "_law_numbers" (dIn pw.main.body 65) N (S "law_zd0018_01" 758) 217,
  O (Y "tuple") (L []),
  O N (F []),
  K "_law_drawn" "_law_drawn" (dIn pw.main.body 66),
  O (Y "code") (C "_law_drawn" "_law_drawn" 770 164 1 0 0 3 219 true 276 220 N N N (R 221) 773),
  G "_law_drawn" "_law_drawn" (dIn pw.main.body 66) N (S "law_zd0018_01" 758) 222,
  O (Y "tuple") (L []),
  O N (F []),
  K "_law_text" "_law_text" (dIn pw.main.body 67),
  O (Y "code") (C "_law_text" "_law_text" 776 172 2 0 0 3 224 true 276 225 N N N (R 226) 779),
  G "_law_text" "_law_text" (dIn pw.main.body 67) N (S "law_zd0018_01" 758) 227,
  O (Y "tuple") (L []),
  O N (F []),
  K "_law_cases" "_law_cases" (dIn pw.main.body 68),
  O (Y "code") (C "_law_cases" "_law_cases" 782 175 2 0 0 3 229 true 276 230 N N N (R 231) 785),
  G "_law_cases" "_law_cases" (dIn pw.main.body 68) N (S "law_zd0018_01" 758) 232,
  O (Y "tuple") (L []),
  O N (F []),
  K "_law_symbols" "_law_symbols" (dIn pw.main.body 69),
  O (Y "code") (C "_law_symbols" "_law_symbols" 788 183 2 0 0 3 234 true 276 235 N N N (R 236) 791),
  G "_law_symbols" "_law_symbols" (dIn pw.main.body 69) N (S "law_zd0018_01" 758) 237,
  O (Y "tuple") (L [])]
noncomputable def h8 (P : Params) : List Obj := [
  O N (F []),
  K "_law_entries" "_law_entries" (dIn pw.main.body 70),
  O (Y "code") (C "_law_entries" "_law_entries" 794 195 2 0 0 3 239 true 276 240 N N N (R 241) 797),
  G "_law_entries" "_law_entries" (dIn pw.main.body 70) N (S "law_zd0018_01" 758) 242,
  O (Y "tuple") (L []),
  O N (F []),
  K "_law_least" "_law_least" (dIn pw.main.body 71),
  O (Y "code") (C "_law_least" "_law_least" 800 224 1 0 0 3 244 true 276 245 N N N (R 246) 803),
  G "_law_least" "_law_least" (dIn pw.main.body 71) N (S "law_zd0018_01" 758) 247,
  O (Y "tuple") (L []),
  O N (F []),
  K "_law_pairs" "_law_pairs" (dIn pw.main.body 72),
  O (Y "code") (C "_law_pairs" "_law_pairs" 806 230 1 0 0 3 249 true 276 250 N N N (R 251) 809),
  G "_law_pairs" "_law_pairs" (dIn pw.main.body 72) N (S "law_zd0018_01" 758) 252,
  O (Y "tuple") (L []),
  O N (F []),
  K "_law_taken" "_law_taken" (dIn pw.main.body 73),
  O (Y "code") (C "_law_taken" "_law_taken" 812 235 2 0 0 3 254 true 276 255 N N N (R 256) 815),
  G "_law_taken" "_law_taken" (dIn pw.main.body 73) N (S "law_zd0018_01" 758) 257,
  O (Y "tuple") (L []),
  O N (F []),
  K "_law_masks" "_law_masks" (dIn pw.main.body 74),
  O (Y "code") (C "_law_masks" "_law_masks" 818 247 0 0 0 3 259 true 276 260 N N N (R 261) 821),
  G "_law_masks" "_law_masks" (dIn pw.main.body 74) N (S "law_zd0018_01" 758) 262,
  O (Y "tuple") (L []),
  O N (F []),
  K "law" "law" (dIn pw.main.body 75),
  O (Y "code") (C "law" "law" 824 253 1 0 0 3 264 true 276 265 N N N (R 266) 827),
  G "law" "law" (dIn pw.main.body 75) N (S "law_zd0018_01" 758) 267]
noncomputable def objs (P : Params) : List Obj := h0 P ++ (h1 P ++ (h2 P ++ (h3 P ++ (h4 P ++ (h5 P ++ (h6 P ++ (h7 P ++ (h8 P))))))))
end Mine.Z
namespace Mine
/-- what the top's run leaves -/
noncomputable def theRun (w : World) : Shared := { heap := ⟨(Z.objs w.params).toArray, {}⟩, gens := #[], drawn := {}, toks := 830, os := (start (opening pw)).1.os }
theorem runF (w : World) : endsQ (w.withFollow "special-get-raises" false) = some (theRun (w.withFollow "special-get-raises" false)) := by kernel_rfl
theorem runT (w : World) : endsQ (w.withFollow "special-get-raises" true) = some (theRun (w.withFollow "special-get-raises" true)) := by kernel_rfl
theorem runA (w : World) : endsQ w = some (theRun w) := byRow2 "special-get-raises" (P := fun w => endsQ w = some (theRun w)) runF runT w
theorem seen0 (w : World) : (seenQ (theRun w)).1 = expectedOf qw := by kernel_rfl
theorem seen1 (w : World) : (seenQ (theRun w)).2.1 = bltViewBooted := by kernel_rfl
theorem seen2 (w : World) : (seenQ (theRun w)).2.2.1 = true := by kernel_rfl
theorem seen3 (w : World) : (seenQ (theRun w)).2.2.2.1 = true := by kernel_rfl
theorem seen4 (w : World) : (seenQ (theRun w)).2.2.2.2.1 = pinGoodD (drecsOf qw) := by kernel_rfl
theorem seen5 (w : World) : (seenQ (theRun w)).2.2.2.2.2.1 = plainGoodE qw (looseW qw looseL) := by kernel_rfl
theorem seen6 (w : World) : (seenQ (theRun w)).2.2.2.2.2.2.1 = plainGoodD qw looseL := by kernel_rfl
theorem seen7 (w : World) : (seenQ (theRun w)).2.2.2.2.2.2.2.1 = wideGood qw := by kernel_rfl
theorem seen8 (w : World) : (seenQ (theRun w)).2.2.2.2.2.2.2.2 = clsGoodW qw looseL := by kernel_rfl
theorem seenA (w : World) : seenQ (theRun w) = openGood qw looseL :=
  Prod.ext (seen0 w) (Prod.ext (seen1 w) (Prod.ext (seen2 w) (Prod.ext (seen3 w) (Prod.ext (seen4 w) (Prod.ext (seen5 w) (Prod.ext (seen6 w) (Prod.ext (seen7 w) (seen8 w))))))))
theorem left : LeftO pw qw looseL Xt0 (fun s => s) theRun 5758 := fun w => by
  rw [endsQ_eq, runA]
  show some (openSeen qw looseL (importedModules pw.main.body) Xt0 true (theRun w), theRun w) = _
  rw [seenQ_eq, seenA]
/-- what the top left stands -/
noncomputable def Left (w : World) (h : Heap) : Prop := ∀ b o, (theRun w).heap.get? b = some o → h.get? b = some o
end Mine
end
-- Det
section
open PySem PySem.W PyProof.Rows
set_option Elab.async false
set_option linter.all false
namespace Mine
/-- what a run's first step was -/
noncomputable def InvS (M : Model) (Γ : Ctx) (p : Pos) (t : Sem Fin) (fs : List Frame) (s : Shared) (e : End) (s' : Shared) : Prop :=
  ∃ v g₀ l₀ k₀ c₀ p₀ fs₀ s₁, Runs M (Γ.over fs) p t [] s (.susp v g₀ l₀ k₀ c₀ p₀ fs₀) s₁ ∧ match splitAtGen fs with
    | none => e = .susp v g₀ l₀ k₀ c₀ p₀ (fs₀ ++ fs) ∧ s' = s₁
    | some (pre, (g, k, c₁, p₁), rest) => Runs M (Γ.goto c₁) p₁ (k (.yielded v)) rest (s₁.setGen g (End.susp v g₀ l₀ k₀ c₀ p₀ (fs₀ ++ pre)).genState) e s'
noncomputable def InvR (M : Model) (Γ : Ctx) (p : Pos) (g : Nat) (r : Resume) (k : GenResult → Sem Fin) (s : Shared) (e : End) (s' : Shared) : Option GenState → Prop
  | some (.fresh c) => (match r with
    | .send v => (v = .none ∧ ∃ e₁ s₁, Runs M (Γ.wake c p) p (M.den c) [] (s.setGen g .running) e₁ s₁ ∧ Runs M Γ p (k e₁.result) [] (s₁.setGen g e₁.genState) e s') ∨ (v ≠ .none ∧ Runs M Γ p (k .justStarted) [] s e s')
    | .throw x => Runs M Γ p (k (.raised x)) [] (s.setGen g .finished) e s')
  | some (.suspended k₀ l₀ c₀ p₀ fs cl) => ∃ e₁ s₁, Runs M (Γ.wake c₀ p) p₀ (k₀ r) fs (s.setGen g .running) e₁ s₁ ∧ Runs M Γ p (k e₁.result) [] (s₁.setGen g e₁.genState) e s'
  | some .running => Runs M Γ p (k .running) [] s e s'
  | some .finished => Runs M Γ p (k .finished) [] s e s'
  | none => False
noncomputable def Inv0 (M : Model) (Γ : Ctx) (p : Pos) (s : Shared) (e : End) (s' : Shared) : Sem Fin → Prop
  | .pure y => (match y with
    | .done f => e = .ret (.ok f) ∧ s' = s
    | .again c => Runs M (Γ.goto c) p (M.den c) [] s e s')
  | .raise x => e = .ret (.error x) ∧ s' = s
  | .rule _ k => Runs M Γ p (k ()) [] s e s'
  | .at p' k => Runs M Γ p' (k ()) [] s e s'
  | .load a _ k => ∃ o, s.heap.get? a = some o ∧ Runs M Γ p (k o) [] s e s'
  | .update a _ f k => Runs M Γ p (k ()) [] { s with heap := s.heap.update a f } e s'
  | .loadIfAlive a k => Runs M Γ p (k (s.heap.get? a)) [] s e s'
  | .point _ k => Runs M Γ p (k ()) [] s e s'
  | .alloc o k => Runs M Γ p (k s.heap.objs.size) [] { s with heap := s.heap.push o } e s'
  | .fresh k => Runs M Γ p (k s.toks) [] { s with toks := s.toks + 1 } e s'
  | .ask k => Runs M Γ p (k ⟨M.prog, M.w.params⟩) [] s e s'
  | .choose src n k => Runs M Γ p (k (M.w.draws src (s.drawn.get src) % n)) [] { s with drawn := s.drawn.bump src } e s'
  | .os q _ k => Runs M Γ p (k (Os.step s.os q).2) [] { s with os := (Os.step s.os q).1 } e s'
  | .handled own k => Runs M Γ p (k (if own then Γ.own else Γ.handled)) [] s e s'
  | .genState g k => ∃ st, s.gens[g]? = some st ∧ Runs M Γ p (k st.seen) [] s e s'
  | .stack k => Runs M Γ p (k ((Γ.code, p) :: Γ.below)) [] s e s'
  | .thread k => Runs M Γ p (k 0) [] s e s'
  | .newGen c k => Runs M Γ p (k s.gens.size) [] { s with gens := s.gens.push (.fresh c) } e s'
  | .call c h g l k => (∃ r s₁, Runs M (Γ.enter c h p) p (M.den c) [] s (.ret r) s₁ ∧ Runs M Γ p (k r) [] s₁ e s') ∨
      ∃ v g₀ l₀ k₀ c₀ p₀ fs, Runs M (Γ.enter c h p) p (M.den c) [] s (.susp v g₀ l₀ k₀ c₀ p₀ fs) s' ∧ e = .susp v g₀ l₀ k₀ c₀ p₀ (fs ++ [.ret k h g l Γ.code p []])
  | .yield v g l k => e = .susp v g l k Γ.code p [] ∧ s' = s
  | .resume g r _ k => InvR M Γ p g r k s e s' s.gens[g]?
  | _ => True
noncomputable def InvC (M : Model) (Γ : Ctx) (p : Pos) (t : Sem Fin) (F : Frame) (fs : List Frame) (s : Shared) (e : End) (s' : Shared) : Prop :=
  (∃ r s₁, Runs M (Γ.over (F :: fs)) p t [] s (.ret r) s₁ ∧ match F with
    | .ret k _ _ _ c₁ p₁ _ => Runs M (Γ.goto c₁) p₁ (k r) fs s₁ e s'
    | .gen g k _ c₁ p₁ => Runs M (Γ.goto c₁) p₁ (k (End.ret r).result) fs (s₁.setGen g .finished) e s') ∨ InvS M Γ p t (F :: fs) s e s'
noncomputable def Inv (M : Model) (Γ : Ctx) (p : Pos) (t : Sem Fin) (fs : List Frame) (s : Shared) (e : End) (s' : Shared) : Prop := match fs with
  | [] => Inv0 M Γ p s e s' t
  | F :: fs => InvC M Γ p t F fs s e s'
theorem inv_of {M : Model} {Γ : Ctx} {p : Pos} {g : Nat} {r : Resume} {l : List Value} {k : GenResult → Sem Fin} {s : Shared} {e : End} {s' : Shared} (h : InvR M Γ p g r k s e s' s.gens[g]?) : Inv M Γ p (.resume g r l k) [] s e s' := h
theorem runs_inv {M : Model} {Γ : Ctx} {p : Pos} {t : Sem Fin} {fs : List Frame} {s : Shared} {e : End} {s' : Shared} (h : Runs M Γ p t fs s e s') : Inv M Γ p t fs s e s' := by
  induction h with
  | done => exact ⟨rfl, rfl⟩
  | raise => exact ⟨rfl, rfl⟩
  | again _ h _ => exact h
  | rule h _ => exact h
  | «at» h _ => exact h
  | load ho h _ => exact ⟨_, ho, h⟩
  | update _ h _ => exact h
  | loadIfAlive h _ => exact h
  | point h _ => exact h
  | alloc h _ => exact h
  | fresh h _ => exact h
  | ask h _ => exact h
  | choose _ h _ => exact h
  | os h _ => exact h
  | handled h _ => exact h
  | genState hg h _ => exact ⟨_, hg, h⟩
  | stack h _ => exact h
  | thread h _ => exact h
  | newGen h _ => exact h
  | call a b _ _ => exact Or.inl ⟨_, _, a, b⟩
  | callSusp a _ => exact Or.inr ⟨_, _, _, _, _, _, _, a, rfl⟩
  | yield => exact ⟨rfl, rfl⟩
  | resumeFresh hg a _ b _ _ => refine inv_of ?_; rw [hg]; exact Or.inl ⟨rfl, _, _, a, b⟩
  | resumeSuspended hg a _ b _ _ => refine inv_of ?_; rw [hg]; exact ⟨_, _, a, b⟩
  | resumeJustStarted hg hv b _ => refine inv_of ?_; rw [hg]; exact Or.inr ⟨hv, b⟩
  | resumeThrowFresh hg b _ => refine inv_of ?_; rw [hg]; exact b
  | resumeRunning hg b _ => refine inv_of ?_; rw [hg]; exact b
  | resumeFinished hg b _ => refine inv_of ?_; rw [hg]; exact b
  | segRet a b _ _ => exact Or.inl ⟨_, _, a, b⟩
  | segGen a b _ _ => exact Or.inl ⟨_, _, a, b⟩
  | segSuspOut hs a _ => exact Or.inr ⟨_, _, _, _, _, _, _, _, a, by rw [hs]; exact ⟨rfl, rfl⟩⟩
  | segSuspGen hs a _ b _ _ => exact Or.inr ⟨_, _, _, _, _, _, _, _, a, by rw [hs]; exact b⟩
theorem inv_res {M : Model} {Γ : Ctx} {p : Pos} {g : Nat} {r : Resume} {l : List Value} {k : GenResult → Sem Fin} {s : Shared} {e : End} {s' : Shared} (h : Runs M Γ p (.resume g r l k) [] s e s') : InvR M Γ p g r k s e s' s.gens[g]? := runs_inv h
theorem inv_seg {M : Model} {Γ : Ctx} {p : Pos} {t : Sem Fin} {F : Frame} {fs : List Frame} {s : Shared} {e : End} {s' : Shared} (h : Inv M Γ p t (F :: fs) s e s') (hn : ∀ r s₁, ¬ Runs M (Γ.over (F :: fs)) p t [] s (.ret r) s₁) : InvS M Γ p t (F :: fs) s e s' := by
  exact Or.elim h (fun ⟨r, s₁, a, _⟩ => absurd a (hn r s₁)) id
theorem ret_eq {r r1 : Result} {s s1 : Shared} (h : End.ret r = End.ret r1 ∧ s = s1) : r = r1 ∧ s = s1 := ⟨End.ret.inj h.1, h.2⟩
theorem not_rs {P : Prop} {r : Result} {v g l k c p fs} {s s1 : Shared} (h : End.ret r = End.susp v g l k c p fs ∧ s = s1) : P := nomatch h.1
theorem not_sr {P : Prop} {r : Result} {v g l k c p fs} {s s1 : Shared} (h : End.susp v g l k c p fs = End.ret r ∧ s = s1) : P := nomatch h.1
theorem susp_app {v g l k c p fs v' g' l' k' c' p' fs'} (h : End.susp v g l k c p fs = End.susp v' g' l' k' c' p' fs') (t : List Frame) : End.susp v g l k c p (fs ++ t) = End.susp v' g' l' k' c' p' (fs' ++ t) := by cases h; rfl
noncomputable def SG (M : Model) (Γ : Ctx) (pre : List Frame) (g : Nat) (k : GenResult → Sem Fin) (c₁ : Code) (p₁ : Pos) (rest : List Frame) (e2 : End) (s2 : Shared) (s₁ : Shared) : End → Prop
  | .susp v g₀ l₀ k₀ c₀ p₀ fs₀ => Runs M (Γ.goto c₁) p₁ (k (.yielded v)) rest (s₁.setGen g (End.susp v g₀ l₀ k₀ c₀ p₀ (fs₀ ++ pre)).genState) e2 s2
  | _ => True
theorem runs_det {M : Model} {Γ : Ctx} {p : Pos} {t : Sem Fin} {fs : List Frame} {s : Shared} {e : End} {s' : Shared} (h : Runs M Γ p t fs s e s') : ∀ {e2 : End} {s2 : Shared}, Runs M Γ p t fs s e2 s2 → e = e2 ∧ s' = s2 := by
  induction h with
  | done => exact fun h2 => have ⟨a, b⟩ := runs_inv h2; ⟨a.symm, b.symm⟩
  | raise => exact fun h2 => have ⟨a, b⟩ := runs_inv h2; ⟨a.symm, b.symm⟩
  | again _ _ ih => exact fun h2 => ih (runs_inv h2)
  | rule _ ih => exact fun h2 => ih (runs_inv h2)
  | «at» _ ih => exact fun h2 => ih (runs_inv h2)
  | load ho _ ih => exact fun h2 => have ⟨_, h3, h4⟩ := runs_inv h2; ih (Option.some.inj (ho.symm.trans h3) ▸ h4)
  | update _ _ ih => exact fun h2 => ih (runs_inv h2)
  | loadIfAlive _ ih => exact fun h2 => ih (runs_inv h2)
  | point _ ih => exact fun h2 => ih (runs_inv h2)
  | alloc _ ih => exact fun h2 => ih (runs_inv h2)
  | fresh _ ih => exact fun h2 => ih (runs_inv h2)
  | ask _ ih => exact fun h2 => ih (runs_inv h2)
  | choose _ _ ih => exact fun h2 => ih (runs_inv h2)
  | os _ ih => exact fun h2 => ih (runs_inv h2)
  | handled _ ih => exact fun h2 => ih (runs_inv h2)
  | genState hg _ ih => exact fun h2 => have ⟨_, h3, h4⟩ := runs_inv h2; ih (Option.some.inj (hg.symm.trans h3) ▸ h4)
  | stack _ ih => exact fun h2 => ih (runs_inv h2)
  | thread _ ih => exact fun h2 => ih (runs_inv h2)
  | newGen _ ih => exact fun h2 => ih (runs_inv h2)
  | call _ _ ih1 ih2 =>
    intro e2 s2 h2
    rcases runs_inv h2 with ⟨r, s₁, a, b⟩ | ⟨v, g, l, k, c, p, fs, a, _⟩
    · obtain ⟨rfl, rfl⟩ := ret_eq (ih1 a); exact ih2 b
    · exact not_rs (ih1 a)
  | callSusp _ ih1 =>
    intro e2 s2 h2
    rcases runs_inv h2 with ⟨r, s₁, a, b⟩ | ⟨v, g, l, k, c, p, fs, a, rfl⟩
    · exact not_sr (ih1 a)
    · exact ⟨susp_app (ih1 a).1 _, (ih1 a).2⟩
  | yield => exact fun h2 => have ⟨a, b⟩ := runs_inv h2; ⟨a.symm, b.symm⟩
  | resumeFresh hg _ _ _ ih1 ih2 =>
    intro e2 s2 h2
    have q := inv_res h2
    rw [hg] at q
    rcases q with ⟨_, e₁, s₁, a, b⟩ | ⟨hv, _⟩
    · obtain ⟨rfl, rfl⟩ := ih1 a; exact ih2 b
    · exact absurd rfl hv
  | resumeSuspended hg _ _ _ ih1 ih2 =>
    intro e2 s2 h2
    have q := inv_res h2
    rw [hg] at q
    obtain ⟨e₁, s₁, a, b⟩ := q
    obtain ⟨rfl, rfl⟩ := ih1 a; exact ih2 b
  | resumeJustStarted hg hv _ ih =>
    intro e2 s2 h2
    have q := inv_res h2
    rw [hg] at q
    rcases q with ⟨h, _⟩ | ⟨_, b⟩
    · exact absurd h hv
    · exact ih b
  | resumeThrowFresh hg _ ih => exact fun h2 => ih (by have q := inv_res h2; rw [hg] at q; exact q)
  | resumeRunning hg _ ih => exact fun h2 => ih (by have q := inv_res h2; rw [hg] at q; exact q)
  | resumeFinished hg _ ih => exact fun h2 => ih (by have q := inv_res h2; rw [hg] at q; exact q)
  | segRet _ _ ih1 ih2 =>
    intro e2 s2 h2
    rcases runs_inv h2 with ⟨r, s₁, a, b⟩ | ⟨_, _, _, _, _, _, _, _, a, _⟩
    · obtain ⟨rfl, rfl⟩ := ret_eq (ih1 a); exact ih2 b
    · exact not_rs (ih1 a)
  | segGen _ _ ih1 ih2 =>
    intro e2 s2 h2
    rcases runs_inv h2 with ⟨r, s₁, a, b⟩ | ⟨_, _, _, _, _, _, _, _, a, _⟩
    · obtain ⟨rfl, rfl⟩ := ret_eq (ih1 a); exact ih2 b
    · exact not_rs (ih1 a)
  | segSuspOut hs _ ih1 =>
    intro e2 s2 h2
    obtain ⟨_, _, _, _, _, _, _, _, a, b⟩ := inv_seg (runs_inv h2) fun _ _ a => not_sr (ih1 a)
    rw [hs] at b
    obtain ⟨rfl, rfl⟩ := b
    exact ⟨susp_app (ih1 a).1 _, (ih1 a).2⟩
  | @segSuspGen Γ p t F fs pre g k c₁ p₁ rest s v g₀ l₀ k₀ c₀ p₀ fs₀ s₁ e s' hs _ _ _ ih1 ih2 =>
    intro e2 s2 h2
    obtain ⟨v', g', l', k', c', p', fs', s1', a, b⟩ := inv_seg (runs_inv h2) fun _ _ a => not_sr (ih1 a)
    rw [hs] at b
    have b : SG M Γ pre g k c₁ p₁ rest e2 s2 s1' (End.susp v' g' l' k' c' p' fs') := b
    rw [← (ih1 a).1, ← (ih1 a).2] at b
    exact ih2 b
theorem wakes_det {M : Model} {Γ : Ctx} {p : Pos} {g : Nat} {r : Resume} {s : Shared} {x y : GenResult} {s1 s2 : Shared} (h1 : Wakes M Γ p g r s x s1) (h2 : Wakes M Γ p g r s y s2) : x = y ∧ s1 = s2 := by
  unfold Wakes at h1 h2
  cases hg : s.gens[g]? with
  | none => simp only [hg] at h1
  | some gs =>
    simp only [hg] at h1 h2
    cases gs with
    | fresh c =>
      cases r with
      | send v =>
        cases v <;> simp only at h1 h2 <;> first
          | (obtain ⟨rfl, rfl⟩ := h1; obtain ⟨rfl, rfl⟩ := h2; exact ⟨rfl, rfl⟩)
          | (obtain ⟨e1, t1, a1, _, rfl, rfl⟩ := h1; obtain ⟨e2, t2, a2, _, rfl, rfl⟩ := h2; obtain ⟨rfl, rfl⟩ := runs_det a1 a2; exact ⟨rfl, rfl⟩)
      | throw v => simp only at h1 h2; obtain ⟨rfl, rfl⟩ := h1; obtain ⟨rfl, rfl⟩ := h2; exact ⟨rfl, rfl⟩
    | suspended k0 l0 c0 p0 fs cl =>
      simp only at h1 h2
      obtain ⟨e1, t1, a1, _, rfl, rfl⟩ := h1; obtain ⟨e2, t2, a2, _, rfl, rfl⟩ := h2; obtain ⟨rfl, rfl⟩ := runs_det a1 a2; exact ⟨rfl, rfl⟩
    | running => simp only at h1 h2; obtain ⟨rfl, rfl⟩ := h1; obtain ⟨rfl, rfl⟩ := h2; exact ⟨rfl, rfl⟩
    | finished => simp only at h1 h2; obtain ⟨rfl, rfl⟩ := h1; obtain ⟨rfl, rfl⟩ := h2; exact ⟨rfl, rfl⟩
theorem wp_both {X : Type} {Q Q' : X → Pos → Shared → Prop} {E E' : Value → Pos → Shared → Prop} (M : Model) (Γ : Ctx) (t : Sem X) (p : Pos) (s : Shared) (h1 : Sem.wp M Γ t Q E p s) (h2 : Sem.wp M Γ t Q' E' p s) :
    Sem.wp M Γ t (fun a p s => Q a p s ∧ Q' a p s) (fun a p s => E a p s ∧ E' a p s) p s := by
  revert h1 h2
  induction t generalizing p s with
  | pure x => exact fun h1 h2 => ⟨h1, h2⟩
  | raise v => exact fun h1 h2 => ⟨h1, h2⟩
  | unsupported | finish | yield | fork | await | register => exact fun h _ => h
  | rule _ k ih | «at» _ k ih | alloc _ k ih | loadIfAlive _ k ih | point _ k ih | fresh k ih | ask k ih | os _ _ k ih | handled _ k ih | newGen _ k ih | stack k ih | thread k ih => exact fun h1 h2 => ih _ _ _ h1 h2
  | load a _ k ih | genState a k ih => exact fun ⟨o, ho, h⟩ ⟨o', ho', h'⟩ => ⟨o, ho, ih _ _ _ h (by rw [ho] at ho'; cases ho'; exact h')⟩
  | update a _ f k ih | choose _ _ k ih => exact fun ⟨ha, h⟩ ⟨_, h'⟩ => ⟨ha, ih _ _ _ h h'⟩
  | call c h g l k ih =>
    rintro ⟨r, s1, a1, b1⟩ ⟨r2, s2, a2, b2⟩
    obtain ⟨q, rfl⟩ := runs_det a1 a2
    cases q
    exact ⟨r, s1, a1, ih _ _ _ b1 b2⟩
  | resume g r l k ih =>
    rintro ⟨res, s', hw, h⟩ ⟨res2, s2, hw2, h2⟩
    obtain ⟨rfl, rfl⟩ := wakes_det hw hw2
    exact ⟨res, s', hw, ih _ _ _ h h2⟩
theorem wpAny_both {α : Type} {M : Model} {A : Around} {t : Sem α} {Q Q' : α → Shared → Prop} {E E' : Value → Shared → Prop} {s : Shared} (h1 : wpAny M A t Q E s) (h2 : wpAny M A t Q' E' s) : wpAny M A t (fun a s' => Q a s' ∧ Q' a s') (fun e s' => E e s' ∧ E' e s') s :=
  fun Γ p hΓ => wp_both M Γ t p s (h1 Γ p hΓ) (h2 Γ p hΓ)
end Mine
end
-- Core
section
open PySem PySem.W PyProof.Rows
set_option Elab.async false
set_option linter.all false
namespace Mine

noncomputable def isCode (o : Obj) : Prop := o.cls = .type "code" ∧ ∃ vs, o.data = .fields vs
noncomputable def osd (s : Shared) : OsState × PySem.Drawn := (s.os, s.drawn)
set_option genInjectivity false in
set_option genSizeOf false in
/-- what one run of the law leans on -/
structure Cx where
  prog : Program
  w : World
  mg : Str → Option Value
  mb : Str → Option Value
  hole : Addr
  tab : Heap → Prop
  base : Addr → Obj → Prop
  os : OsState × PySem.Drawn
  tabMono : ∀ h h', (∀ a o, isCode o ∨ a = hole ∨ a = builtinsNs → h.get? a = some o → h'.get? a = some o) → tab h → tab h'
  holeDom : ∀ h, tab h → ∃ o, h.get? hole = some o
  hS : hole ≠ cStatics
  hG : hole ≠ mainGlobals
  hB : hole ≠ builtinsNs

/-- plain data -/
inductive D where
  | none
  | bool (b : Bool)
  | int (i : Int)
  | str (s : Str)
  | tup (l : List D)
  | list (l : List D)
  | dictS (l : List (Str × D))
  | dictI (l : List (Int × D))
  | dictT (l : List ((Str × Int × Str) × D))
  | hdr (d : D)
  | raw (v : Value)

abbrev View := Addr → Obj → Prop
noncomputable def vw (h : Heap) (m : Addr → Prop) : View := fun a o => h.get? a = some o ∧ ¬ m a

abbrev TKey := Str × Int × Str
noncomputable def tkHash (C : Cx) (k : TKey) : Int := reduceHash (Builtin.Tuple.tupleHashOf [hashStr C.w k.1, hashInt k.2.1, hashStr C.w k.2.2])
/-- a tuple object that is a key -/
noncomputable def tkObj (V : View) (k : TKey) (a : Addr) : Prop :=
  ∃ o n t1 t2 t3, V a o ∧ o.cls = .type "tuple" ∧ o.data = .seq #[.str k.1 t1, .int k.2.1 t2, .str k.2.2 t3] n ∧ o.dict = Option.none ∧ o.slots = #[]
noncomputable def tupDict (C : Cx) (V : View) (o : Obj) (kvs : List (TKey × Value)) : Prop :=
  ∃ (X : List (TKey × Addr × Value)) (es : Array DictEntry) (ep : Nat), kvs = X.map (fun x => (x.1, x.2.2)) ∧ o.ExactDict ∧ o.data = .dict es ep ∧ es.toList = X.map (fun x => ⟨tkHash C x.1, .ref x.2.1, x.2.2⟩) ∧ (X.map (·.1)).Nodup ∧ ∀ x ∈ X, tkObj V x.1 x.2.1

mutual
inductive Rep (C : Cx) (V : View) : Value → D → Prop
  | none : Rep C V .none .none
  | bool (b) : Rep C V (.bool b) (.bool b)
  | int (i t) : Rep C V (.int i t) (.int i)
  | str (s t) : Rep C V (.str s t) (.str s)
  | tup {a o vs n ds} : V a o → o.cls = .type "tuple" → o.data = .seq vs n → RepL C V vs.toList ds → (o.dict = Option.none ∧ o.slots = #[]) → Rep C V (.ref a) (.tup ds)
  | list {a o vs n ds} : V a o → o.cls = .type "list" → o.data = .seq vs n → RepL C V vs.toList ds → (o.dict = Option.none ∧ o.slots = #[]) → Rep C V (.ref a) (.list ds)
  | dictS {a o kvs l} : V a o → o.IsDictOf (strKind C.prog C.w) kvs → kvs.map (·.1) = l.map (·.1) → RepL C V (kvs.map (·.2)) (l.map (·.2)) → (a == sysModules) = false → Rep C V (.ref a) (.dictS l)
  | dictI {a o kvs l} : V a o → o.IsDictOf (intKind C.prog C.w) kvs → kvs.map (·.1) = l.map (·.1) → RepL C V (kvs.map (·.2)) (l.map (·.2)) → (a == sysModules) = false → Rep C V (.ref a) (.dictI l)
  | dictT {a o kvs l} : V a o → tupDict C V o kvs → kvs.map (·.1) = l.map (·.1) → RepL C V (kvs.map (·.2)) (l.map (·.2)) → (a == sysModules) = false → Rep C V (.ref a) (.dictT l)
  | hdr {a da Ca : Addr} {hsh : Int} {tk : Tok} {n : Nat} {v : Value} {d : D} : V a (instObj Ca da) → C.mg "Headers" = some (.ref Ca) → V da (dictOf [⟨hsh, .str "_headers" tk, v⟩] n) → Rep C V v d → Rep C V (.ref a) (.hdr d)
  | raw (v) : Rep C V v (.raw v)
inductive RepL (C : Cx) (V : View) : List Value → List D → Prop
  | nil : RepL C V [] []
  | cons {v d vs ds} : Rep C V v d → RepL C V vs ds → RepL C V (v :: vs) (d :: ds)
end

theorem tkObj.mono {V V' : View} (h : ∀ a o, V a o → V' a o) {k a} (x : tkObj V k a) : tkObj V' k a := by
  obtain ⟨o, n, t1, t2, t3, h1, h2⟩ := x
  exact ⟨o, n, t1, t2, t3, h _ _ h1, h2⟩
theorem tupDict.mono {C : Cx} {V V' : View} (h : ∀ a o, V a o → V' a o) {o kvs} (x : tupDict C V o kvs) : tupDict C V' o kvs := by
  obtain ⟨X, es, ep, a, b, c, d, e, f⟩ := x
  exact ⟨X, es, ep, a, b, c, d, e, fun y hy => (f y hy).mono h⟩

theorem Rep.mono {C : Cx} {V V' : View} (h : ∀ a o, V a o → V' a o) {v d} (r : Rep C V v d) : Rep C V' v d :=
  Rep.rec (motive_1 := fun v d _ => Rep C V' v d) (motive_2 := fun vs ds _ => RepL C V' vs ds) .none .bool .int .str (fun a b c _ e x => .tup (h _ _ a) b c x e) (fun a b c _ e x => .list (h _ _ a) b c x e)
    (fun a b c _ e x => .dictS (h _ _ a) b c x e) (fun a b c _ e x => .dictI (h _ _ a) b c x e) (fun a b c _ e x => .dictT (h _ _ a) (b.mono h) c x e) (fun a b c _ x => .hdr (h _ _ a) b (h _ _ c) x) .raw .nil (fun _ _ x y => .cons x y) r
theorem RepL.mono {C : Cx} {V V' : View} (h : ∀ a o, V a o → V' a o) {vs ds} (r : RepL C V vs ds) : RepL C V' vs ds :=
  RepL.rec (motive_1 := fun v d _ => Rep C V' v d) (motive_2 := fun vs ds _ => RepL C V' vs ds) .none .bool .int .str (fun a b c _ e x => .tup (h _ _ a) b c x e) (fun a b c _ e x => .list (h _ _ a) b c x e)
    (fun a b c _ e x => .dictS (h _ _ a) b c x e) (fun a b c _ e x => .dictI (h _ _ a) b c x e) (fun a b c _ e x => .dictT (h _ _ a) (b.mono h) c x e) (fun a b c _ x => .hdr (h _ _ a) b (h _ _ c) x) .raw .nil (fun _ _ x y => .cons x y) r
noncomputable def RepInv (C : Cx) (V : View) (v : Value) : D → Prop
  | .none => v = .none
  | .bool b => v = .bool b
  | .int i => ∃ t, v = .int i t
  | .str s => ∃ t, v = .str s t
  | .tup ds => ∃ a o vs n, v = .ref a ∧ V a o ∧ o.cls = .type "tuple" ∧ o.data = .seq vs n ∧ RepL C V vs.toList ds ∧ o.dict = Option.none ∧ o.slots = #[]
  | .list ds => ∃ a o vs n, v = .ref a ∧ V a o ∧ o.cls = .type "list" ∧ o.data = .seq vs n ∧ RepL C V vs.toList ds ∧ o.dict = Option.none ∧ o.slots = #[]
  | .dictS l => ∃ a o kvs, v = .ref a ∧ V a o ∧ o.IsDictOf (strKind C.prog C.w) kvs ∧ kvs.map (·.1) = l.map (·.1) ∧ RepL C V (kvs.map (·.2)) (l.map (·.2)) ∧ (a == sysModules) = false
  | .dictI l => ∃ a o kvs, v = .ref a ∧ V a o ∧ o.IsDictOf (intKind C.prog C.w) kvs ∧ kvs.map (·.1) = l.map (·.1) ∧ RepL C V (kvs.map (·.2)) (l.map (·.2)) ∧ (a == sysModules) = false
  | .dictT l => ∃ a o kvs, v = .ref a ∧ V a o ∧ tupDict C V o kvs ∧ kvs.map (·.1) = l.map (·.1) ∧ RepL C V (kvs.map (·.2)) (l.map (·.2)) ∧ (a == sysModules) = false
  | .hdr d => ∃ a da Ca hsh tk n v', v = .ref a ∧ V a (instObj Ca da) ∧ C.mg "Headers" = some (.ref Ca) ∧ V da (dictOf [⟨hsh, .str "_headers" tk, v'⟩] n) ∧ Rep C V v' d
  | .raw x => v = x
theorem Rep.inv {C : Cx} {V : View} {v : Value} {d : D} (h : Rep C V v d) : RepInv C V v d :=
  Rep.casesOn (motive_1 := fun v d _ => RepInv C V v d) h rfl (fun _ => rfl) (fun _ t => ⟨t, rfl⟩) (fun _ t => ⟨t, rfl⟩) (fun a b c d e => ⟨_, _, _, _, rfl, a, b, c, d, e⟩) (fun a b c d e => ⟨_, _, _, _, rfl, a, b, c, d, e⟩)
    (fun a b c d e => ⟨_, _, _, rfl, a, b, c, d, e⟩) (fun a b c d e => ⟨_, _, _, rfl, a, b, c, d, e⟩) (fun a b c d e => ⟨_, _, _, rfl, a, b, c, d, e⟩) (fun a b c d => ⟨_, _, _, _, _, _, _, rfl, a, b, c, d⟩) (fun _ => rfl)
section
variable {C : Cx} {V : View} {v : Value}
theorem Rep.caseNone {motive : (v : Value) → Rep C V v .none → Prop} (none : motive .none .none) {v : Value} (h : Rep C V v .none) : motive v h := by obtain rfl : v = .none := h.inv; exact none
theorem Rep.caseBool {b : Bool} {motive : (v : Value) → Rep C V v (.bool b) → Prop} (bool : motive (.bool b) (.bool b)) {v : Value} (h : Rep C V v (.bool b)) : motive v h := by obtain rfl : v = .bool b := h.inv; exact bool
theorem Rep.caseInt {i : Int} {motive : (v : Value) → Rep C V v (.int i) → Prop} (int : ∀ t, motive (.int i t) (.int i t)) {v : Value} (h : Rep C V v (.int i)) : motive v h := by obtain ⟨t, rfl⟩ := h.inv; exact int t
theorem Rep.caseStr {s : Str} {motive : (v : Value) → Rep C V v (.str s) → Prop} (str : ∀ t, motive (.str s t) (.str s t)) {v : Value} (h : Rep C V v (.str s)) : motive v h := by obtain ⟨t, rfl⟩ := h.inv; exact str t
theorem Rep.caseRaw {x : Value} {motive : (v : Value) → Rep C V v (.raw x) → Prop} (raw : motive x (.raw x)) {v : Value} (h : Rep C V v (.raw x)) : motive v h := by obtain rfl : v = x := h.inv; exact raw
theorem Rep.caseTup {ds : List D} {motive : (v : Value) → Rep C V v (.tup ds) → Prop} (tup : ∀ {a o vs n} (h1 : V a o) (h2 : o.cls = .type "tuple") (h3 : o.data = .seq vs n) (h4 : RepL C V vs.toList ds) (h5 : o.dict = Option.none ∧ o.slots = #[]), motive (.ref a) (.tup h1 h2 h3 h4 h5)) {v : Value} (h : Rep C V v (.tup ds)) : motive v h := by obtain ⟨a, o, vs, n, rfl, h1, h2, h3, h4, h5⟩ := h.inv; exact tup h1 h2 h3 h4 h5
theorem Rep.caseList {ds : List D} {motive : (v : Value) → Rep C V v (.list ds) → Prop} (list : ∀ {a o vs n} (h1 : V a o) (h2 : o.cls = .type "list") (h3 : o.data = .seq vs n) (h4 : RepL C V vs.toList ds) (h5 : o.dict = Option.none ∧ o.slots = #[]), motive (.ref a) (.list h1 h2 h3 h4 h5)) {v : Value} (h : Rep C V v (.list ds)) : motive v h := by obtain ⟨a, o, vs, n, rfl, h1, h2, h3, h4, h5⟩ := h.inv; exact list h1 h2 h3 h4 h5
theorem Rep.caseDictS {l : List (Str × D)} {motive : (v : Value) → Rep C V v (.dictS l) → Prop} (dictS : ∀ {a o kvs} (h1 : V a o) (h2 : o.IsDictOf (strKind C.prog C.w) kvs) (h3 : kvs.map (·.1) = l.map (·.1)) (h4 : RepL C V (kvs.map (·.2)) (l.map (·.2))) (h5 : (a == sysModules) = false), motive (.ref a) (.dictS h1 h2 h3 h4 h5)) {v : Value} (h : Rep C V v (.dictS l)) : motive v h := by obtain ⟨a, o, kvs, rfl, h1, h2, h3, h4, h5⟩ := h.inv; exact dictS h1 h2 h3 h4 h5
theorem Rep.caseDictI {l : List (Int × D)} {motive : (v : Value) → Rep C V v (.dictI l) → Prop} (dictI : ∀ {a o kvs} (h1 : V a o) (h2 : o.IsDictOf (intKind C.prog C.w) kvs) (h3 : kvs.map (·.1) = l.map (·.1)) (h4 : RepL C V (kvs.map (·.2)) (l.map (·.2))) (h5 : (a == sysModules) = false), motive (.ref a) (.dictI h1 h2 h3 h4 h5)) {v : Value} (h : Rep C V v (.dictI l)) : motive v h := by obtain ⟨a, o, kvs, rfl, h1, h2, h3, h4, h5⟩ := h.inv; exact dictI h1 h2 h3 h4 h5
theorem Rep.caseDictT {l : List ((Str × Int × Str) × D)} {motive : (v : Value) → Rep C V v (.dictT l) → Prop} (dictT : ∀ {a o kvs} (h1 : V a o) (h2 : tupDict C V o kvs) (h3 : kvs.map (·.1) = l.map (·.1)) (h4 : RepL C V (kvs.map (·.2)) (l.map (·.2))) (h5 : (a == sysModules) = false), motive (.ref a) (.dictT h1 h2 h3 h4 h5)) {v : Value} (h : Rep C V v (.dictT l)) : motive v h := by obtain ⟨a, o, kvs, rfl, h1, h2, h3, h4, h5⟩ := h.inv; exact dictT h1 h2 h3 h4 h5
theorem Rep.caseHdr {d : D} {motive : (v : Value) → Rep C V v (.hdr d) → Prop} (hdr : ∀ {a da Ca : Addr} {hsh : Int} {tk : Tok} {n : Nat} {v : Value} (h1 : V a (instObj Ca da)) (h2 : C.mg "Headers" = some (.ref Ca)) (h3 : V da (dictOf [⟨hsh, .str "_headers" tk, v⟩] n)) (h4 : Rep C V v d), motive (.ref a) (.hdr h1 h2 h3 h4)) {v : Value} (h : Rep C V v (.hdr d)) : motive v h := by obtain ⟨a, da, Ca, hsh, tk, n, v', rfl, h1, h2, h3, h4⟩ := h.inv; exact hdr h1 h2 h3 h4
theorem RepL.caseNil {motive : (vs : List Value) → RepL C V vs [] → Prop} (nil : motive [] .nil) {vs : List Value} (h : RepL C V vs []) : motive vs h := by cases h; exact nil
theorem RepL.caseCons {d : D} {ds : List D} {motive : (vs : List Value) → RepL C V vs (d :: ds) → Prop} (cons : ∀ {v vs} (h1 : Rep C V v d) (h2 : RepL C V vs ds), motive (v :: vs) (.cons h1 h2)) {vs : List Value} (h : RepL C V vs (d :: ds)) : motive vs h := by cases h with | cons h1 h2 => exact cons h1 h2
end
theorem RepL.ind {C : Cx} {V : View} {motive : (vs : List Value) → (ds : List D) → RepL C V vs ds → Prop} (nil : motive [] [] .nil) (cons : ∀ {v vs d ds} (r : Rep C V v d) (q : RepL C V vs ds), motive vs ds q → motive (v :: vs) (d :: ds) (.cons r q)) {vs ds} (h : RepL C V vs ds) : motive vs ds h :=
  RepL.rec (C := C) (V := V) (motive_1 := fun _ _ _ => True) (motive_2 := motive) trivial (fun _ => trivial) (fun _ _ => trivial) (fun _ _ => trivial) (fun _ _ _ _ _ _ => trivial) (fun _ _ _ _ _ _ => trivial) (fun _ _ _ _ _ _ => trivial) (fun _ _ _ _ _ _ => trivial) (fun _ _ _ _ _ _ => trivial) (fun _ _ _ _ _ => trivial) (fun _ => trivial) nil (fun a b _ ih => cons a b ih) h
theorem RepL.one {C : Cx} {V : View} {vs : List Value} {d : D} (h : RepL C V vs [d]) : ∃ v, vs = [v] ∧ Rep C V v d := by
  cases h using RepL.caseCons with
  | cons r h => cases h using RepL.caseNil; exact ⟨_, rfl, r⟩
theorem RepL.two {C : Cx} {V : View} {vs : List Value} {d e : D} (h : RepL C V vs [d, e]) : ∃ v w, vs = [v, w] ∧ Rep C V v d ∧ Rep C V w e := by
  cases h using RepL.caseCons with
  | cons r h =>
    obtain ⟨w, rfl, q⟩ := h.one
    exact ⟨_, w, rfl, r, q⟩
theorem RepL.length {C V} {vs : List Value} {ds : List D} (h : RepL C V vs ds) : vs.length = ds.length := by
  induction h using RepL.ind with
  | nil => rfl
  | cons _ _ ih => rw [List.length_cons, List.length_cons, ih]
theorem RepL.get {C V} {vs : List Value} {ds : List D} (h : RepL C V vs ds) : ∀ {i : Nat} {d}, ds[i]? = some d → ∃ v, vs[i]? = some v ∧ Rep C V v d := by
  induction h using RepL.ind with
  | nil => intro i d h; cases h
  | cons a _ ih =>
    intro i d h
    cases i with
    | zero => cases h; exact ⟨_, rfl, a⟩
    | succ i => exact ih h
theorem RepL.get' {C V} {vs : List Value} {ds : List D} (h : RepL C V vs ds) : ∀ {i : Nat} {v}, vs[i]? = some v → ∃ d, ds[i]? = some d ∧ Rep C V v d := by
  induction h using RepL.ind with
  | nil => intro i d h; cases h
  | cons a _ ih =>
    intro i d h
    cases i with
    | zero => cases h; exact ⟨_, rfl, a⟩
    | succ i => exact ih h
theorem RepL.append {C V} {vs : List Value} {ds : List D} {vs' ds'} (h : RepL C V vs ds) (h' : RepL C V vs' ds') : RepL C V (vs ++ vs') (ds ++ ds') := by
  induction h using RepL.ind with
  | nil => exact h'
  | cons a _ ih => exact .cons a ih
theorem RepL.snoc {C V} {vs : List Value} {ds : List D} {v d} (h : RepL C V vs ds) (r : Rep C V v d) : RepL C V (vs ++ [v]) (ds ++ [d]) := h.append (.cons r .nil)
theorem RepL.drop {C V} {vs : List Value} {ds : List D} (h : RepL C V vs ds) : ∀ n, RepL C V (vs.drop n) (ds.drop n) := by
  induction h using RepL.ind with
  | nil => intro n; rw [List.drop_nil, List.drop_nil]; exact .nil
  | cons a q ih =>
    intro n
    cases n with
    | zero => exact .cons a q
    | succ n => exact ih n
theorem RepL.take {C V} {vs : List Value} {ds : List D} (h : RepL C V vs ds) : ∀ n, RepL C V (vs.take n) (ds.take n) := by
  induction h using RepL.ind with
  | nil => intro n; rw [List.take_nil, List.take_nil]; exact .nil
  | cons a q ih =>
    intro n
    cases n with
    | zero => exact .nil
    | succ n => exact .cons a (ih n)

/-- a step that leaves all old objects alone -/
structure Stp (C : Cx) (s s' : Shared) : Prop where
  keep : ∀ a o, a ≠ builtinsNs → a ≠ C.hole → s.heap.get? a = some o → s'.heap.get? a = some o
  bns : ∀ m, s.heap.Ns builtinsNs m → s'.heap.Ns builtinsNs m
  tab : C.tab s.heap → C.tab s'.heap
  gens : s'.gens = s.gens
  os : osd s' = osd s

theorem Stp.refl (C : Cx) (s : Shared) : Stp C s s := ⟨fun _ _ _ _ e => e, fun _ e => e, fun e => e, rfl, rfl⟩
theorem Stp.trans {C : Cx} {s s' s'' : Shared} (x : Stp C s s') (y : Stp C s' s'') : Stp C s s'' :=
  ⟨fun a o h1 h2 e => y.keep a o h1 h2 (x.keep a o h1 h2 e), fun m e => y.bns m (x.bns m e), fun e => y.tab (x.tab e), y.gens.trans x.gens, y.os.trans x.os⟩
/-- all objects are kept -/
theorem Stp.all {C : Cx} {s : Shared} {h' : Heap} {tk : Nat} (hk : ∀ b o, s.heap.get? b = some o → h'.get? b = some o) : Stp C s { s with heap := h', toks := tk } :=
  ⟨fun a o _ _ e => hk a o e, fun _ e => e.keeps hk, C.tabMono _ _ fun a o _ e => hk a o e, rfl, rfl⟩
theorem Stp.tok {C : Cx} {s : Shared} (tk : Nat) : Stp C s { s with toks := tk } := Stp.all (h' := s.heap) fun _ _ e => e
theorem Stp.push {C : Cx} {s : Shared} (o : Obj) (tk : Nat) : Stp C s { s with heap := s.heap.push o, toks := tk } := Stp.all fun _ _ e => Heap.get?_push_of_some _ e

structure GS (C : Cx) (U : Addr → Prop) (s : Shared) : Prop where
  mg : s.heap.Ns mainGlobals C.mg
  mb : s.heap.Ns builtinsNs C.mb
  lim : s.heap.NoLimit
  gens : s.gens = #[]
  os : osd s = C.os
  tab : C.tab s.heap
  udom : ∀ a, U a → ∃ o, s.heap.get? a = some o
  ub : U builtinsNs
  uh : U C.hole
  base : ∀ a o, C.base a o → s.heap.get? a = some o
  ubase : ∀ a o, C.base a o → ¬ U a

theorem GS.step {C : Cx} {U s s'} (g : GS C U s) (st : Stp C s s') : GS C U s' where
  mg := by
    obtain ⟨o, es, ep, ho, r⟩ := g.mg
    exact ⟨o, es, ep, st.keep _ _ (by decide) (Ne.symm C.hG) ho, r⟩
  mb := st.bns _ g.mb
  lim := by
    obtain ⟨mc, ⟨o, es, ep, ho, r⟩, q⟩ := g.lim
    exact ⟨mc, ⟨o, es, ep, st.keep _ _ (by decide) (Ne.symm C.hS) ho, r⟩, q⟩
  gens := st.gens.trans g.gens
  os := st.os.trans g.os
  tab := st.tab g.tab
  udom := fun a ha => by
    by_cases h1 : a = builtinsNs
    · subst h1
      obtain ⟨o, es, ep, ho, r⟩ := st.bns _ g.mb
      exact ⟨o, ho⟩
    · by_cases h2 : a = C.hole
      · subst h2; exact C.holeDom _ (st.tab g.tab)
      · obtain ⟨o, ho⟩ := g.udom a ha
        exact ⟨o, st.keep _ _ h1 h2 ho⟩
  ub := g.ub
  uh := g.uh
  base := fun a o hb => st.keep _ _ (fun h => g.ubase a o hb (h ▸ g.ub)) (fun h => g.ubase a o hb (h ▸ g.uh)) (g.base a o hb)
  ubase := g.ubase

/-- views grow along steps -/
theorem vw_step {C : Cx} {U m s s'} (g : GS C U s) (hm : ∀ a, U a → m a) (st : Stp C s s') : ∀ a o, vw s.heap m a o → vw s'.heap m a o :=
  fun a o ⟨h1, h2⟩ => ⟨st.keep a o (fun h => h2 (hm _ (h ▸ g.ub))) (fun h => h2 (hm _ (h ▸ g.uh))) h1, h2⟩
theorem vw_anti {h : Heap} {m m' : Addr → Prop} (hm : ∀ a, m' a → m a) : ∀ a o, vw h m a o → vw h m' a o := fun _ _ ⟨h1, h2⟩ => ⟨h1, fun h => h2 (hm _ h)⟩

noncomputable def Room (A : Around) (n : Nat) : Prop := A.handled = none ∧ A.depth + 10 * n ≤ 900 ∧ A.units + 200 * n ≤ 9000

theorem Room.le {A : Around} {n m : Nat} (h : Room A n) (hm : m ≤ n) : Room A m := ⟨h.1, by have := h.2.1; lia, by have := h.2.2; lia⟩
theorem Room.deeper {A : Around} {n : Nat} (h : Room A (n+1)) (env : Env) : Room (A.deeper env) n := ⟨h.1, by have := h.2.1; simp [Around.deeper]; lia, by have := h.2.2; simp; lia⟩
theorem Room.in1 {A : Around} {n : Nat} (h : Room A (n+1)) : Room A.in1 n := ⟨h.1, by have := h.2.1; simp; lia, by have := h.2.2; simp; lia⟩
theorem Room.depth {A : Around} {n : Nat} (h : Room A n) : A.depth < recursionLimit := by have := h.2.1; simp only [recursionLimit]; lia
theorem Room.units {A : Around} {n : Nat} (h : Room A n) : A.units < cLine := by have := h.2.2; simp only [cLine]; lia

/-- a step that may touch X -/
structure StpX (C : Cx) (X : Addr → Prop) (s s' : Shared) : Prop where
  keep : ∀ a o, a ≠ builtinsNs → a ≠ C.hole → ¬ X a → s.heap.get? a = some o → s'.heap.get? a = some o
  bns : ∀ m, s.heap.Ns builtinsNs m → s'.heap.Ns builtinsNs m
  tab : C.tab s.heap → C.tab s'.heap
  gens : s'.gens = s.gens
  os : osd s' = osd s
theorem Stp.x {C : Cx} {X s s'} (x : Stp C s s') : StpX C X s s' := ⟨fun a o h1 h2 _ e => x.keep a o h1 h2 e, x.bns, x.tab, x.gens, x.os⟩
theorem StpX.trans {C : Cx} {X s s' s''} (x : StpX C X s s') (y : StpX C X s' s'') : StpX C X s s'' :=
  ⟨fun a o h1 h2 h3 e => y.keep a o h1 h2 h3 (x.keep a o h1 h2 h3 e), fun m e => y.bns m (x.bns m e), fun e => y.tab (x.tab e), y.gens.trans x.gens, y.os.trans x.os⟩
theorem StpX.mono {C : Cx} {X Y : Addr → Prop} {s s'} (x : StpX C X s s') (h : ∀ a, X a → Y a) : StpX C Y s s' := ⟨fun a o h1 h2 h3 e => x.keep a o h1 h2 (fun hx => h3 (h a hx)) e, x.bns, x.tab, x.gens, x.os⟩
/-- one object changed, no record -/
theorem StpX.one {C : Cx} {s : Shared} {a : Addr} {o : Obj} {h' : Heap} {tk : Nat} (ho : s.heap.get? a = some o) (hf : ∀ vs, o.data ≠ .fields vs) (hb : a ≠ builtinsNs) (hh : a ≠ C.hole) (hs : Heap.SameBut a s.heap h') :
    StpX C (· = a) s { s with heap := h', toks := tk } :=
  ⟨fun b o' _ _ hx e => (hs.2 b hx).trans e, fun _ e => e.sameBut hs (Ne.symm hb), C.tabMono _ _ fun b o' hv e => by
    by_cases hba : b = a
    · subst hba; rw [ho] at e; cases e
      rcases hv with ⟨_, vs, hv⟩ | hv | hv
      · exact absurd hv (hf vs)
      · exact absurd hv hh
      · exact absurd hv hb
    · exact (hs.2 b hba).trans e, rfl, rfl⟩

theorem GS.stepX {C : Cx} {U X s s'} (g : GS C U s) (st : StpX C X s s') (hX : ∀ a, X a → a ≠ mainGlobals ∧ a ≠ cStatics ∧ (∀ o, ¬ C.base a o) ∧ ¬ U a) : GS C U s' where
  mg := by
    obtain ⟨o, es, ep, ho, r⟩ := g.mg
    exact ⟨o, es, ep, st.keep _ _ (by decide) (Ne.symm C.hG) (fun h => (hX _ h).1 rfl) ho, r⟩
  mb := st.bns _ g.mb
  lim := by
    obtain ⟨mc, ⟨o, es, ep, ho, r⟩, q⟩ := g.lim
    exact ⟨mc, ⟨o, es, ep, st.keep _ _ (by decide) (Ne.symm C.hS) (fun h => (hX _ h).2.1 rfl) ho, r⟩, q⟩
  gens := st.gens.trans g.gens
  os := st.os.trans g.os
  tab := st.tab g.tab
  udom := fun a ha => by
    by_cases h1 : a = builtinsNs
    · subst h1
      obtain ⟨o, es, ep, ho, r⟩ := st.bns _ g.mb
      exact ⟨o, ho⟩
    · by_cases h2 : a = C.hole
      · subst h2; exact C.holeDom _ (st.tab g.tab)
      · obtain ⟨o, ho⟩ := g.udom a ha
        exact ⟨o, st.keep _ _ h1 h2 (fun h => (hX _ h).2.2.2 ha) ho⟩
  ub := g.ub
  uh := g.uh
  base := fun a o hb => st.keep _ _ (fun h => g.ubase a o hb (h ▸ g.ub)) (fun h => g.ubase a o hb (h ▸ g.uh)) (fun h => (hX _ h).2.2.1 o hb) (g.base a o hb)
  ubase := g.ubase

theorem twoOf {α : Type} {l : List α} (h : l.length = 2) : ∃ a b, l = [a, b] := by
  obtain ⟨a, l, rfl⟩ := List.exists_cons_of_length_eq_add_one h
  obtain ⟨b, rfl⟩ := List.length_eq_one_iff.mp (Nat.succ.inj h)
  exact ⟨a, b, rfl⟩
theorem threeOf {α : Type} {l : List α} (h : l.length = 3) : ∃ a b c, l = [a, b, c] := by
  obtain ⟨a, l, rfl⟩ := List.exists_cons_of_length_eq_add_one h
  obtain ⟨b, c, rfl⟩ := twoOf (Nat.succ.inj h)
  exact ⟨a, b, c, rfl⟩
end Mine
end
-- Fs
section
open PySem PySem.W PyProof.Rows
set_option Elab.async false
set_option linter.all false
namespace Mine

inductive Slot where
  | d (d : D)
  | own (ds : List D)
  | ownT (l : List ((Str × Int × Str) × D))

abbrev Gam := List (Str × Slot)

noncomputable def Var (env : Env) (h : Heap) (x : Str) (v : Value) : Prop :=
  (env.kindOf x = some .local ∧ ∃ m, h.Ns env.locals m ∧ m x = some v) ∨
  ((env.kindOf x = some .cell ∨ env.kindOf x = some .free) ∧ x ≠ "__classdict__" ∧ ∃ c, env.cells.lookup x = some c ∧ h.IsCell c (some v))

structure EnvOK (sc : Scope) (env : Env) : Prop where
  kind : env.scope.kind = .function
  globals : env.globals = mainGlobals
  builtins : env.builtins = builtinsNs
  loc : ∀ x, sc.names.lookup x = some .local → env.kindOf x = some .local
  cel : ∀ x, sc.names.lookup x = some .cell → env.kindOf x = some .cell
  fre : ∀ x, sc.names.lookup x = some .free → env.kindOf x = some .free ∨ env.kindOf x = some .cell
  glo : ∀ x, sc.names.lookup x = some .globalImplicit → env.kindOf x = some .globalImplicit

noncomputable def Foot (sc : Scope) (env : Env) (ad : Str → Option Addr) (a : Addr) : Prop :=
  a = env.locals ∨ (∃ x, sc.names.lookup x = some .cell ∧ env.cells.lookup x = some a) ∨ ∃ x, ad x = some a

/-- all that stands, but the frame's own -/
abbrev guardP (C : Cx) (sc : Scope) (env : Env) (ad : Str → Option Addr) (h : Heap) (a : Addr) (o : Obj) : Prop := h.get? a = some o ∧ ¬ Foot sc env ad a ∧ a ≠ builtinsNs ∧ a ≠ C.hole
abbrev entryP (C : Cx) (h : Heap) (a : Addr) (o : Obj) : Prop := h.get? a = some o ∧ a ≠ builtinsNs ∧ a ≠ C.hole
abbrev NoW (C : Cx) (wr : List Addr) : Prop := builtinsNs ∉ wr ∧ C.hole ∉ wr ∧ mainGlobals ∉ wr ∧ cStatics ∉ wr
noncomputable def mu (U : Addr → Prop) (sc : Scope) (env : Env) (ad : Str → Option Addr) (a : Addr) : Prop := U a ∨ Foot sc env ad a

noncomputable def SlotOK (C : Cx) (h : Heap) (m : Addr → Prop) (ad : Str → Option Addr) (x : Str) (v : Value) : Slot → Prop
  | .d d => Rep C (vw h m) v d
  | .own ds => ∃ a vs n, v = .ref a ∧ ad x = some a ∧ h.get? a = some (seqObj "list" vs n) ∧ RepL C (vw h m) vs.toList ds
  | .ownT l => ∃ a o kvs, v = .ref a ∧ ad x = some a ∧ h.get? a = some o ∧ tupDict C (vw h m) o kvs ∧ kvs.map (·.1) = l.map (·.1) ∧ RepL C (vw h m) (kvs.map (·.2)) (l.map (·.2)) ∧ (a == sysModules) = false

noncomputable def Slot.isOwn : Slot → Bool
  | .d _ => false
  | _ => true

structure FSa (C : Cx) (sc : Scope) (env : Env) (Pr : Addr → Obj → Prop) (U : Addr → Prop) (Γ : Gam) (ad : Str → Option Addr) (s : Shared) : Prop where
  gs : GS C U s
  ev : EnvOK sc env
  pr : ∀ a o, Pr a o → s.heap.get? a = some o
  foot : ∀ a, Foot sc env ad a → (∀ o, ¬ Pr a o) ∧ (∀ o, ¬ C.base a o) ∧ a ≠ mainGlobals ∧ a ≠ cStatics ∧ ¬ U a
  prD : ∀ a o, Pr a o → a ≠ builtinsNs ∧ a ≠ C.hole
  ns : ∃ m, s.heap.Ns env.locals m
  cell : ∀ x, sc.names.lookup x = some .cell → x ≠ "__classdict__" ∧ ∃ c v, env.cells.lookup x = some c ∧ s.heap.IsCell c v
  free : ∀ x, sc.names.lookup x = some .free → x ≠ "__classdict__" ∧ ∃ c, env.cells.lookup x = some c
  apart : env.cells.Pairwise fun x y => x.2 ≠ y.2
  nl : ∀ x c, env.cells.lookup x = some c → c ≠ env.locals ∧ c ≠ builtinsNs ∧ c ≠ C.hole
  cdom : ∀ x c, env.cells.lookup x = some c → ∃ o, s.heap.get? c = some o
  vars : ∀ x sl, Γ.lookup x = some sl → ∃ v, Var env s.heap x v ∧ SlotOK C s.heap (mu U sc env ad) ad x v sl
  own : ∀ x a, ad x = some a → a ≠ env.locals ∧ (∀ y c, env.cells.lookup y = some c → c ≠ a) ∧ (∀ y, ad y = some a → y = x) ∧ ∃ sl, Γ.lookup x = some sl ∧ sl.isOwn = true

variable {C : Cx} {sc : Scope} {env : Env} {Pr : Addr → Obj → Prop} {U : Addr → Prop} {Γ : Gam} {ad : Str → Option Addr} {s s' : Shared}

theorem Var.keep {h h' : Heap} {x v} (hk : ∀ a o, a = env.locals ∨ (∃ y, env.cells.lookup y = some a) → h.get? a = some o → h'.get? a = some o) (hv : Var env h x v) : Var env h' x v := by
  rcases hv with ⟨hl, m, hn, hm⟩ | ⟨hl, hd, c, hc, o, ho, hd'⟩
  · exact .inl ⟨hl, m, hn.at' fun o e => hk _ o (.inl rfl) e, hm⟩
  · exact .inr ⟨hl, hd, c, hc, o, hk _ o (.inr ⟨_, hc⟩) ho, hd'⟩

theorem loadVar {M : Model} {A : Around} {E : Value → Shared → Prop} {Q : Value → Shared → Prop} {x : Str} {v : Value} (ev : EnvOK sc env) (hv : Var env s.heap x v) (h : Q v s) : wpAny M A (loadName env x) Q E s := by
  rcases hv with ⟨hl, m, hn, hm⟩ | ⟨hl, hd, c, hc, hi⟩
  · exact wpAny_loadName_local ev.kind hl hn hm h
  · rcases hl with hl | hl
    · exact wpAny_loadName_cell ev.kind hl hc hi h
    · exact wpAny_loadName_free ev.kind hl hc hi h (by simpa using hd)

theorem SlotOK.map {h h' : Heap} {m m' : Addr → Prop} {ad ad' : Str → Option Addr} {x v sl} (hv : ∀ a o, vw h m a o → vw h' m' a o) (hA : ∀ a, ad x = some a → ad' x = some a) (hg : ∀ a o, ad x = some a → h.get? a = some o → h'.get? a = some o) (hs : SlotOK C h m ad x v sl) : SlotOK C h' m' ad' x v sl := by
  cases sl with
  | d d => exact Rep.mono hv hs
  | own ds =>
    obtain ⟨a, vs, n, e, ha, hg', hr⟩ := hs
    exact ⟨a, vs, n, e, hA _ ha, hg _ _ ha hg', hr.mono hv⟩
  | ownT l =>
    obtain ⟨a, o, kvs, e, ha, hg', ht, hm, hr, hy⟩ := hs
    exact ⟨a, o, kvs, e, hA _ ha, hg _ _ ha hg', ht.mono hv, hm, hr.mono hv, hy⟩
theorem SlotOK.step {h h' : Heap} {m : Addr → Prop} {x v sl} (hk : ∀ a o, ¬ m a ∨ (∃ y, ad y = some a) → h.get? a = some o → h'.get? a = some o) (hs : SlotOK C h m ad x v sl) : SlotOK C h' m ad x v sl :=
  hs.map (fun a o ⟨h1, h2⟩ => ⟨hk a o (.inl h2) h1, h2⟩) (fun _ e => e) fun a o ha => hk a o (.inr ⟨_, ha⟩)

/-- cells of the frames around: they exist and are no dirty ones -/
theorem FSa.footNe (F : FSa C sc env Pr U Γ ad s) {a} (h : Foot sc env ad a) : a ≠ builtinsNs ∧ a ≠ C.hole :=
  ⟨fun e => (F.foot a h).2.2.2.2 (e ▸ F.gs.ub), fun e => (F.foot a h).2.2.2.2 (e ▸ F.gs.uh)⟩

/-- an expression's step -/
theorem FSa.step (F : FSa C sc env Pr U Γ ad s) (st : Stp C s s')
    : FSa C sc env Pr U Γ ad s' := by
  have hl := F.footNe (.inl rfl)
  refine ⟨F.gs.step st, F.ev, fun a o h => st.keep a o (F.prD a o h).1 (F.prD a o h).2 (F.pr a o h), F.foot, F.prD, ?_, ?_, F.free, F.apart, F.nl, fun x c hc => (F.cdom x c hc).imp fun o e => st.keep _ _ (F.nl x c hc).2.1 (F.nl x c hc).2.2 e, ?_, F.own⟩
  · obtain ⟨m, hm⟩ := F.ns
    exact ⟨m, hm.at' fun o e => st.keep _ o hl.1 hl.2 e⟩
  · intro x hx
    obtain ⟨h1, c, v, hc, o, ho, hd⟩ := F.cell x hx
    have := F.footNe (.inr (.inl ⟨x, hx, hc⟩))
    exact ⟨h1, c, v, hc, o, st.keep _ _ this.1 this.2 ho, hd⟩
  · intro x sl hx
    obtain ⟨v, hv, hs⟩ := F.vars x sl hx
    refine ⟨v, ?_, hs.step fun a o ha e => ?_⟩
    · rcases hv with ⟨h1, m, hn, hm⟩ | ⟨h1, hd, c, hc, o, ho, hd'⟩
      · exact .inl ⟨h1, m, hn.at' fun o e => st.keep _ o hl.1 hl.2 e, hm⟩
      · refine .inr ⟨h1, hd, c, hc, o, ?_, hd'⟩
        exact st.keep _ _ (F.nl x c hc).2.1 (F.nl x c hc).2.2 ho
    · rcases ha with ha | ⟨y, ha⟩
      · exact st.keep a o (fun h => ha (h ▸ .inl F.gs.ub)) (fun h => ha (h ▸ .inl F.gs.uh)) e
      · have := F.footNe (.inr (.inr ⟨y, ha⟩))
        exact st.keep a o this.1 this.2 e
end Mine
end
-- Ev
section
open PySem PySem.W PyProof.Rows
set_option Elab.async false
set_option linter.all false
namespace Mine

noncomputable def Res (C : Cx) (m : Addr → Prop) (s : Shared) (d : D) : Value → Shared → Prop := fun v s' => Stp C s s' ∧ Rep C (vw s'.heap m) v d
noncomputable def ResL (C : Cx) (m : Addr → Prop) (s : Shared) (ds : List D) : List Value → Shared → Prop := fun vs s' => Stp C s s' ∧ RepL C (vw s'.heap m) vs ds
noncomputable def noE : Value → Shared → Prop := fun _ _ => False

theorem GS.up {C m s s'} (p : GS C m s) (st : Stp C s s') : ∀ a o, vw s.heap m a o → vw s'.heap m a o := vw_step p (fun _ h => h) st

structure VOp1 (C : Cx) (n : Nat) (t : Value → Sem Value) (a d : D) : Prop where
  run : ∀ A m s va, Room A n → GS C m s → Rep C (vw s.heap m) va a → wpAny (model C.prog C.w) A (t va) (Res C m s d) noE s
structure VOp2 (C : Cx) (n : Nat) (t : Value → Value → Sem Value) (a b d : D) : Prop where
  run : ∀ A m s va vb, Room A n → GS C m s → Rep C (vw s.heap m) va a → Rep C (vw s.heap m) vb b → wpAny (model C.prog C.w) A (t va vb) (Res C m s d) noE s

structure Ev (C : Cx) (n : Nat) (sc : Scope) (Γ : Gam) (e : Expr) (d : D) : Prop where
  run : ∀ env A Pr U ad s, Room A n → FSa C sc env Pr U Γ ad s → wpAny (model C.prog C.w) A (eval e env) (Res C (mu U sc env ad) s d) noE s
structure EvL (C : Cx) (n : Nat) (sc : Scope) (Γ : Gam) (es : List Expr) (ds : List D) : Prop where
  run : ∀ env A Pr U ad s pos, Room A n → FSa C sc env Pr U Γ ad s → wpAny (model C.prog C.w) A (spliced (backTo pos (starEach es env))) (ResL C (mu U sc env ad) s ds) noE s
structure Tst (C : Cx) (n : Nat) (sc : Scope) (Γ : Gam) (e : Expr) (b : Bool) : Prop where
  run : ∀ env A Pr U ad s, Room A n → FSa C sc env Pr U Γ ad s → wpAny (model C.prog C.w) A (isTrue e env (eval e env)) (fun c s' => Stp C s s' ∧ c = b) noE s

variable {C : Cx} {n : Nat} {sc : Scope} {Γ : Gam} {env : Env} {Pr : Addr → Obj → Prop} {U m : Addr → Prop} {ad : Str → Option Addr} {s s' s₁ : Shared}

theorem FSa.mdom (F : FSa C sc env Pr U Γ ad s) : ∀ a, mu U sc env ad a → ∃ o, s.heap.get? a = some o := by
  rintro a (h | rfl | ⟨x, hx, hc⟩ | ⟨x, hx⟩)
  · exact F.gs.udom a h
  · obtain ⟨m, o, es, ep, ho, _⟩ := F.ns; exact ⟨o, ho⟩
  · obtain ⟨_, c, v, hc', o, ho, _⟩ := F.cell x hx
    rw [hc] at hc'; cases hc'; exact ⟨o, ho⟩
  · obtain ⟨_, _, _, sl, hsl, hown⟩ := F.own x a hx
    obtain ⟨v, _, hs⟩ := F.vars x sl hsl
    cases sl with
    | d d => simp [Slot.isOwn] at hown
    | own ds => obtain ⟨a', vs, k, _, ha, hg, _⟩ := hs; rw [hx] at ha; cases ha; exact ⟨_, hg⟩
    | ownT l => obtain ⟨a', o, kvs, _, ha, hg, _⟩ := hs; rw [hx] at ha; cases ha; exact ⟨_, hg⟩

theorem FSa.pt (F : FSa C sc env Pr U Γ ad s) : GS C (mu U sc env ad) s :=
  { F.gs with udom := F.mdom, ub := .inl F.gs.ub, uh := .inl F.gs.uh, ubase := fun a o hb h => h.elim (F.gs.ubase a o hb) fun h => (F.foot a h).2.1 o hb }
theorem Res.after {d v} (st : Stp C s s₁) (h : Res C m s₁ d v s') : Res C m s d v s' := ⟨st.trans h.1, h.2⟩

theorem wpAny_after {α : Type} {M : Model} {A : Around} {t : Sem α} {Q Q' : α → Shared → Prop} {E : Value → Shared → Prop} (h : wpAny M A t Q noE s) (hQ : ∀ a s', Q a s' → Q' a s') : wpAny M A t Q' E s :=
  wpAny_mono h hQ fun _ _ f => f.elim

theorem Ev.le {n' e d} (h : Ev C n sc Γ e d) (hn : n ≤ n') : Ev C n' sc Γ e d := .mk fun env A Pr U ad s r F => h.run env A Pr U ad s (r.le hn) F
theorem Tst.le {n' e d} (h : Tst C n sc Γ e d) (hn : n ≤ n') : Tst C n' sc Γ e d := .mk fun env A Pr U ad s r F => h.run env A Pr U ad s (r.le hn) F
theorem Ev.cast {e d d'} (h : Ev C n sc Γ e d) (e1 : d = d') : Ev C n sc Γ e d' := e1 ▸ h

theorem Tst.cast {e b b'} (h : Tst C n sc Γ e b) (e1 : b = b') : Tst C n sc Γ e b' := e1 ▸ h
-- constants, names
theorem Ev.int {i k pos} : Ev C n sc Γ (.Constant (.int i) k pos) (.int i) := .mk fun _ _ _ _ _ _ _ _ => wpAny_Constant_int ⟨Stp.tok _, .int _ _⟩
theorem Ev.str {x k pos} : Ev C n sc Γ (.Constant (.str x) k pos) (.str x) := .mk fun _ _ _ _ _ _ _ _ => wpAny_mkText ⟨Stp.tok _, .str _ _⟩
theorem Ev.none {k pos} : Ev C n sc Γ (.Constant .none k pos) .none := .mk fun _ _ _ _ _ _ _ _ => wpAny_pure ⟨Stp.refl _ _, .none⟩
theorem Ev.bool {b k pos} : Ev C n sc Γ (.Constant (.bool b) k pos) (.bool b) := .mk fun _ _ _ _ _ _ _ _ => wpAny_pure ⟨Stp.refl _ _, .bool b⟩

theorem Ev.name {x pos d} (h : Γ.lookup x = some (.d d)) (hd : (x == ("__debug__" : Str)) = false := by decide) : Ev C n sc Γ (.Name x pos) d := .mk fun env A Pr U ad s _ F => by
  obtain ⟨v, hv, hs⟩ := F.vars x _ h
  exact wpAny_Name (loadVar F.ev hv ⟨Stp.refl _ _, hs⟩) hd

theorem loadGlobalVar {M : Model} {A : Around} {E : Value → Shared → Prop} {Q : Value → Shared → Prop} {x : Str} {v : Value} {mg mb : Str → Option Value} (ev : EnvOK sc env) (hk : sc.names.lookup x = some .globalImplicit)
    (hg : s.heap.Ns mainGlobals mg) (hb : s.heap.Ns builtinsNs mb) (hv : (mg x).or (mb x) = some v) (h : Q v s) : wpAny M A (loadName env x) Q E s := by
  unfold loadName
  simp only [Env.blockKind, ev.kind, ev.glo x hk, ScopeKind.isAnnotationScope, Bool.false_and, Bool.false_eq_true, if_false]
  unfold loadGlobal
  rw [ev.globals, ev.builtins]
  refine wpAny_bind (wpAny_nsGet hg ?_)
  cases hx : mg x with
  | some y => rw [hx] at hv; cases hv; exact wpAny_pure h
  | none =>
    rw [hx] at hv
    refine wpAny_bind (wpAny_nsGet hb ?_)
    change mb x = some v at hv
    rw [hv]
    exact wpAny_pure h

theorem Ev.glob {x pos v} (hk : sc.names.lookup x = some .globalImplicit) (hv : (C.mg x).or (C.mb x) = some v) (hd : (x == ("__debug__" : Str)) = false := by decide) : Ev C n sc Γ (.Name x pos) (.raw v) := .mk fun env A Pr U ad s _ F =>
  wpAny_Name (loadGlobalVar F.ev hk F.gs.mg F.gs.mb hv ⟨Stp.refl _ _, .raw _⟩) hd
theorem Ev.globInt {x pos i t} (hk : sc.names.lookup x = some .globalImplicit) (hv : (C.mg x).or (C.mb x) = some (.int i t)) (hd : (x == ("__debug__" : Str)) = false := by decide) : Ev C n sc Γ (.Name x pos) (.int i) := .mk fun env A Pr U ad s _ F =>
  wpAny_Name (loadGlobalVar F.ev hk F.gs.mg F.gs.mb hv ⟨Stp.refl _ _, .int _ _⟩) hd

-- operators
theorem Ev.bin {l op r pos a b d} (ha : Ev C n sc Γ l a) (hb : Ev C n sc Γ r b) (h : VOp2 C n (binaryOp op) a b d) : Ev C n sc Γ (.BinOp l op r pos) d := .mk fun env A Pr U ad s R F =>
  wpAny_BinOp (wpAny_after (ha.run env A Pr U ad s R F) fun va s₁ ⟨st₁, r₁⟩ => wpAny_after (hb.run env A Pr U ad s₁ R (F.step st₁)) fun vb s₂ ⟨st₂, r₂⟩ =>
    wpAny_after (h.run A _ s₂ va vb R ((F.step st₁).step st₂).pt (r₁.mono ((F.step st₁).pt.up st₂)) r₂) fun _ _ h' => (h'.after st₂).after st₁)

theorem Ev.cmp {l op r pos a b d} (ha : Ev C n sc Γ l a) (hb : Ev C n sc Γ r b) (h : VOp2 C n (compareOp op) a b d) (hm : behindInMarks op r = false := by with_unfolding_all rfl) : Ev C n sc Γ (.Compare l [op] [r] pos) d := .mk fun env A Pr U ad s R F =>
  wpAny_Compare1 (wpAny_after (ha.run env A Pr U ad s R F) fun va s₁ ⟨st₁, r₁⟩ => wpAny_after (hb.run env A Pr U ad s₁ R (F.step st₁)) fun vb s₂ ⟨st₂, r₂⟩ =>
    wpAny_after (h.run A _ s₂ va vb R ((F.step st₁).step st₂).pt (r₁.mono ((F.step st₁).pt.up st₂)) r₂) fun _ _ h' => (h'.after st₂).after st₁) hm

theorem Tst.cmp {l op r pos a b c} (ha : Ev C n sc Γ l a) (hb : Ev C n sc Γ r b) (h : VOp2 C n (compareOp op) a b (.bool c)) (hm : behindInMarks op r = false := by with_unfolding_all rfl) : Tst C n sc Γ (.Compare l [op] [r] pos) c := .mk fun env A Pr U ad s R F =>
  wpAny_isTrue_Compare1 (wpAny_after (ha.run env A Pr U ad s R F) fun va s₁ ⟨st₁, r₁⟩ => wpAny_after (hb.run env A Pr U ad s₁ R (F.step st₁)) fun vb s₂ ⟨st₂, r₂⟩ =>
    wpAny_after (h.run A _ s₂ va vb R ((F.step st₁).step st₂).pt (r₁.mono ((F.step st₁).pt.up st₂)) r₂) fun v s₃ h' => by
      obtain ⟨st₃, r₃⟩ := h'
      cases r₃ using Rep.caseBool
      exact wpAny_truthy_bool ⟨(st₁.trans st₂).trans st₃, rfl⟩) hm

theorem Tst.of {e b} (h : Ev C n sc Γ e (.bool b)) (he : ∀ env whole, isTrue e env whole = (do let v ← whole; standAt e.pos; holding [v] (truthy v)) := by intro _ _; rfl) : Tst C n sc Γ e b := .mk fun env A Pr U ad s R F =>
  isTrue_plain (wpAny_after (h.run env A Pr U ad s R F) fun v s₁ ⟨st, r⟩ => by cases r using Rep.caseBool; exact wpAny_truthy_bool ⟨st, rfl⟩) (he _ _)
/-- an int as a test -/
theorem Tst.int {e i} (h : Ev C n sc Γ e (.int i)) (he : ∀ env whole, isTrue e env whole = (do let v ← whole; standAt e.pos; holding [v] (truthy v)) := by intro _ _; rfl) : Tst C n sc Γ e (i != 0) := .mk fun env A Pr U ad s R F =>
  isTrue_plain (wpAny_after (h.run env A Pr U ad s R F) fun v s₁ ⟨st, r⟩ => by cases r using Rep.caseInt; exact PyProof.Rows.truthy_int ⟨st, rfl⟩) (he _ _)

theorem Ev.ifexp {t b o pos c d} (ht : Tst C n sc Γ t c) (h1 : c = true → Ev C n sc Γ b d) (h2 : c = false → Ev C n sc Γ o d) : Ev C n sc Γ (.IfExp t b o pos) d := .mk fun env A Pr U ad s R F =>
  wpAny_IfExp (wpAny_after (ht.run env A Pr U ad s R F) fun c' s₁ ⟨st, e⟩ => by
    subst e
    cases c' with
    | true => exact wpAny_after ((h1 rfl).run env A Pr U ad s₁ R (F.step st)) fun _ _ h' => h'.after st
    | false => exact wpAny_after ((h2 rfl).run env A Pr U ad s₁ R (F.step st)) fun _ _ h' => h'.after st)

-- displays
theorem EvL.nil : EvL C n sc Γ [] [] := .mk fun _ _ _ _ _ _ _ _ _ => args_nil ⟨Stp.refl _ _, .nil⟩
theorem EvL.cons {e es d ds} (h : Ev C n sc Γ e d) (hs : EvL C n sc Γ es ds) (he : ∀ env, starEach (e :: es) env = (false, eval e env) :: starEach es env := by intro _; rfl) : EvL C n sc Γ (e :: es) (d :: ds) := .mk fun env A Pr U ad s pos R F =>
  args_cons (wpAny_after (h.run env A Pr U ad s R F) fun v s₁ ⟨st₁, r₁⟩ => wpAny_after (hs.run env A Pr U ad s₁ pos R (F.step st₁)) fun vs s₂ ⟨st₂, r₂⟩ =>
    ⟨st₁.trans st₂, .cons (r₁.mono ((F.step st₁).pt.up st₂)) r₂⟩) (he _)

theorem GS.fresh (p : GS C m s) : ¬ m s.heap.objs.size := fun h => by
  obtain ⟨o, ho⟩ := p.udom _ h
  exact Nat.lt_irrefl _ (Heap.lt_size ho)
theorem GS.fresh' (p : GS C m s) {a : Addr} (h : s.heap.get? a = none) : ¬ m a := fun hm => by
  obtain ⟨o, ho⟩ := p.udom _ hm
  rw [h] at ho; cases ho
theorem GS.new (p : GS C m s) (o : Obj) (h : o.isFreed = false := by rfl) : vw (s.heap.push o) m s.heap.objs.size o := ⟨Heap.get?_push_size _ h, p.fresh⟩
theorem GS.old (p : GS C m s) (o : Obj) : ∀ a o', vw s.heap m a o' → vw (s.heap.push o) m a o' := fun a o' ⟨h1, h2⟩ => ⟨Heap.get?_push_of_some _ h1, h2⟩
theorem GS.keep (p : GS C m s) {h' : Heap} (hk : ∀ b o, s.heap.get? b = some o → h'.get? b = some o) : ∀ a o', vw s.heap m a o' → vw h' m a o' := fun a o' ⟨h1, h2⟩ => ⟨hk _ _ h1, h2⟩

theorem newList_res {A : Around} {vs : List Value} {ds : List D} (p : GS C m s) (r : RepL C (vw s.heap m) vs ds) (hsz : vs.length ≤ sizeLine) : wpAny (model C.prog C.w) A (newList vs) (Res C m s (.list ds)) noE s :=
  wpAny_newObj_type ⟨Stp.push _ _, .list (p.new _) rfl rfl (by simpa using r.mono (p.old _)) ⟨rfl, rfl⟩⟩ (by show vs.toArray.size ≤ sizeLine; rw [List.size_toArray]; exact hsz)
theorem newTuple_res {A : Around} {vs : List Value} {ds : List D} (p : GS C m s) (r : RepL C (vw s.heap m) vs ds) (hsz : vs.length ≤ sizeLine) : wpAny (model C.prog C.w) A (newTuple vs) (Res C m s (.tup ds)) noE s :=
  wpAny_newObj_type ⟨Stp.push _ _, .tup (p.new _) rfl rfl (by simpa using r.mono (p.old _)) ⟨rfl, rfl⟩⟩ (by show vs.toArray.size ≤ sizeLine; rw [List.size_toArray]; exact hsz)

theorem Ev.list {es pos ds} (h : EvL C n sc Γ es ds) (hsz : ds.length ≤ 100 := by first | decide | simp) : Ev C n sc Γ (.List es pos) (.list ds) := .mk fun env A Pr U ad s R F =>
  List_ (wpAny_after (h.run env A Pr U ad s pos R F) fun vs s₁ ⟨st, r⟩ => wpAny_after (newList_res (F.step st).pt r (by rw [r.length, sizeLine_eq]; lia)) fun _ _ h' => h'.after st)
theorem Ev.tup {es k pos ds} (h : EvL C n sc Γ es ds) (hsz : ds.length ≤ 100 := by first | decide | simp) : Ev C n sc Γ (.Tuple es k pos) (.tup ds) := .mk fun env A Pr U ad s R F =>
  Tuple_ (wpAny_after (h.run env A Pr U ad s pos R F) fun vs s₁ ⟨st, r⟩ => wpAny_after (newTuple_res (F.step st).pt r (by rw [r.length, sizeLine_eq]; lia)) fun _ _ h' => h'.after st)

theorem Ev.sub {v i pos a b d} (ha : Ev C n sc Γ v a) (hb : Ev C n sc Γ i b) (h : VOp2 C n (subscriptTail v i) a b d) : Ev C n sc Γ (.Subscript v i pos) d := .mk fun env A Pr U ad s R F =>
  Subscript_ (wpAny_after (ha.run env A Pr U ad s R F) fun va s₁ ⟨st₁, r₁⟩ => wpAny_after (hb.run env A Pr U ad s₁ R (F.step st₁)) fun vb s₂ ⟨st₂, r₂⟩ =>
    wpAny_after (h.run A _ s₂ va vb R ((F.step st₁).step st₂).pt (r₁.mono ((F.step st₁).pt.up st₂)) r₂) fun _ _ h' => (h'.after st₂).after st₁)

end Mine
end
-- Vop
section
open PySem PySem.W PyProof.Rows
set_option Elab.async false
set_option linter.all false
namespace Mine
variable {C : Cx} {n : Nat} {sc : Scope} {Γ : Gam} {env : Env} {Pr : Addr → Obj → Prop} {U m : Addr → Prop} {ad : Str → Option Addr} {s s' s₁ : Shared}

theorem resInt {i : Int} {tk : Nat} {t : Tok} : Res C m s (.int i) (.int i t) { s with toks := tk } := ⟨Stp.tok _, .int _ _⟩
theorem resBool {b : Bool} {tk : Nat} : Res C m s (.bool b) (.bool b) { s with toks := tk } := ⟨Stp.tok _, .bool _⟩
theorem resStr {x : Str} {tk : Nat} {t : Tok} : Res C m s (.str x) (.str x t) { s with toks := tk } := ⟨Stp.tok _, .str _ _⟩

namespace V
theorem add {a b : Int} : VOp2 C n (binaryOp .Add) (.int a) (.int b) (.int (a + b)) := by
  refine .mk ?_; rintro A m s _ _ R p ra rb; cases ra using Rep.caseInt; cases rb using Rep.caseInt; exact PyProof.Rows.add_int resInt
theorem sub {a b : Int} : VOp2 C n (binaryOp .Sub) (.int a) (.int b) (.int (a - b)) := by
  refine .mk ?_; rintro A m s _ _ R p ra rb; cases ra using Rep.caseInt; cases rb using Rep.caseInt; exact PyProof.Rows.sub_int resInt
theorem mul {a b : Int} (h : IntMulOk a b) : VOp2 C n (binaryOp .Mult) (.int a) (.int b) (.int (a * b)) := by
  refine .mk ?_; rintro A m s _ _ R p ra rb; cases ra using Rep.caseInt; cases rb using Rep.caseInt; exact PyProof.Rows.mul_int resInt h
theorem fdiv {a b : Int} (hb : b ≠ 0) (hp : Builtin.divisionGoesByPylong a b = false) : VOp2 C n (binaryOp .FloorDiv) (.int a) (.int b) (.int (a.fdiv b)) := by
  refine .mk ?_; rintro A m s _ _ R p ra rb; cases ra using Rep.caseInt; cases rb using Rep.caseInt; exact PyProof.Rows.floordiv_int hb resInt (.inl hp)
theorem fmod {a b : Int} (hb : b ≠ 0) : VOp2 C n (binaryOp .Mod) (.int a) (.int b) (.int (a.fmod b)) := by
  refine .mk ?_; rintro A m s _ _ R p ra rb; cases ra using Rep.caseInt; cases rb using Rep.caseInt; exact PyProof.Rows.mod_int' hb resInt
theorem pow {a b : Int} (hb : 0 ≤ b) (hs : (Builtin.Int.intBits a : Int) * b ≤ 2 ^ 27) : VOp2 C n (binaryOp .Pow) (.int a) (.int b) (.int (a ^ b.toNat)) := by
  refine .mk ?_; rintro A m s _ _ R p ra rb; cases ra using Rep.caseInt; cases rb using Rep.caseInt; exact PyProof.Rows.pow_int hb hs resInt
theorem band {a b : Int} : VOp2 C n (binaryOp .BitAnd) (.int a) (.int b) (.int (Builtin.bitAnd a b)) := by
  refine .mk ?_; rintro A m s _ _ R p ra rb; cases ra using Rep.caseInt; cases rb using Rep.caseInt; exact PyProof.Rows.and_int resInt
theorem addb {a b : Bool} : VOp2 C n (binaryOp .Add) (.bool a) (.bool b) (.int (b2i a + b2i b)) := by
  refine .mk ?_; rintro A m s _ _ R p ra rb; cases ra using Rep.caseBool; cases rb using Rep.caseBool; exact PyProof.Rows.add_bool resInt
theorem lt {a b : Int} : VOp2 C n (compareOp .Lt) (.int a) (.int b) (.bool (decide (a < b))) := by
  refine .mk ?_; rintro A m s _ _ R p ra rb; cases ra using Rep.caseInt; cases rb using Rep.caseInt; exact PyProof.Rows.lt_int ⟨Stp.refl _ _, .bool _⟩
theorem gt {a b : Int} : VOp2 C n (compareOp .Gt) (.int a) (.int b) (.bool (decide (b < a))) := by
  refine .mk ?_; rintro A m s _ _ R p ra rb; cases ra using Rep.caseInt; cases rb using Rep.caseInt; exact PyProof.Rows.gt_int ⟨Stp.refl _ _, .bool _⟩
theorem ge {a b : Int} : VOp2 C n (compareOp .GtE) (.int a) (.int b) (.bool (decide (b ≤ a))) := by
  refine .mk ?_; rintro A m s _ _ R p ra rb; cases ra using Rep.caseInt; cases rb using Rep.caseInt; exact PyProof.Rows.ge_int ⟨Stp.refl _ _, .bool _⟩
theorem le {a b : Int} : VOp2 C n (compareOp .LtE) (.int a) (.int b) (.bool (decide (a ≤ b))) := by
  refine .mk ?_; rintro A m s _ _ R p ra rb; cases ra using Rep.caseInt; cases rb using Rep.caseInt; exact PyProof.Rows.le_int ⟨Stp.refl _ _, .bool _⟩
theorem eq {a b : Int} : VOp2 C n (compareOp .Eq) (.int a) (.int b) (.bool (a == b)) := by
  refine .mk ?_; rintro A m s _ _ R p ra rb; cases ra using Rep.caseInt; cases rb using Rep.caseInt; exact PyProof.Rows.eq_int ⟨Stp.refl _ _, .bool _⟩
theorem ne {a b : Int} : VOp2 C n (compareOp .NotEq) (.int a) (.int b) (.bool (a != b)) := by
  refine .mk ?_; rintro A m s _ _ R p ra rb; cases ra using Rep.caseInt; cases rb using Rep.caseInt; exact PyProof.Rows.ne_int ⟨Stp.refl _ _, .bool _⟩
theorem iadd {a b : Int} : VOp2 C n (inplaceOp .Add) (.int a) (.int b) (.int (a + b)) := by
  refine .mk ?_; rintro A m s _ _ R p ra rb; cases ra using Rep.caseInt; cases rb using Rep.caseInt; exact wpAny_iadd_int resInt
theorem cat {x y : Str} (h : x.length + y.length ≤ 100000) : VOp2 C n (binaryOp .Add) (.str x) (.str y) (.str (x ++ y)) := by
  refine .mk ?_; rintro A m s _ _ R p ra rb; cases ra using Rep.caseStr; cases rb using Rep.caseStr; exact PyProof.Rows.add_str (fun _ _ => resStr) (by rw [sizeLine_eq]; omega)
theorem rept {x : Str} {k : Int} (h : MulOk x k) : VOp2 C n (binaryOp .Mult) (.str x) (.int k) (.str (Txt.mul x k)) := by
  refine .mk ?_; rintro A m s _ _ R p ra rb; cases ra using Rep.caseStr; cases rb using Rep.caseInt; exact SB.mul h fun _ _ => resStr
theorem eqs {x y : Str} : VOp2 C n (compareOp .Eq) (.str x) (.str y) (.bool (x == y)) := by
  refine .mk ?_; rintro A m s _ _ R p ra rb; cases ra using Rep.caseStr; cases rb using Rep.caseStr; exact PyProof.Rows.eq_str ⟨Stp.refl _ _, .bool _⟩
theorem nes {x y : Str} : VOp2 C n (compareOp .NotEq) (.str x) (.str y) (.bool (x != y)) := by
  refine .mk ?_; rintro A m s _ _ R p ra rb; cases ra using Rep.caseStr; cases rb using Rep.caseStr; exact PyProof.Rows.ne_str ⟨Stp.refl _ _, .bool _⟩

theorem itemL {v i : Expr} {ds : List D} {k : Int} {d : D} (h0 : 0 ≤ k) (hfit : k < 2 ^ 63) (hx : ds[k.toNat]? = some d) (hs : ∀ o j, subscripted i false o j = operate [o, j] (getItem o j) := by intro _ _; rfl) :
    VOp2 C n (subscriptTail v i) (.list ds) (.int k) d := by
  refine .mk ?_; rintro A m s _ _ R p ra rb; cases rb using Rep.caseInt
  cases ra using Rep.caseList with
  | @list a o vs e hv hc hd hr _ =>
    obtain ⟨y, hy, ry⟩ := hr.get hx
    have hl : s.heap.IsList a vs := ⟨o, hv.1, hc, e, hd⟩
    exact tail_any hl.typeIs slot_list_getitem.lookup (wpAny_getItem_list hl h0 hfit (by simpa using hy) ⟨Stp.refl _ _, ry⟩) (hs _ _)

theorem itemT {v i : Expr} {ds : List D} {k : Int} {d : D} (h0 : 0 ≤ k) (hfit : k < 2 ^ 63) (hx : ds[k.toNat]? = some d) (hs : ∀ o j, subscripted i false o j = operate [o, j] (getItem o j) := by intro _ _; rfl) :
    VOp2 C n (subscriptTail v i) (.tup ds) (.int k) d := by
  refine .mk ?_; rintro A m s _ _ R p ra rb; cases rb using Rep.caseInt
  cases ra using Rep.caseTup with
  | @tup a o vs e hv hc hd hr _ =>
    obtain ⟨y, hy, ry⟩ := hr.get hx
    have hl : IsTup s.heap a vs := ⟨o, hv.1, hc, e, hd⟩
    have hlt : k.toNat < vs.toList.length := (List.getElem?_eq_some_iff.mp hy).1
    have hj : seqIndex? k vs.size = some k.toNat := by
      unfold seqIndex?
      rw [Array.length_toList] at hlt
      have h1 : ¬ k < 0 := by omega
      simp only [h1, if_false]
      have h2 : k < (vs.size : Int) := by omega
      simp [h0, h2]
    exact tail_any (T := "tuple") (show s.TypeIs (.ref a) "tuple" from ⟨o, hv.1, hc⟩) slot_tuple_getitem.lookup (getItem_tuple hl (by omega) hfit hj (by simpa using hy) ⟨Stp.refl _ _, ry⟩) (hs _ _)

theorem itemS {v i : Expr} {x : Str} {k : Int} {c : Nat} (h0 : 0 ≤ k) (hfit : k < 2 ^ 63) (hx : x.cps[k.toNat]? = some c) (hs : ∀ o j, subscripted i false o j = operate [o, j] (getItem o j) := by intro _ _; rfl) :
    VOp2 C n (subscriptTail v i) (.str x) (.int k) (.str ⟨#[c]⟩) := by
  refine .mk ?_; rintro A m s _ _ R p ra rb; cases ra using Rep.caseStr; cases rb using Rep.caseInt
  have hlt : k.toNat < x.cps.size := (Array.getElem?_eq_some_iff.mp hx).1
  have hj : seqIndex? k x.length = some k.toNat := by
    unfold seqIndex?
    have h1 : ¬ k < 0 := by omega
    simp only [h1, if_false]
    have h2 : k < (x.length : Int) := by show k < (x.cps.size : Int); omega
    simp [h0, h2]
  exact tail_any (T := "str") rfl PyProof.Rows.slot_str_getitem.lookup (PyProof.Rows.getItem_str (by simp; omega) (by rw [hj]; exact hx) resStr) (hs _ _)

theorem itemLM {α : Type} {v i : Expr} {f : α → D} {l : List α} {k : Nat} {a : α} (hx : l[k]? = some a) (hfit : k < 1000000) (hs : ∀ o j, subscripted i false o j = operate [o, j] (getItem o j) := by intro _ _; rfl) :
    VOp2 C n (subscriptTail v i) (.list (l.map f)) (.int (k : Int)) (f a) :=
  itemL (by omega) (by omega) (by rw [Int.toNat_natCast, List.getElem?_map, hx]; rfl) hs
theorem itemTM {α : Type} {v i : Expr} {f : α → D} {l : List α} {k : Nat} {a : α} (hx : l[k]? = some a) (hfit : k < 1000000) (hs : ∀ o j, subscripted i false o j = operate [o, j] (getItem o j) := by intro _ _; rfl) :
    VOp2 C n (subscriptTail v i) (.tup (l.map f)) (.int (k : Int)) (f a) :=
  itemT (by omega) (by omega) (by rw [Int.toNat_natCast, List.getElem?_map, hx]; rfl) hs

theorem dictOfS {a o kvs} (hv : vw s.heap m a o) (h : o.IsDictOf (strKind C.prog C.w) kvs) : s.heap.DictOf (strKind C.prog C.w) a kvs := Heap.dictOf_iff.mpr ⟨o, hv.1, h⟩
theorem dictOfI {a o kvs} (hv : vw s.heap m a o) (h : o.IsDictOf (intKind C.prog C.w) kvs) : s.heap.DictOf (intKind C.prog C.w) a kvs := Heap.dictOf_iff.mpr ⟨o, hv.1, h⟩

theorem valueAt_rep {K : Type} [DecidableEq K] {V : View} {kvs : List (K × Value)} {l : List (K × D)} (e : kvs.map (·.1) = l.map (·.1)) (hr : RepL C V (kvs.map (·.2)) (l.map (·.2))) {k d} (h : (l.find? fun p => p.1 = k).map (·.2) = some d) :
    ∃ v, valueAt kvs k = some v ∧ Rep C V v d := by
  induction l generalizing kvs with
  | nil => cases h
  | cons p l ih =>
    cases kvs with
    | nil => cases e
    | cons q r =>
      obtain ⟨k1, v1⟩ := q
      obtain ⟨k2, d2⟩ := p
      rw [List.map_cons, List.map_cons] at e
      obtain ⟨e1, e2⟩ := List.cons.inj e
      clear e
      dsimp only at e1
      subst e1
      have hr : RepL C V (v1 :: r.map (·.2)) (d2 :: l.map (·.2)) := hr
      generalize hws : v1 :: r.map (·.2) = ws at hr
      cases hr using RepL.caseCons with
      | cons r1 r2 =>
        obtain ⟨rfl, rfl⟩ := List.cons.inj hws
        unfold valueAt
        by_cases hk : k1 = k
        · simp only [List.find?_cons, hk, decide_true, Option.map_some, Option.some.injEq] at h ⊢
          subst h
          exact ⟨v1, rfl, r1⟩
        · simp only [List.find?_cons, hk, decide_false] at h ⊢
          exact ih e2 r2 h
theorem valueAt_none {K : Type} [DecidableEq K] {kvs : List (K × Value)} {l : List (K × D)} (e : kvs.map (·.1) = l.map (·.1)) (k : K) : (valueAt kvs k).isSome = decide (k ∈ l.map (·.1)) := by
  rw [← e]
  unfold valueAt
  rw [Option.isSome_map, Bool.eq_iff_iff, List.find?_isSome]
  simp only [decide_eq_true_eq, List.mem_map]

theorem itemDS {v i : Expr} {l : List (Str × D)} {k : Str} {d : D} (hx : (l.find? fun p => p.1 = k).map (·.2) = some d) (hs : ∀ o j, subscripted i false o j = operate [o, j] (getItem o j) := by intro _ _; rfl) :
    VOp2 C n (subscriptTail v i) (.dictS l) (.str k) d := by
  refine .mk ?_; rintro A m s _ _ R p ra rb; cases rb using Rep.caseStr
  cases ra using Rep.caseDictS with
  | dictS hv hd e hr hy =>
    obtain ⟨y, h1, ry⟩ := valueAt_rep e hr hx
    have h := dictOfS hv hd
    exact tail_any h.typeIs slot_dict_getitem.lookup (wpAny_getItem_of (knd := PySem.strKind C.prog C.w) (k := k) (by simp [PySem.strKind, Value.isStrOf]) h.mapOf h1 ⟨Stp.tok _, ry⟩) (hs _ _)
theorem itemDI {v i : Expr} {l : List (Int × D)} {k : Int} {d : D} (hx : (l.find? fun p => p.1 = k).map (·.2) = some d) (hs : ∀ o j, subscripted i false o j = operate [o, j] (getItem o j) := by intro _ _; rfl) :
    VOp2 C n (subscriptTail v i) (.dictI l) (.int k) d := by
  refine .mk ?_; rintro A m s _ _ R p ra rb; cases rb using Rep.caseInt
  cases ra using Rep.caseDictI with
  | dictI hv hd e hr hy =>
    obtain ⟨y, h1, ry⟩ := valueAt_rep e hr hx
    have h := dictOfI hv hd
    exact tail_any h.typeIs slot_dict_getitem.lookup (wpAny_getItem_of (knd := intKind C.prog C.w) (k := k) (by simp [intKind, Value.isInt]) h.mapOf h1 ⟨Stp.tok _, ry⟩) (hs _ _)
theorem inDS {l : List (Str × D)} {k : Str} : VOp2 C n (compareOp .In) (.str k) (.dictS l) (.bool (decide (k ∈ l.map (·.1)))) := by
  refine .mk ?_; rintro A m s _ _ R p rb ra; cases rb using Rep.caseStr
  cases ra using Rep.caseDictS with
  | dictS hv hd e hr hy =>
    have h := dictOfS hv hd
    rw [← valueAt_none e]
    exact wpAny_in_of (knd := PySem.strKind C.prog C.w) (k := k) (by simp [PySem.strKind, Value.isStrOf]) hy h.mapOf ⟨Stp.tok _, .bool _⟩

end V
end Mine
end
-- Call
section
open PySem PySem.W PyProof.Rows
set_option Elab.async false
set_option linter.all false
namespace Mine
variable {C : Cx} {n : Nat} {sc : Scope} {Γ Γ' Γ'' : Gam} {env : Env} {Pr : Addr → Obj → Prop} {U m : Addr → Prop} {ad : Str → Option Addr} {s s' s₁ : Shared}

structure VCall (C : Cx) (n : Nat) (f : Value) (ds : List D) (d : D) : Prop where
  run : ∀ A m s vs, Room A n → GS C m s → RepL C (vw s.heap m) vs ds → wpAny (model C.prog C.w) A (call f vs) (Res C m s d) noE s
theorem VCall.le {n' f ds d} (h : VCall C n f ds d) (hn : n ≤ n') : VCall C n' f ds d := .mk fun A m s vs R => h.run A m s vs (R.le hn)

theorem Ev.callB {f e es pos id ds d} (hf : Ev C n sc Γ f (.raw (.builtin id))) (ha : EvL C n sc Γ (e :: es) ds) (h : VCall C n (.builtin id) ds d)
    (he : ∀ env, eval (.Call f (e :: es) [] pos) env = (do callWith pos (← eval f env) [] (backTo pos (starEach (e :: es) env)) (backToKw pos (keywordEach [] env))) := by intro _; rfl)
    (hs : ∀ env, starEach (e :: es) env = (false, eval e env) :: starEach es env := by intro _; rfl)
    (hp : ∀ env, (backTo pos (starEach es env)).any (·.1) = false := by intro _; rfl) : Ev C n sc Γ (.Call f (e :: es) [] pos) d := .mk fun env A Pr U ad s R F =>
  Call_ (wpAny_after (hf.run env A Pr U ad s R F) fun fv s₁ ⟨st₁, r₁⟩ => by
    cases r₁ using Rep.caseRaw
    exact PyProof.Rows.callWith_builtin1 (wpAny_after (ha.run env A Pr U ad s₁ pos R (F.step st₁)) fun vs s₂ ⟨st₂, r₂⟩ =>
      wpAny_after (h.run A _ s₂ vs R ((F.step st₁).step st₂).pt r₂) fun _ _ h' => (h'.after st₂).after st₁) (hs env) (hp env)) (he env)

theorem Ev.callT {f e es pos T ds d} (hf : Ev C n sc Γ f (.raw (.type T))) (ha : EvL C n sc Γ (e :: es) ds) (h : VCall C n (.type T) ds d)
    (he : ∀ env, eval (.Call f (e :: es) [] pos) env = (do callWith pos (← eval f env) [] (backTo pos (starEach (e :: es) env)) (backToKw pos (keywordEach [] env))) := by intro _; rfl)
    (hs : ∀ env, starEach (e :: es) env = (false, eval e env) :: starEach es env := by intro _; rfl)
    (hp : ∀ env, (backTo pos (starEach es env)).any (·.1) = false := by intro _; rfl) : Ev C n sc Γ (.Call f (e :: es) [] pos) d := .mk fun env A Pr U ad s R F =>
  Call_ (wpAny_after (hf.run env A Pr U ad s R F) fun fv s₁ ⟨st₁, r₁⟩ => by
    cases r₁ using Rep.caseRaw
    exact PySem.Pv.callWith_type1 (wpAny_after (ha.run env A Pr U ad s₁ pos R (F.step st₁)) fun vs s₂ ⟨st₂, r₂⟩ =>
      wpAny_after (h.run A _ s₂ vs R ((F.step st₁).step st₂).pt r₂) fun _ _ h' => (h'.after st₂).after st₁) (hs env) (hp env)) (he env)

theorem Ev.callF {f e es pos fa o fd ds d} (hf : Ev C n sc Γ f (.raw (.ref fa))) (ha : EvL C n sc Γ (e :: es) ds) (hb : C.base fa o) (hd : o.data = .func fd) (h : VCall C n (.ref fa) ds d)
    (he : ∀ env, eval (.Call f (e :: es) [] pos) env = (do callWith pos (← eval f env) [] (backTo pos (starEach (e :: es) env)) (backToKw pos (keywordEach [] env))) := by intro _; rfl)
    (hs : ∀ env, starEach (e :: es) env = (false, eval e env) :: starEach es env := by intro _; rfl) : Ev C n sc Γ (.Call f (e :: es) [] pos) d := .mk fun env A Pr U ad s R F =>
  Call_ (wpAny_after (hf.run env A Pr U ad s R F) fun fv s₁ ⟨st₁, r₁⟩ => by
    cases r₁ using Rep.caseRaw
    exact callWith_def (o := o) hd (wpAny_after (ha.run env A Pr U ad s₁ pos R (F.step st₁)) fun vs s₂ ⟨st₂, r₂⟩ =>
      ⟨((F.step st₁).step st₂).gs.base _ _ hb, wpAny_after (h.run A _ s₂ vs R ((F.step st₁).step st₂).pt r₂) fun _ _ h' => (h'.after st₂).after st₁⟩) (hs env)) (he env)
theorem Ev.callF0 {f pos fa o fd d} (hf : Ev C n sc Γ f (.raw (.ref fa))) (hb : C.base fa o) (hd : o.data = .func fd) (h : VCall C n (.ref fa) [] d)
    (he : ∀ env, eval (.Call f [] [] pos) env = (do callWith pos (← eval f env) [] (backTo pos (starEach [] env)) (backToKw pos (keywordEach [] env))) := by intro _; rfl) : Ev C n sc Γ (.Call f [] [] pos) d := .mk fun env A Pr U ad s R F =>
  Call_ (wpAny_after (hf.run env A Pr U ad s R F) fun fv s₁ ⟨st₁, r₁⟩ => by
    cases r₁ using Rep.caseRaw
    exact Calls.callWith_function (o := o) (fd := fd) (PyProof.Rows.evalArgs_none ⟨⟨(F.step st₁).gs.base _ _ hb, hd⟩, wpAny_after (h.run A _ s₁ [] R (F.step st₁).pt .nil) fun _ _ h' => h'.after st₁⟩)) (he env)

-- statements
structure ExN (C : Cx) (n : Nat) (sc : Scope) (Γ : Gam) (ss : List Stmt) (Γ' : Gam) : Prop where
  run : ∀ env A Pr U ad s, Room A n → FSa C sc env Pr U Γ ad s → wpAny (model C.prog C.w) A (execs ss env) (fun f s' => f = .next ∧ ∃ ad', FSa C sc env Pr U Γ' ad' s') noE s
structure Ex1 (C : Cx) (n : Nat) (sc : Scope) (Γ : Gam) (st : Stmt) (Γ' : Gam) : Prop where
  run : ∀ env A Pr U ad s, Room A n → FSa C sc env Pr U Γ ad s → wpAny (model C.prog C.w) A (exec st env) (fun f s' => f = .next ∧ ∃ ad', FSa C sc env Pr U Γ' ad' s') noE s
/-- what is left behind a return -/
structure Ret (C : Cx) (Pr : Addr → Obj → Prop) (U : Addr → Prop) (d : D) (f : Flow) (s' : Shared) : Prop where
  gs : GS C U s'
  pr : ∀ a o, Pr a o → s'.heap.get? a = some o
  val : ∃ v, f = .ret v ∧ Rep C (vw s'.heap U) v d
structure ExT (C : Cx) (n : Nat) (sc : Scope) (Γ : Gam) (ss : List Stmt) (d : D) : Prop where
  run : ∀ env A Pr U ad s, Room A n → FSa C sc env Pr U Γ ad s → wpAny (model C.prog C.w) A (execs ss env) (Ret C Pr U d) noE s

theorem ExN.nil : ExN C n sc Γ [] Γ := .mk fun env A Pr U ad s R F => wpAny_execs_nil ⟨rfl, ad, F⟩
theorem ExN.cons {st ss} (h : Ex1 C n sc Γ st Γ') (hs : ExN C n sc Γ' ss Γ'') : ExN C n sc Γ (st :: ss) Γ'' := .mk fun env A Pr U ad s R F =>
  wpAny_execs_cons (wpAny_after (h.run env A Pr U ad s R F) fun f s₁ ⟨e, ad₁, F₁⟩ => by subst e; exact hs.run env A Pr U ad₁ s₁ R F₁)
theorem ExT.cons {st ss d} (h : Ex1 C n sc Γ st Γ') (hs : ExT C n sc Γ' ss d) : ExT C n sc Γ (st :: ss) d := .mk fun env A Pr U ad s R F =>
  wpAny_execs_cons (wpAny_after (h.run env A Pr U ad s R F) fun f s₁ ⟨e, ad₁, F₁⟩ => by subst e; exact hs.run env A Pr U ad₁ s₁ R F₁)

theorem ExT.ret {e pos ss d} (h : Ev C n sc Γ e d) : ExT C n sc Γ (.Return (some e) pos :: ss) d := .mk fun env A Pr U ad s R F =>
  wpAny_execs_cons (wpAny_Return_some (wpAny_after (h.run env A Pr U ad s R F) fun v s₁ ⟨st, r⟩ =>
    ⟨(F.step st).gs, (F.step st).pr, v, rfl, r.mono (vw_anti fun _ h => .inl h)⟩))

/-- forget owned names: their lists stand from now on -/
noncomputable def frz : Slot → Slot
  | .d d => .d d
  | .own ds => .d (.list ds)
  | .ownT l => .d (.dictT l)

theorem lookup_map_snd {α β : Type} (f : α → β) : ∀ (l : List (Str × α)) (x : Str), (l.map fun p => (p.1, f p.2)).lookup x = (l.lookup x).map f := fun l x => by
  induction l with
  | nil => rfl
  | cons p r ih =>
    obtain ⟨k, v⟩ := p
    rw [List.map_cons, List.lookup_cons, List.lookup_cons]
    cases x == k
    · exact ih
    · rfl

theorem seqObj_cls (cls : String) (vs : Array Value) (k : Nat) : (seqObj cls vs k).cls = .type cls := rfl

/-- a frame with all its owned things frozen -/
theorem FSa.freeze (F : FSa C sc env Pr U Γ ad s) : FSa C sc env Pr U (Γ.map fun p => (p.1, frz p.2)) (fun _ => none) s where
  gs := F.gs
  ev := F.ev
  pr := F.pr
  foot := fun a h => F.foot a (h.elim .inl fun h => h.elim (fun h => .inr (.inl h)) fun ⟨_, h⟩ => nomatch h)
  prD := F.prD
  ns := F.ns
  cell := F.cell
  free := F.free
  apart := F.apart
  nl := F.nl
  cdom := F.cdom
  own := fun _ _ h => nomatch h
  vars := fun x sl hx => by
    rw [lookup_map_snd] at hx
    obtain ⟨sl₀, h0, rfl⟩ := Option.map_eq_some_iff.mp hx
    obtain ⟨v, hv, hs⟩ := F.vars x sl₀ h0
    refine ⟨v, hv, ?_⟩
    have hm : ∀ a, mu U sc env (fun _ => none) a → mu U sc env ad a := fun a h => h.imp id fun h => h.imp id fun h => h.imp id fun ⟨_, h⟩ => nomatch h
    have nf : ∀ a, ad x = some a → ¬ mu U sc env (fun _ => none) a := by
      rintro a ha (h | rfl | ⟨y, hy, hc⟩ | ⟨y, hy⟩)
      · exact (F.foot a (.inr (.inr ⟨x, ha⟩))).2.2.2.2 h
      · exact (F.own x _ ha).1 rfl
      · exact (F.own x _ ha).2.1 y a hc rfl
      · cases hy
    cases sl₀ with
    | d d => exact Rep.mono (vw_anti hm) hs
    | own ds =>
      obtain ⟨a, vs, k, rfl, ha, hg, hr⟩ := hs
      exact Rep.list (o := seqObj "list" vs k) ⟨hg, nf a ha⟩ rfl rfl (hr.mono (vw_anti hm)) ⟨rfl, rfl⟩
    | ownT l =>
      obtain ⟨a, o, kvs, rfl, ha, hg, ht, hk, hr, hy⟩ := hs
      exact Rep.dictT (o := o) ⟨hg, nf a ha⟩ (ht.mono (vw_anti hm)) hk (hr.mono (vw_anti hm)) hy

/-- a return may hand out what is owned -/
theorem ExT.retF {e pos ss d} (h : Ev C n sc (Γ.map fun p => (p.1, frz p.2)) e d) : ExT C n sc Γ (.Return (some e) pos :: ss) d := .mk fun env A Pr U ad s R F =>
  (ExT.ret h).run env A Pr U _ s R F.freeze

noncomputable def D.scalar : D → Bool
  | .none | .bool _ | .int _ | .str _ => true
  | _ => false
theorem Rep.scalar {V V' : View} {v d} (h : Rep C V v d) (hs : d.scalar = true) : Rep C V' v d := by
  cases h <;> first | exact absurd hs (by decide) | exact absurd hs Bool.false_ne_true | constructor
/-- an expression over owned names too, with a plain result -/
theorem Ev.own {e d} (h : Ev C n sc (Γ.map fun p => (p.1, frz p.2)) e d) (hs : d.scalar = true := by rfl) : Ev C n sc Γ e d := .mk fun env A Pr U ad s R F =>
  wpAny_after (h.run env A Pr U _ s R F.freeze) fun v s₁ ⟨st, r⟩ => ⟨st, r.scalar hs⟩
theorem Tst.own {e b} (h : Tst C n sc (Γ.map fun p => (p.1, frz p.2)) e b) : Tst C n sc Γ e b := .mk fun env A Pr U ad s R F => h.run env A Pr U _ s R F.freeze

/-- fewer names, no owned one lost -/
theorem FSa.sub' (F : FSa C sc env Pr U Γ ad s) (h : ∀ x sl, Γ'.lookup x = some sl → Γ.lookup x = some sl) : ∃ ad', FSa C sc env Pr U Γ' ad' s ∧ ∀ x a, ad' x = some a → ad x = some a := by
  classical
  let ad' : Str → Option Addr := fun x => if (Γ'.lookup x).isSome then ad x else none
  have hsub : ∀ x a, ad' x = some a → ad x = some a := fun x a h => by
    simp only [ad'] at h
    split at h
    · exact h
    · cases h
  have hfoot : ∀ a, Foot sc env ad' a → Foot sc env ad a := fun a h => h.imp id fun h => h.imp id fun ⟨x, hx⟩ => ⟨x, hsub x a hx⟩
  refine ⟨ad', ⟨F.gs, F.ev, F.pr, fun a h => F.foot a (hfoot a h), F.prD, F.ns, F.cell, F.free, F.apart, F.nl, F.cdom, ?_, ?_⟩, hsub⟩
  · intro x sl hx
    obtain ⟨v, hv, hs⟩ := F.vars x sl (h x sl hx)
    refine ⟨v, hv, ?_⟩
    have hm : ∀ a, mu U sc env ad' a → mu U sc env ad a := fun a h => h.imp id (hfoot a)
    have ha' : ad' x = ad x := by simp only [ad', hx, Option.isSome_some, if_true]
    exact hs.map (vw_anti hm) (fun _ e => ha'.trans e) (fun _ _ _ e => e)
  · intro x a hx
    obtain ⟨h1, h2, h3, sl, h4, h5⟩ := F.own x a (hsub x a hx)
    refine ⟨h1, h2, fun y hy => h3 y (hsub y a hy), sl, ?_, h5⟩
    simp only [ad'] at hx
    split at hx
    · rename_i hs
      obtain ⟨sl', hs⟩ := Option.isSome_iff_exists.mp hs
      rw [hs, ← h4, h x sl' hs]
    · cases hx
theorem FSa.sub (F : FSa C sc env Pr U Γ ad s) (h : ∀ x sl, Γ'.lookup x = some sl → Γ.lookup x = some sl) : ∃ ad', FSa C sc env Pr U Γ' ad' s := let ⟨a, b, _⟩ := F.sub' h; ⟨a, b⟩
theorem ExN.sub {ss} (h : ExN C n sc Γ ss Γ') (hs : ∀ x sl, Γ''.lookup x = some sl → Γ'.lookup x = some sl) : ExN C n sc Γ ss Γ'' := .mk fun env A Pr U ad s R F =>
  wpAny_after (h.run env A Pr U ad s R F) fun f s₁ ⟨e, ad₁, F₁⟩ => ⟨e, F₁.sub hs⟩
theorem ExN.pre {ss} (h : ExN C n sc Γ' ss Γ'') (hs : ∀ x sl, Γ'.lookup x = some sl → Γ.lookup x = some sl) : ExN C n sc Γ ss Γ'' := .mk fun env A Pr U ad s R F => by
  obtain ⟨ad', F'⟩ := F.sub hs
  exact h.run env A Pr U ad' s R F'
theorem ExT.pre {ss d} (h : ExT C n sc Γ' ss d) (hs : ∀ x sl, Γ'.lookup x = some sl → Γ.lookup x = some sl) : ExT C n sc Γ ss d := .mk fun env A Pr U ad s R F => by
  obtain ⟨ad', F'⟩ := F.sub hs
  exact h.run env A Pr U ad' s R F'

end Mine
end
-- Store
section
open PySem PySem.W PyProof.Rows
set_option Elab.async false
set_option linter.all false
namespace Mine
variable {C : Cx} {n : Nat} {sc : Scope} {Γ Γ' Γ'' : Gam} {env : Env} {Pr : Addr → Obj → Prop} {U m : Addr → Prop} {ad : Str → Option Addr} {s s' s₁ : Shared}

noncomputable def upd (ad : Str → Option Addr) (x : Str) (v : Option Addr) : Str → Option Addr := fun y => if y = x then v else ad y

theorem up_rebind (F : FSa C sc env Pr U Γ ad s) {x : Str} {X : Addr → Prop} {adx : Option Addr} (st : StpX C X s s') (hX : ∀ a, X a → Foot sc env ad a) (hadx : ∀ a, adx = some a → s.heap.get? a = none) :
    ∀ a o, vw s.heap (mu U sc env ad) a o → vw s'.heap (mu U sc env (upd ad x adx)) a o := by
  rintro b o ⟨h1, h2⟩
  refine ⟨st.keep b o (fun e => h2 (.inl (e ▸ F.gs.ub))) (fun e => h2 (.inl (e ▸ F.gs.uh))) (fun h => h2 (.inr (hX b h))) h1, ?_⟩
  rintro (h | h | h | ⟨y, hy⟩)
  · exact h2 (.inl h)
  · exact h2 (.inr (.inl h))
  · exact h2 (.inr (.inr (.inl h)))
  · unfold upd at hy
    split at hy
    · rw [hadx b hy] at h1; cases h1
    · exact h2 (.inr (.inr (.inr ⟨y, hy⟩)))

theorem FSa.rebind (F : FSa C sc env Pr U Γ ad s) {x : Str} {sl : Slot} {v : Value} {adx : Option Addr} {X : Addr → Prop}
    (st : StpX C X s s') (hX : ∀ a, X a → a = env.locals ∨ ∃ y, sc.names.lookup y = some .cell ∧ env.cells.lookup y = some a)
    (hns : ∃ m, s'.heap.Ns env.locals m) (hcell : ∀ y, sc.names.lookup y = some .cell → ∃ c w, env.cells.lookup y = some c ∧ s'.heap.IsCell c w)
    (hv : Var env s'.heap x v) (ho : ∀ y w, y ≠ x → Var env s.heap y w → Var env s'.heap y w)
    (hadx : ∀ a, adx = some a → s.heap.get? a = none)
    (hsl : SlotOK C s'.heap (mu U sc env (upd ad x adx)) (upd ad x adx) x v sl) (hown : sl.isOwn = adx.isSome) :
    FSa C sc env Pr U ((x, sl) :: Γ) (upd ad x adx) s' := by
  have hXF : ∀ a, X a → Foot sc env ad a := fun a h => (hX a h).elim .inl fun h => .inr (.inl h)
  have hup := up_rebind (x := x) (adx := adx) F st hXF hadx
  have hfoot : ∀ a, Foot sc env (upd ad x adx) a → (s.heap.get? a = none ∧ adx = some a) ∨ Foot sc env ad a := by
    rintro a (h | h | ⟨y, hy⟩)
    · exact .inr (.inl h)
    · exact .inr (.inr (.inl h))
    · unfold upd at hy
      split at hy
      · exact .inl ⟨hadx a hy, hy⟩
      · exact .inr (.inr (.inr ⟨y, hy⟩))
  have hnx : ∀ y a, ad y = some a → ¬ X a := fun y a hy h => (hX a h).elim (F.own y a hy).1 fun ⟨z, _, hz⟩ => (F.own y a hy).2.1 z a hz rfl
  refine ⟨F.gs.stepX st fun a h => ?_, F.ev, fun a o h => st.keep a o (F.prD a o h).1 (F.prD a o h).2 (fun hx => (F.foot a (hXF a hx)).1 o h) (F.pr a o h), ?_, F.prD, hns, ?_, F.free, F.apart, F.nl, ?_, ?_, ?_⟩
  · have := F.foot a (hXF a h)
    exact ⟨this.2.2.1, this.2.2.2.1, this.2.1, this.2.2.2.2⟩
  · intro a ha
    rcases hfoot a ha with ⟨h0, -⟩ | h
    · have no : ∀ o, s.heap.get? a ≠ some o := fun o e => by rw [h0] at e; cases e
      refine ⟨fun o h => no o (F.pr a o h), fun o h => no o (F.gs.base a o h), ?_, ?_, ?_⟩
      · rintro rfl; obtain ⟨o, _, _, h, _⟩ := F.gs.mg; exact no o h
      · rintro rfl; obtain ⟨mc, ⟨o, _, _, h, _⟩, _⟩ := F.gs.lim; exact no o h
      · intro h; obtain ⟨o, h⟩ := F.gs.udom a h; exact no o h
    · exact F.foot a h
  · intro y hy
    exact ⟨(F.cell y hy).1, hcell y hy⟩
  · intro y c hc
    obtain ⟨o, h⟩ := F.cdom y c hc
    by_cases hXc : X c
    · rcases hX c hXc with e | ⟨z, hz, hzc⟩
      · exact absurd e (F.nl y c hc).1
      · obtain ⟨c', w, h1, o', h2, _⟩ := hcell z hz
        rw [hzc] at h1; cases h1; exact ⟨o', h2⟩
    · exact ⟨o, st.keep _ _ (F.nl y c hc).2.1 (F.nl y c hc).2.2 hXc h⟩
  · intro y sl' hy
    rw [List.lookup_cons] at hy
    by_cases hxy : y = x
    · subst hxy
      simp only [beq_self_eq_true, Option.some.injEq] at hy
      subst hy
      exact ⟨v, hv, hsl⟩
    · have : (y == x) = false := by simpa using hxy
      rw [this] at hy
      obtain ⟨w, hw, hs⟩ := F.vars y sl' hy
      refine ⟨w, ho y w hxy hw, ?_⟩
      have ha : upd ad x adx y = ad y := if_neg hxy
      cases sl' with
      | d d => exact Rep.mono hup hs
      | own ds =>
        obtain ⟨a, vs, k, rfl, h1, h2, h3⟩ := hs
        have := F.footNe (.inr (.inr ⟨y, h1⟩))
        exact ⟨a, vs, k, rfl, ha.trans h1, st.keep _ _ this.1 this.2 (hnx y a h1) h2, h3.mono hup⟩
      | ownT l =>
        obtain ⟨a, o, kvs, rfl, h1, h2, h3, h4, h5, h6⟩ := hs
        have := F.footNe (.inr (.inr ⟨y, h1⟩))
        exact ⟨a, o, kvs, rfl, ha.trans h1, st.keep _ _ this.1 this.2 (hnx y a h1) h2, h3.mono hup, h4, h5.mono hup, h6⟩
  · intro y a hy
    by_cases hxy : y = x
    · subst hxy
      have hy' : adx = some a := by simpa [upd] using hy
      have h0 := hadx a hy'
      have no : ∀ o, s.heap.get? a ≠ some o := fun o e => by rw [h0] at e; cases e
      refine ⟨?_, ?_, ?_, sl, by simp, by rw [hown, hy']; rfl⟩
      · rintro rfl; obtain ⟨m, o, _, _, h, _⟩ := F.ns; exact no o h
      · rintro z c hz rfl
        obtain ⟨o, h⟩ := F.cdom z _ hz
        exact no o h
      · intro z hz
        unfold upd at hz
        split at hz
        · assumption
        · obtain ⟨o, h⟩ := F.mdom a (.inr (.inr (.inr ⟨z, hz⟩)))
          exact absurd h (no o)
    · have hy' : ad y = some a := by simpa [upd, hxy] using hy
      obtain ⟨h1, h2, h3, sl', h4, h5⟩ := F.own y a hy'
      refine ⟨h1, h2, ?_, sl', ?_, h5⟩
      · intro z hz
        unfold upd at hz
        split at hz
        · obtain ⟨o, h⟩ := F.mdom a (.inr (.inr (.inr ⟨y, hy'⟩)))
          rw [hadx a hz] at h; cases h
        · exact h3 z hz
      · rw [List.lookup_cons]
        have : (y == x) = false := by simpa using hxy
        rw [this]; exact h4
theorem Ns.notFields {h : Heap} {a : Addr} {m : Str → Option Value} (hn : h.Ns a m) : ∃ o, h.get? a = some o ∧ ∀ vs, o.data ≠ .fields vs := by
  obtain ⟨o, es, ep, ho, hd, _⟩ := hn
  exact ⟨o, ho, fun vs e => by rw [hd] at e; cases e⟩

/-- what a store of a name does -/
structure Stored (C : Cx) (sc : Scope) (env : Env) (x : Str) (v : Value) (X : Addr → Prop) (s s' : Shared) : Prop where
  st : StpX C X s s'
  hX : ∀ a, X a → a = env.locals ∨ ∃ y, sc.names.lookup y = some .cell ∧ env.cells.lookup y = some a
  ns : ∃ m, s'.heap.Ns env.locals m
  cell : ∀ y, sc.names.lookup y = some .cell → ∃ c w, env.cells.lookup y = some c ∧ s'.heap.IsCell c w
  var : Var env s'.heap x v
  other : ∀ y w, y ≠ x → Var env s.heap y w → Var env s'.heap y w
  same : ∃ X0, X = (· = X0) ∧ Heap.SameBut X0 s.heap s'.heap

theorem store (F : FSa C sc env Pr U Γ ad s) {x : Str} (v : Value) (hx : sc.names.lookup x = some .local ∨ sc.names.lookup x = some .cell) {A : Around} {E : Value → Shared → Prop} :
    wpAny (model C.prog C.w) A (storeName env x v) (fun _ s' => ∃ X, Stored C sc env x v X s s') E s := by
  obtain ⟨m, hm⟩ := F.ns
  have hl := F.footNe (.inl rfl)
  rcases hx with hx | hx
  · have hk := F.ev.loc x hx
    refine wpAny_storeName_local hk hm (fun h' hn hs => ⟨(· = env.locals), ?_, fun a h => .inl h, ⟨_, hn⟩, ?_, .inl ⟨hk, _, hn, by simp⟩, ?_, env.locals, rfl, hs⟩) (by rw [F.ev.kind]; rfl)
    · obtain ⟨o, ho, hf⟩ := Ns.notFields hm
      exact StpX.one ho hf hl.1 hl.2 hs
    · intro y hy
      obtain ⟨_, c, w, hc, hi⟩ := F.cell y hy
      exact ⟨c, w, hc, hi.sameBut hs (F.nl y c hc).1⟩
    · rintro y w hy (⟨h1, m', hn', hm'⟩ | ⟨h1, h2, c, hc, hi⟩)
      · refine .inl ⟨h1, _, hn, ?_⟩
        have : m' y = m y := by
          obtain ⟨o, es, ep, ho, hd, _, hq⟩ := hn'
          obtain ⟨o', es', ep', ho', hd', _, hq'⟩ := hm
          rw [ho] at ho'; cases ho'
          rw [hd] at hd'; cases hd'
          rw [← hq, ← hq']
        simp [hy, ← this, hm']
      · exact .inr ⟨h1, h2, c, hc, hi.sameBut hs (F.nl y c hc).1⟩
  · have hk := F.ev.cel x hx
    obtain ⟨hcd, c, w₀, hc, hi⟩ := F.cell x hx
    have hcn := F.nl x c hc
    refine wpAny_storeName_cell F.ev.kind hk hc hi fun h' hi' hs => ⟨(· = c), ?_, fun a h => .inr ⟨x, hx, h ▸ hc⟩, ⟨m, hm.sameBut hs (Ne.symm hcn.1)⟩, ?_, .inr ⟨.inl hk, hcd, c, hc, hi'⟩, ?_, c, rfl, hs⟩
    · obtain ⟨o, ho, hd⟩ := hi
      exact StpX.one (tk := s.toks) ho (fun vs e => by rw [hd] at e; cases e) hcn.2.1 hcn.2.2 hs
    · intro y hy
      by_cases hxy : y = x
      · subst hxy; exact ⟨c, _, hc, hi'⟩
      · obtain ⟨_, c', w', hc', hi''⟩ := F.cell y hy
        exact ⟨c', w', hc', hi''.sameBut hs fun e => hxy (name_of_addr F.apart (mem_of_lookup hc') (e ▸ mem_of_lookup hc))⟩
    · rintro y w hy (⟨h1, m', hn', hm'⟩ | ⟨h1, h2, c', hc', hi''⟩)
      · exact .inl ⟨h1, m', hn'.sameBut hs (Ne.symm hcn.1), hm'⟩
      · exact .inr ⟨h1, h2, c', hc', hi''.sameBut hs fun e => hy (name_of_addr F.apart (mem_of_lookup hc') (e ▸ mem_of_lookup hc))⟩

/-- a value is bound to a name -/
theorem FSa.stored (F : FSa C sc env Pr U Γ ad s) {x : Str} {v : Value} {d : D} {X : Addr → Prop} (hS : Stored C sc env x v X s s') (hr : Rep C (vw s.heap (mu U sc env ad)) v d) :
    FSa C sc env Pr U ((x, .d d) :: Γ) (upd ad x none) s' :=
  F.rebind hS.st hS.hX hS.ns hS.cell hS.var hS.other (fun _ h => nomatch h)
    (Rep.mono (up_rebind F hS.st (fun a h => (hS.hX a h).elim .inl fun h => .inr (.inl h)) fun _ h => by cases h) hr) rfl

theorem Ex1.assign {x px e pos d} (h : Ev C n sc Γ e d) (hx : sc.names.lookup x = some .local ∨ sc.names.lookup x = some .cell := by first | exact Or.inl rfl | exact Or.inr rfl)
    (hs : ∀ env : Env, EnvOK sc env → swapsWith e (some (.Name x px)) pos.line env = pure false := by intro _ _; rfl) : Ex1 C n sc Γ (.Assign [.Name x px] e pos) ((x, .d d) :: Γ) := .mk fun env A Pr U ad s R F =>
  wpAny_Assign_Name (wpAny_after (h.run env A Pr U ad s R F) fun v s₁ ⟨st, r⟩ => wpAny_mono (store (F.step st) v hx) (fun _ s₂ ⟨X, hS⟩ => ⟨rfl, _, (F.step st).stored hS r⟩) fun _ _ h => h) (hs env F.ev)

/-- a list made and kept for changing -/
theorem Ex1.own {x px es lpos pos ds} (h : EvL C n sc Γ es ds) (hx : sc.names.lookup x = some .local ∨ sc.names.lookup x = some .cell := by first | exact Or.inl rfl | exact Or.inr rfl)
    (hs : ∀ env, swapsWith (.List es lpos) (some (.Name x px)) pos.line env = pure false := by intro _; rfl) (hsz : ds.length ≤ 100 := by first | decide | simp) :
    Ex1 C n sc Γ (.Assign [.Name x px] (.List es lpos) pos) ((x, .own ds) :: Γ) := .mk fun env A Pr U ad s R F => by
  refine wpAny_Assign_Name (List_ (wpAny_after (h.run env A Pr U ad s lpos R F) fun vs s₁ ⟨st, r⟩ => ?_)) (hs env)
  have F₁ := F.step st
  refine wpAny_newObj_type ?_ (by show vs.toArray.size ≤ sizeLine; rw [List.size_toArray, r.length, sizeLine_eq]; lia)
  generalize hs2 : ({ s₁ with heap := s₁.heap.push { cls := .type "list", data := .seq vs.toArray } } : Shared) = s₂
  have st₂ : Stp C s₁ s₂ := hs2 ▸ Stp.push _ _
  have F₂ := F₁.step st₂
  have hnew : s₂.heap.get? s₁.heap.objs.size = some (seqObj "list" vs.toArray 0) := hs2 ▸ Heap.get?_push_size _ rfl
  have hold : s₁.heap.get? s₁.heap.objs.size = none := by
    cases hq : s₁.heap.get? s₁.heap.objs.size with
    | none => rfl
    | some o => exact absurd (Heap.lt_size hq) (Nat.lt_irrefl _)
  refine wpAny_mono (store F₂ _ hx) (fun _ s₃ ⟨X, hS⟩ => ⟨rfl, upd ad x (some s₁.heap.objs.size), ?_⟩) fun _ _ h => h
  obtain ⟨X0, hX0, hsame⟩ := hS.same
  have hne : s₁.heap.objs.size ≠ X0 := by
    rintro e
    have := hS.hX X0 (by rw [hX0])
    rcases this with h | ⟨y, hy, hc⟩
    · obtain ⟨m, o, _, _, ho, _⟩ := F₁.ns
      rw [← h, ← e, hold] at ho; cases ho
    · obtain ⟨o, ho⟩ := F₁.cdom y _ hc
      rw [← e, hold] at ho; cases ho
  have st₃ : StpX C X s₁ s₃ := st₂.x.trans hS.st
  have hadx : ∀ a, some s₁.heap.objs.size = some a → s₁.heap.get? a = none := fun a h => by cases h; exact hold
  have hother : ∀ y w, y ≠ x → Var env s₁.heap y w → Var env s₃.heap y w := fun y w hy hv => hS.other y w hy (hv.keep fun a o _ e => by
    rw [← hs2]; exact Heap.get?_push_of_some _ e)
  have hXF : ∀ a, X a → Foot sc env ad a := fun a h => (hS.hX a h).elim .inl fun h => .inr (.inl h)
  exact F₁.rebind st₃ hS.hX hS.ns hS.cell hS.var hother hadx
    ⟨_, vs.toArray, 0, rfl, by simp [upd], (hsame.2 _ hne).trans hnew, by simpa using r.mono (up_rebind F₁ st₃ hXF hadx)⟩ rfl
end Mine
end
-- Fn
section
open PySem PySem.W PyProof.Rows
set_option Elab.async false
set_option linter.all false
namespace Mine
variable {C : Cx} {n : Nat} {sc : Scope} {Γ Γ' Γ'' : Gam} {env : Env} {Pr : Addr → Obj → Prop} {U m : Addr → Prop} {ad : Str → Option Addr} {s s' s₁ : Shared}

theorem Ns.det {h : Heap} {a : Addr} {m m' : Str → Option Value} (x : h.Ns a m) (y : h.Ns a m') : m = m' := by
  obtain ⟨o, es, ep, ho, hd, _, hq⟩ := x
  obtain ⟨o', es', ep', ho', hd', _, hq'⟩ := y
  rw [ho] at ho'; cases ho'
  rw [hd] at hd'; cases hd'
  funext z
  rw [← hq, ← hq']

theorem Stp.ofGS {U'} (g : GS C U s) (g' : GS C U' s') (hk : ∀ a o, a ≠ builtinsNs → a ≠ C.hole → s.heap.get? a = some o → s'.heap.get? a = some o) : Stp C s s' :=
  ⟨hk, fun m hm => Ns.det hm g.mb ▸ g'.mb, fun _ => g'.tab, g'.gens.trans g.gens.symm, g'.os.trans g.os.symm⟩

theorem cellsFrom_some : ∀ (names : List (Str × NameKind)) (k : Nat) (acc : List (Str × Addr)) (x : Str), ((x, NameKind.cell) ∈ names ∨ (acc.lookup x).isSome = true) → ((cellsFrom k names acc).lookup x).isSome = true := fun names => by
  induction names with
  | nil => exact fun k acc x h => h.resolve_left (List.not_mem_nil)
  | cons p r ih =>
    obtain ⟨nm, kd⟩ := p
    intro k acc x h
    unfold cellsFrom
    split
    · refine ih _ _ x ?_
      rcases h with h | h
      · rcases List.mem_cons.mp h with e | h
        · cases e; right; simp
        · exact .inl h
      · right
        rw [List.lookup_cons]
        cases x == nm
        · exact h
        · rfl
    · rename_i hk
      refine ih _ _ x ?_
      rcases h with h | h
      · rcases List.mem_cons.mp h with e | h
        · cases e; simp at hk
        · exact .inl h
      · exact .inr h

theorem bindL_not {kindOf : Str → Option NameKind} : ∀ (bs : List (Str × Value)) (m : Str → Option Value) (x : Str), x ∉ bs.map (·.1) → bindL kindOf bs m x = m x := fun bs => by
  induction bs with
  | nil => exact fun _ _ _ => rfl
  | cons p r ih =>
    obtain ⟨y, v⟩ := p
    intro m x h
    have h := not_or.mp fun e => h (List.mem_cons.mpr e)
    unfold bindL
    rw [ih _ x h.2]
    split
    · exact if_neg h.1
    · rfl
theorem bindC_not {kindOf : Str → Option NameKind} : ∀ (bs : List (Str × Value)) (m : Str → Option Value) (x : Str), x ∉ bs.map (·.1) → bindC kindOf bs m x = m x := fun bs => by
  induction bs with
  | nil => exact fun _ _ _ => rfl
  | cons p r ih =>
    obtain ⟨y, v⟩ := p
    intro m x h
    have h := not_or.mp fun e => h (List.mem_cons.mpr e)
    unfold bindC
    rw [ih _ x h.2]
    split
    · rfl
    · exact if_neg h.1
theorem bindL_in {kindOf : Str → Option NameKind} (bs : List (Str × Value)) (m : Str → Option Value) (x : Str) (v : Value) (hn : (bs.map (·.1)).Nodup) (h : (x, v) ∈ bs) (hk : kindOf x = some .local) : bindL kindOf bs m x = some v := by
  induction bs generalizing m with
  | nil => cases h
  | cons p r ih =>
    obtain ⟨y, w⟩ := p
    simp only [List.map_cons, List.nodup_cons] at hn
    unfold bindL
    rcases List.mem_cons.mp h with e | h
    · obtain ⟨rfl, rfl⟩ := Prod.mk.inj e
      rw [bindL_not r _ _ hn.1, if_pos hk]; simp
    · exact ih _ hn.2 h
theorem bindC_in {kindOf : Str → Option NameKind} (bs : List (Str × Value)) (m : Str → Option Value) (x : Str) (v : Value) (hn : (bs.map (·.1)).Nodup) (h : (x, v) ∈ bs) (hk : kindOf x ≠ some .local) : bindC kindOf bs m x = some v := by
  induction bs generalizing m with
  | nil => cases h
  | cons p r ih =>
    obtain ⟨y, w⟩ := p
    simp only [List.map_cons, List.nodup_cons] at hn
    unfold bindC
    rcases List.mem_cons.mp h with e | h
    · obtain ⟨rfl, rfl⟩ := Prod.mk.inj e
      rw [bindC_not r _ _ hn.1, if_neg hk]; simp
    · exact ih _ hn.2 h

noncomputable def params (xs : List Str) (ds : List D) : Gam := (xs.zip ds).map fun p => (p.1, .d p.2)

theorem params_lookup {V : View} {xs : List Str} {vs : List Value} {ds : List D} {x : Str} {sl : Slot} (q : RepL C V vs ds) (hl : xs.length = vs.length) (h : (params xs ds).lookup x = some sl) : ∃ v d, sl = .d d ∧ (x, v) ∈ xs.zip vs ∧ Rep C V v d := by
  induction q using RepL.ind generalizing xs with
  | nil => unfold params at h; rw [List.zip_nil_right] at h; cases h
  | @cons v vs d ds r rs ih =>
    cases xs with
    | nil => cases h
    | cons y xs =>
      simp only [params, List.zip_cons_cons, List.map_cons, List.lookup_cons] at h
      by_cases hxy : x = y
      · subst hxy
        simp only [beq_self_eq_true, Option.some.injEq] at h
        exact ⟨v, d, h.symm, .head _, r⟩
      · rw [show (x == y) = false by simpa using hxy] at h
        obtain ⟨w, d', h1, h2, h3⟩ := ih (Nat.succ.inj hl) h
        exact ⟨w, d', h1, .tail _ h2, h3⟩

structure FnHd (fd : FuncData) : Prop where
  clo : fd.closure = []
  glob : fd.globals = mainGlobals
  blt : fd.builtins = builtinsNs
  kind : fd.scope.kind = .function
  gen : fd.scope.isGenerator = false
  cor : fd.scope.isCoroutine = false
  ncd : ∀ x ∈ fd.scope.names, x.1 ≠ "__classdict__"
  nfree : ∀ x ∈ fd.scope.names, x.2 ≠ .free
/-- a def of the text, laid at the top -/
structure IsFn (C : Cx) (fa : Addr) (fd : FuncData) (body : List Stmt) : Prop extends FnHd fd where
  obj : ∃ o, C.base fa o ∧ o.data = .func fd
  body : fd.body = .stmts body
  code : ∃ c oc vs t, fd.code = .ref c ∧ C.base c oc ∧ oc.data = .fields vs ∧ vs[1]? = some (.str fd.qualname t)

theorem IsFn.codeAt {fa : Addr} {fd : FuncData} {body : List Stmt} (I : IsFn C fa fd body) (g : GS C m s) : ∃ c oc vs t, fd.code = .ref c ∧ s.heap.get? c = some oc ∧ oc.data = .fields vs ∧ vs[1]? = some (.str fd.qualname t) := by
  obtain ⟨c, oc, ws, t, e, hb, hdc, hv⟩ := I.code
  exact ⟨c, oc, ws, t, e, g.base _ _ hb, hdc, hv⟩
theorem entry {fa : Addr} {fd : FuncData} (I : FnHd fd) {xs : List Str} {ds : List D} {vs : List Value} (hn : xs.Nodup) (hxs : ∀ x ∈ xs, fd.scope.names.lookup x = some .local ∨ fd.scope.names.lookup x = some .cell)
    (hl : xs.length = vs.length) (g : GS C m s) (hr : RepL C (vw s.heap m) vs ds) {s₁ : Shared}
    (x : InCallC s (callEnvC fd s.heap.objs.size fa).locals (bindL (callEnvC fd s.heap.objs.size fa).kindOf (xs.zip vs) fun _ => none) (callEnvC fd s.heap.objs.size fa).cells
        (bindC (callEnvC fd s.heap.objs.size fa).kindOf (xs.zip vs) fun _ => none) s₁) :
    FSa C fd.scope (callEnvC fd s.heap.objs.size fa) (entryP C s.heap) m (params xs ds) (fun _ => none) s₁ := by
  obtain ⟨h1, tk, rfl⟩ := x.toInCall.same
  have st : Stp C s { s with heap := h1, toks := tk } := Stp.all x.toInCall.keep
  have fresh : ∀ a, s.heap.objs.size ≤ a → s.heap.get? a = none := fun a ha => by
    cases e : s.heap.get? a with
    | none => rfl
    | some o' => exact absurd (Heap.lt_size e) (Nat.not_lt.mpr ha)
  have hcs : ∀ y c, (callEnvC fd s.heap.objs.size fa).cells.lookup y = some c → s.heap.objs.size ≤ c ∧ c ≠ s.heap.objs.size := fun y c hc => by
    have : s.heap.objs.size < c := x.above y c (mem_of_lookup hc)
    exact ⟨Nat.le_of_lt this, Nat.ne_of_gt this⟩
  have hfoot : ∀ a, Foot fd.scope (callEnvC fd s.heap.objs.size fa) (fun _ => none) a → s.heap.get? a = none := by
    rintro a (rfl | ⟨y, hy, hc⟩ | ⟨_, h⟩)
    · exact fresh _ (Nat.le_refl _)
    · exact fresh _ (hcs y a hc).1
    · cases h
  have hkd : (xs.zip vs).map (·.1) = xs := by rw [List.map_fst_zip]; omega
  have hnd : ((xs.zip vs).map (·.1)).Nodup := by rw [hkd]; exact hn
  refine ⟨g.step st, ⟨I.kind, I.glob, I.blt, fun _ h => h, fun _ h => h, fun _ h => .inl h, fun _ h => h⟩, fun a o h => st.keep a o h.2.1 h.2.2 h.1, ?_, fun a o h => h.2, ⟨_, x.toInCall.ns⟩, ?_, fun y hy => absurd rfl (I.nfree _ (mem_of_lookup hy)), x.apart, ?_, ?_, ?_, fun _ _ h => by cases h⟩
  · intro a ha
    have h0 := hfoot a ha
    have no : ∀ o, s.heap.get? a ≠ some o := fun o e => by rw [h0] at e; cases e
    refine ⟨fun o h => no o h.1, fun o h => no o (g.base a o h), ?_, ?_, ?_⟩
    · rintro rfl; obtain ⟨o, _, _, h, _⟩ := g.mg; exact no o h
    · rintro rfl; obtain ⟨mc, ⟨o, _, _, h, _⟩, _⟩ := g.lim; exact no o h
    · intro h; obtain ⟨o, h⟩ := g.udom a h; exact no o h
  · intro y hy
    refine ⟨I.ncd _ (mem_of_lookup hy), ?_⟩
    obtain ⟨c, hc⟩ := Option.isSome_iff_exists.mp (cellsFrom_some fd.scope.names (s.heap.objs.size + 1) [] y (.inl (mem_of_lookup hy)))
    exact ⟨c, _, hc, x.cell y c hc⟩
  · intro y c hc
    have := hcs y c hc
    refine ⟨this.2, ?_, ?_⟩
    · rintro rfl; obtain ⟨o, _, _, h, _⟩ := g.mb; exact absurd (Heap.lt_size h) (Nat.not_lt.mpr this.1)
    · rintro rfl; obtain ⟨o, h⟩ := C.holeDom _ g.tab; exact absurd (Heap.lt_size h) (Nat.not_lt.mpr this.1)
  · intro y c hc
    obtain ⟨o, ho, _⟩ := x.cell y c hc
    exact ⟨o, ho⟩
  · intro y sl hy
    obtain ⟨v, d, rfl, hmem, hrep⟩ := params_lookup hr hl hy
    refine ⟨v, ?_, Rep.mono (fun a o ⟨q1, q2⟩ => ⟨st.keep a o (fun e => q2 (e ▸ g.ub)) (fun e => q2 (e ▸ g.uh)) q1, ?_⟩) hrep⟩
    · have hyx : y ∈ xs := (List.of_mem_zip hmem).1
      rcases hxs y hyx with hk | hk
      · exact .inl ⟨hk, _, x.toInCall.ns, bindL_in _ _ _ _ hnd hmem hk⟩
      · obtain ⟨c, hc⟩ := Option.isSome_iff_exists.mp (cellsFrom_some fd.scope.names (s.heap.objs.size + 1) [] y (.inl (mem_of_lookup hk)))
        refine .inr ⟨.inl hk, I.ncd _ (mem_of_lookup hk), c, hc, ?_⟩
        have := x.cell y c hc
        rwa [bindC_in (kindOf := (callEnvC fd s.heap.objs.size fa).kindOf) _ _ _ _ hnd hmem (by rw [show (callEnvC fd s.heap.objs.size fa).kindOf y = some .cell from hk]; decide)] at this
    · rintro (h | h)
      · exact q2 h
      · rw [hfoot a h] at q1; cases q1

theorem VCall.fn {fa : Addr} {fd : FuncData} {body : List Stmt} (I : IsFn C fa fd body) {xs : List Str} {ds : List D} {d : D} (hx : ExT C n fd.scope (params xs ds) body d)
    (hbind : ∀ vs : List Value, xs.length = vs.length → bindArgs fd ⟨vs, []⟩ = pure (xs.zip vs)) (hn : xs.Nodup := by decide)
    (hxs : ∀ x ∈ xs, fd.scope.names.lookup x = some .local ∨ fd.scope.names.lookup x = some .cell := by decide) (hlen : xs.length = ds.length := by rfl) : VCall C (n+1) (.ref fa) ds d := .mk fun A m s vs R g hr => by
  have hl : xs.length = vs.length := by rw [hr.length, hlen]
  obtain ⟨o, ho, hd⟩ := I.obj
  have hkd : (xs.zip vs).map (·.1) = xs := by rw [List.map_fst_zip]; lia
  refine wpAny_call (codeAny_call_cells (o := o) (fd := fd) (body := body) (binds := xs.zip vs) R.depth (g.base _ _ ho) hd g.lim ?_ I.body (hbind vs hl) I.clo ?_ (fun s₁ x => ?_) I.cor I.gen I.kind)
  · exact I.codeAt g
  · intro p hp
    have hpx : p.1 ∈ xs := by rw [← hkd]; exact List.mem_map_of_mem hp
    rcases hxs p.1 hpx with h | h
    · exact .inl h
    · exact .inr ⟨h, cellsFrom_some fd.scope.names (s.heap.objs.size + 1) [] p.1 (.inl (mem_of_lookup h))⟩
  · have F := entry I.toFnHd hn hxs hl g hr x
    refine wpAny_mono (hx.run _ _ _ _ _ _ (R.deeper _) F) (fun f s' q => ?_) fun _ _ h => h.elim
    obtain ⟨v, rfl, hv⟩ := q.val
    exact ⟨Stp.ofGS g q.gs fun a o h1 h2 e => q.pr a o ⟨e, h1, h2⟩, hv⟩
end Mine
end
-- Loop
section
open PySem PySem.W PyProof.Rows
set_option Elab.async false
set_option linter.all false
namespace Mine
variable {C : Cx} {n : Nat} {sc : Scope} {Γ Γ' Γ'' : Gam} {env : Env} {Pr : Addr → Obj → Prop} {U m : Addr → Prop} {ad : Str → Option Addr} {s s' s₁ : Shared}

/-- how an item of a loop stands: to be bound whole, or to be unpacked -/
noncomputable def whole (C : Cx) (V : View) (h : Heap) (v : Value) (d : D) : Prop := Rep C V v d
noncomputable def parts (C : Cx) (V : View) (h : Heap) (v : Value) (d : D) : Prop := ∃ T vals ds, v = .ref T ∧ d = .tup ds ∧ h.IsTuple T vals ∧ RepL C V vals.toList ds
noncomputable def item (C : Cx) (t : Bool) (V : View) (h : Heap) (v : Value) (d : D) : Prop := if t then parts C V h v d else whole C V h v d
theorem item.mono {C : Cx} {t : Bool} {V V' : View} {h : Heap} {v : Value} {d : D} (hV : ∀ a o, V a o → V' a o) (x : item C t V h v d) : item C t V' h v d := by
  unfold item at *
  cases t with
  | false => exact Rep.mono hV x
  | true => obtain ⟨T, vals, ds, a, b, c, e⟩ := x; exact ⟨T, vals, ds, a, b, c, e.mono hV⟩

structure Itr (C : Cx) (A : Around) (target : Expr) (I : Addr) (fp wr : List Addr) (k : Nat) (P Md : Nat → Value → Heap → Prop) (St : Nat → Heap → Prop) : Prop where
  T : KTurns C.prog C.w A target I fp wr k P Md St
  self : ∀ i (s : Shared) (Q : Value → Shared → Prop) (E : Value → Shared → Prop), St i s.heap → Q (.ref I) s → wpAny (model C.prog C.w) A (pyIter (.ref I)) Q E s
  ex : ∀ i h, St i h → ∀ b ∈ wr, ∃ o, h.get? b = some o
  cls : ∀ i h, St i h → ∀ b ∈ wr, ∀ o, h.get? b = some o → ¬ isCode o

/-- an iterator has been made behind s, over ds -/
inductive Made (C : Cx) (A : Around) (m : Addr → Prop) (H : Bool) (target : Expr) (ds : List D) (s : Shared) (it : Value) (s₂ : Shared) : Prop
  | mk (st : Stp C s s₂) (I : Addr) (fp wr : List Addr) (P Md : Nat → Value → Heap → Prop) (St : Nat → Heap → Prop) (e : it = .ref I) (W : Itr C A target I fp wr ds.length P Md St) (hst : St 0 s₂.heap) (hwr : ∀ b ∈ wr, s.heap.get? b = none) (hfp : ∀ b ∈ fp, ¬ m b) (hfx : ∀ b ∈ fp, ∃ o, s₂.heap.get? b = some o)
    (hitem : ∀ h : Heap, (∀ b o, b ∉ wr → ¬ m b → s₂.heap.get? b = some o → h.get? b = some o) → ∀ i v, P i v h → ∀ d, ds[i]? = some d → item C H (fun a o => vw s₂.heap m a o ∧ a ∉ wr) h v d)
structure Src (C : Cx) (n : Nat) (sc : Scope) (Γ : Gam) (iter target : Expr) (H : Bool) (ds : List D) : Prop where
  run : ∀ env A Pr U ad s, Room A n → FSa C sc env Pr U Γ ad s →
    wpAny (model C.prog C.w) A (eval iter env) (fun x s₁ => wpAny (model C.prog C.w) A (pyIter x) (fun it s₂ => Made C A (mu U sc env ad) H target ds s it s₂) noE s₁) noE s

theorem Src.cast {iter target H ds ds'} (h : Src C n sc Γ iter target H ds) (e : ds = ds') : Src C n sc Γ iter target H ds' := e ▸ h
/-- binding an item -/
structure As (C : Cx) (n : Nat) (sc : Scope) (Γ : Gam) (target : Expr) (H : Bool) (d : D) (Γ' : Gam) : Prop where
  run : ∀ env A Pr U ad s v, Room A n → FSa C sc env Pr U Γ ad s → item C H (vw s.heap (mu U sc env ad)) s.heap v d →
    wpAny (model C.prog C.w) A (assign target env v) (fun _ s' => ∃ ad', FSa C sc env Pr U Γ' ad' s') noE s

/-- a step that moves iterators alone (they are among U) -/
theorem FSa.moved (F : FSa C sc env Pr U Γ ad s) {wr : List Addr} {Pr2 : Addr → Obj → Prop} {U2 : Addr → Prop} (hU2 : ∀ a, U2 a → U a) (ub : U2 builtinsNs) (uh : U2 C.hole) (hwr : ∀ b ∈ wr, U b) (hk : ∀ b o, b ∉ wr → s.heap.get? b = some o → s'.heap.get? b = some o) (hex : ∀ b ∈ wr, U2 b → ∃ o, s'.heap.get? b = some o)
    (hnb : NoW C wr) (pr2 : ∀ a o, Pr2 a o → s'.heap.get? a = some o) (f2 : ∀ a, Foot sc env ad a → ∀ o, ¬ Pr2 a o) (prD2 : ∀ a o, Pr2 a o → a ≠ builtinsNs ∧ a ≠ C.hole)
    (hcell : ∀ x c, env.cells.lookup x = some c → c ∉ wr) (hl : env.locals ∉ wr) (hg : s'.gens = s.gens) (ho : osd s' = osd s) (htab : C.tab s.heap → C.tab s'.heap) : FSa C sc env Pr2 U2 Γ ad s' := by
  have hfw : ∀ a, Foot sc env ad a → a ∉ wr := fun a ha hw => (F.foot a ha).2.2.2.2 (hwr a hw)
  have hup : ∀ a o, vw s.heap (mu U sc env ad) a o → vw s'.heap (mu U2 sc env ad) a o := fun a o ⟨h1, h2⟩ =>
    ⟨hk a o (fun hw => h2 (.inl (hwr a hw))) h1, fun h => h2 (h.imp (hU2 a) id)⟩
  have hown : ∀ y a o, ad y = some a → s.heap.get? a = some o → s'.heap.get? a = some o := fun y a o h e => hk a o (hfw a (.inr (.inr ⟨y, h⟩))) e
  refine ⟨⟨?_, ?_, ?_, hg.trans F.gs.gens, ho.trans F.gs.os, htab F.gs.tab, ?_, ub, uh, ?_, fun a o hb h => F.gs.ubase a o hb (hU2 a h)⟩, F.ev, pr2, fun a ha => ⟨f2 a ha, (F.foot a ha).2.1, (F.foot a ha).2.2.1, (F.foot a ha).2.2.2.1, fun h => (F.foot a ha).2.2.2.2 (hU2 a h)⟩, prD2, ?_, ?_, F.free, F.apart, F.nl, ?_, ?_, F.own⟩
  · exact F.gs.mg.at' fun o e => hk _ o hnb.2.2.1 e
  · exact F.gs.mb.at' fun o e => hk _ o hnb.1 e
  · obtain ⟨mc, h, q⟩ := F.gs.lim
    exact ⟨mc, h.at' fun o e => hk _ o hnb.2.2.2 e, q⟩
  · intro a ha
    by_cases hw : a ∈ wr
    · exact hex a hw ha
    · obtain ⟨o, e⟩ := F.gs.udom a (hU2 a ha)
      exact ⟨o, hk a o hw e⟩
  · intro a o hb
    exact hk a o (fun hw => F.gs.ubase a o hb (hwr a hw)) (F.gs.base a o hb)
  · obtain ⟨m, hm⟩ := F.ns
    exact ⟨m, hm.at' fun o e => hk _ o hl e⟩
  · intro x hx
    obtain ⟨h1, c, v, hc, o, ho, hd⟩ := F.cell x hx
    exact ⟨h1, c, v, hc, o, hk _ _ (hcell x c hc) ho, hd⟩
  · intro x c hc
    obtain ⟨o, e⟩ := F.cdom x c hc
    exact ⟨o, hk _ _ (hcell x c hc) e⟩
  · intro x sl hx
    obtain ⟨v, hv, hs⟩ := F.vars x sl hx
    refine ⟨v, hv.keep fun a o ha e => hk a o ?_ e, ?_⟩
    · rcases ha with rfl | ⟨y, hy⟩
      · exact hl
      · exact hcell y a hy
    · exact hs.map hup (fun _ e => e) (fun a o h1 h2 => hown x a _ h1 h2)

/-- stronger guards: all that stands now is to stay, some new objects are no datum's -/
theorem FSa.guard (F : FSa C sc env Pr U Γ ad s) {wr : List Addr} (st : Stp C s s') (hw : ∀ b ∈ wr, s.heap.get? b = none) (hex : ∀ b ∈ wr, ∃ o, s'.heap.get? b = some o) :
    FSa C sc env (guardP C sc env ad s'.heap) (fun a => U a ∨ a ∈ wr) Γ ad s' := by
  have F' := F.step st
  have nw : ∀ a o, s.heap.get? a = some o → a ∉ wr := fun a o e hm => by rw [hw a hm] at e; cases e
  have hup : ∀ a o, vw s.heap (mu U sc env ad) a o → vw s'.heap (mu (fun a => U a ∨ a ∈ wr) sc env ad) a o := by
    rintro a o ⟨h1, h2⟩
    refine ⟨st.keep a o (fun e => h2 (.inl (e ▸ F.gs.ub))) (fun e => h2 (.inl (e ▸ F.gs.uh))) h1, ?_⟩
    rintro ((h | h) | h)
    · exact h2 (.inl h)
    · exact nw a o h1 h
    · exact h2 (.inr h)
  refine ⟨⟨F'.gs.mg, F'.gs.mb, F'.gs.lim, F'.gs.gens, F'.gs.os, F'.gs.tab, ?_, .inl F.gs.ub, .inl F.gs.uh, F'.gs.base, ?_⟩, F.ev, fun a o h => h.1, ?_, fun a o h => h.2.2, F'.ns, F'.cell, F.free, F.apart, F.nl, F'.cdom, ?_, F.own⟩
  · rintro a (h | h)
    · exact F'.gs.udom a h
    · exact hex a h
  · rintro a o hb (h | h)
    · exact F.gs.ubase a o hb h
    · exact nw a o (F.gs.base a o hb) h
  · intro a ha
    obtain ⟨o, e⟩ := F.mdom a (.inr ha)
    have := F.foot a ha
    exact ⟨fun o h => h.2.1 ha, this.2.1, this.2.2.1, this.2.2.2.1, fun h => h.elim this.2.2.2.2 fun h => nw a o e h⟩
  · intro x sl hx
    obtain ⟨v, hv, hs⟩ := F.vars x sl hx
    have hv' : Var env s'.heap x v := hv.keep fun a o ha e => by
      rcases ha with rfl | ⟨y, hy⟩
      · have := F.footNe (.inl rfl); exact st.keep _ _ this.1 this.2 e
      · exact st.keep _ _ (F.nl y a hy).2.1 (F.nl y a hy).2.2 e
    refine ⟨v, hv', ?_⟩
    exact hs.map hup (fun _ e => e) (fun a o h1 h2 => (by have := F.footNe (.inr (.inr ⟨x, h1⟩)); exact st.keep _ _ this.1 this.2 h2))

/-- other guards -/
theorem FSa.reguard (F : FSa C sc env Pr U Γ ad s) : FSa C sc env (guardP C sc env ad s.heap) U Γ ad s :=
  { F with pr := fun a o h => h.1, foot := fun a ha => ⟨fun o h => h.2.1 ha, (F.foot a ha).2⟩, prD := fun a o h => h.2.2 }

/-- back to the guards of before -/
theorem FSa.back {Pr' U'} (F : FSa C sc env Pr' U' Γ ad s) (hU : ∀ a, U a → U' a) (ub : U builtinsNs) (uh : U C.hole) (pr : ∀ a o, Pr a o → s.heap.get? a = some o) (hf : ∀ a, Foot sc env ad a → ∀ o, ¬ Pr a o) (prD : ∀ a o, Pr a o → a ≠ builtinsNs ∧ a ≠ C.hole) : FSa C sc env Pr U Γ ad s := by
  have hm : ∀ a, mu U sc env ad a → mu U' sc env ad a := fun a h => h.imp (hU a) id
  refine { F with gs := { F.gs with udom := fun a h => F.gs.udom a (hU a h), ub := ub, uh := uh, ubase := fun a o hb h => F.gs.ubase a o hb (hU a h) }, pr := pr, prD := prD, foot := fun a ha => ⟨hf a ha, (F.foot a ha).2.1, (F.foot a ha).2.2.1, (F.foot a ha).2.2.2.1, fun h => (F.foot a ha).2.2.2.2 (hU a h)⟩, vars := fun x sl hx => ?_ }
  obtain ⟨v, hv, hs⟩ := F.vars x sl hx
  refine ⟨v, hv, ?_⟩
  exact hs.map (vw_anti hm) (fun _ e => e) (fun _ _ _ e => e)

/-- the loop behind its iterator: a turn goes on or returns -/
theorem loop_core {A : Around} {target body H} {ds : List D} {β : Type} (w : Prop) {dr : D} {it : Value} {s₂ : Shared} {R' : Result → Shared → Prop} (G : β → Gam) (I : Nat → β → Prop) (Γt : β → D → Gam) (b0 : β)
    (R : Room A n) (F : FSa C sc env Pr U (G b0) ad s) (h₂ : Made C A (mu U sc env ad) H target ds s it s₂) (hI0 : I 0 b0)
    (has : ∀ i b d, ds[i]? = some d → I i b → As C n sc (G b) target H d (Γt b d)) (hbody : ∀ i b d, ds[i]? = some d → I i b → ∀ Pr U ad s, FSa C sc env Pr U (Γt b d) ad s → wpAny (model C.prog C.w) A (execs body env) (fun f s' => (f = .next ∧ ∃ b' ad', I (i+1) b' ∧ FSa C sc env Pr U (G b') ad' s') ∨ (w ∧ Ret C Pr U dr f s')) noE s)
    (hRet : w → ∀ v s', Ret C Pr U dr (.ret v) s' → R' (.ok (.ret v)) s') (hR : ∀ b ad' s', I ds.length b → FSa C sc env Pr U (G b) ad' s' → R' (.ok .next) s') : codeAny (model C.prog C.w) A (.forLoop target it body [] env) R' s₂ := by
  obtain ⟨st, Ia, fp, wr, P, Md, St, rfl, W, hst, hwr, hfp, hfx, hitem⟩ := h₂
  have nw : ∀ a o, s.heap.get? a = some o → a ∉ wr := fun a o e hm => by rw [hwr a hm] at e; cases e
  have G0 := F.guard st hwr (W.ex 0 _ hst)
  have hnb : NoW C wr := by
    refine ⟨?_, ?_, ?_, ?_⟩
    · obtain ⟨o, _, _, e, _⟩ := F.gs.mb; exact nw _ o e
    · obtain ⟨o, e⟩ := C.holeDom _ F.gs.tab; exact nw _ o e
    · obtain ⟨o, _, _, e, _⟩ := F.gs.mg; exact nw _ o e
    · obtain ⟨_, ⟨o, _, _, e, _⟩, _⟩ := F.gs.lim; exact nw _ o e
  have hcell : ∀ x c, env.cells.lookup x = some c → c ∉ wr := fun x c hc => by
    obtain ⟨o, e⟩ := F.cdom x c hc; exact nw c o e
  have hl : env.locals ∉ wr := by obtain ⟨_, o, _, _, e, _⟩ := F.ns; exact nw _ o e
  let Pl : Addr → Obj → Prop := fun a o => s₂.heap.get? a = some o ∧ ¬ mu U sc env ad a ∧ a ∉ wr ∨ Pr a o
  have Gl : FSa C sc env Pl (fun a => U a ∨ a ∈ wr) (G b0) ad s₂ := by
    refine G0.back (fun _ h => h) G0.gs.ub G0.gs.uh ?_ ?_ ?_
    · rintro a o (h | h)
      · exact h.1
      · exact (F.step st).pr a o h
    · rintro a ha o (h | h)
      · exact h.2.1 (.inr ha)
      · exact (F.foot a ha).1 o h
    · rintro a o (h | h)
      · exact ⟨fun e => h.2.1 (.inl (e ▸ F.gs.ub)), fun e => h.2.1 (.inl (e ▸ F.gs.uh))⟩
      · exact F.prD a o h
  have hPl : ∀ a o, Pl a o → a ∉ wr := by
    rintro a o (h | h)
    · exact h.2.2
    · exact nw a o (F.pr a o h)
  have old : ∀ h : Heap, (∀ a o, Pl a o → h.get? a = some o) → ∀ b o, b ∉ wr → ¬ mu U sc env ad b → s₂.heap.get? b = some o → h.get? b = some o := fun h hP b o h1 h2 e => hP b o (.inl ⟨e, h2, h1⟩)
  refine codeAny_forLoop_any (fun k s' => ∃ i b ad', I i b ∧ i ≤ ds.length ∧ k = ds.length - i ∧ St i s'.heap ∧ FSa C sc env Pl (fun a => U a ∨ a ∈ wr) (G b) ad' s') ?_ (ds.length - 0) ⟨0, b0, ad, hI0, Nat.zero_le _, rfl, hst, Gl⟩
  rintro k s' ⟨i, b, ad', hIb, hi, rfl, hSt, F'⟩
  have tabk : ∀ h : Heap, (∀ b o, b ∉ wr → s'.heap.get? b = some o → h.get? b = some o) → C.tab s'.heap → C.tab h := fun h hk => C.tabMono _ _ fun a o ha e => hk a o (fun hw => ha.elim (W.cls i _ hSt a hw o e) fun h => h.elim (fun h => hnb.2.1 (h ▸ hw)) fun h => hnb.1 (h ▸ hw)) e
  by_cases hlt : i < ds.length
  · obtain ⟨d, hd⟩ : ∃ d, ds[i]? = some d := ⟨ds[i], by simp [hlt]⟩
    refine W.T.item i _ _ _ hlt hSt fun v h₁ tk₁ hMd hk₁ => ?_
    refine W.T.go i v _ _ _ hMd fun h₂ hP hst₂ hk₂ => ?_
    have hk : ∀ b o, b ∉ wr → s'.heap.get? b = some o → h₂.get? b = some o := fun b o hb e => hk₂ b o hb (hk₁ b o hb e)
    have F₂ : FSa C sc env Pl (fun a => U a ∨ a ∈ wr) (G b) ad' { s' with heap := h₂, toks := tk₁ } :=
      F'.moved (fun _ h => h) F'.gs.ub F'.gs.uh (fun b hb => .inr hb) hk (fun b hb _ => W.ex _ _ hst₂ b hb) hnb (fun a o h => hk a o (hPl a o h) (F'.pr a o h)) (fun a ha => (F'.foot a ha).1) F'.prD hcell hl rfl rfl (tabk h₂ hk)
    have F₃ := F₂.reguard
    have hit := hitem h₂ (old h₂ fun a o h => F₂.pr a o h) i v hP d hd
    have hit' : item C H (vw h₂ (mu (fun a => U a ∨ a ∈ wr) sc env ad')) h₂ v d := hit.mono fun a o ⟨⟨q1, q2⟩, q3⟩ =>
      ⟨F₂.pr a o (.inl ⟨q1, q2, q3⟩), fun hm => hm.elim (fun hu => hu.elim (fun hu => q2 (.inl hu)) q3) fun hf => (F₂.foot a hf).1 o (.inl ⟨q1, q2, q3⟩)⟩
    refine wpAny_after ((has i b d hd hIb).run env A _ _ ad' _ v R F₃ hit') fun _ s₃ ⟨ad₃, F₄⟩ => wpAny_after (hbody i b d hd hIb _ _ ad₃ s₃ F₄) fun f s₄ q => ?_
    rcases q with ⟨rfl, b', ad₄, hIb', F₅⟩ | ⟨hw, q⟩
    case inr =>
      obtain ⟨v', rfl, hv⟩ := q.val
      refine hRet hw v' s₄ ⟨{ q.gs with udom := fun a h => q.gs.udom a (.inl h), ub := F.gs.ub, uh := F.gs.uh, ubase := fun a o hb h => q.gs.ubase a o hb (.inl h) }, ?_, v', rfl, hv.mono (vw_anti fun a h => .inl h)⟩
      intro a o h
      exact q.pr a o ⟨F₂.pr a o (.inr h), fun hf => (F₂.foot a hf).1 o (.inr h), F.prD a o h⟩
    refine ⟨ds.length - (i + 1), by omega, i + 1, b', ad₄, hIb', hlt, rfl, ?_, F₅.back (fun _ h => h) F₅.gs.ub F₅.gs.uh ?_ ?_ F'.prD⟩
    · refine W.T.frame _ _ _ hst₂ fun b hb o e => F₅.pr b o ⟨e, fun hf => ?_, fun e => hfp b hb (.inl (e ▸ F.gs.ub)), fun e => hfp b hb (.inl (e ▸ F.gs.uh))⟩
      by_cases hbw : b ∈ wr
      · exact (F₂.foot b hf).2.2.2.2 (.inr hbw)
      · obtain ⟨o', e'⟩ := hfx b hb
        exact (F₂.foot b hf).1 o' (.inl ⟨e', hfp b hb, hbw⟩)
    · exact fun a o h => F₅.pr a o ⟨F₂.pr a o h, fun hf => (F₂.foot a hf).1 o h, F₂.prD a o h⟩
    · exact fun a ha o h => (F₅.foot a ha).1 o ⟨F₂.pr a o h, fun hf => (F₂.foot a hf).1 o h, F₂.prD a o h⟩
  · have hin : i = ds.length := by omega
    subst hin
    refine W.T.done _ _ _ hSt fun h₁ tk₁ hk₁ => wpAny_execs_nil (hR b ad' _ hIb ?_)
    exact F'.moved (fun a h => .inl h) F.gs.ub F.gs.uh (fun b hb => .inr hb) hk₁ (fun b hb hu => by
      obtain ⟨o, e⟩ := F.gs.udom b hu; exact absurd hb (nw b o e)) hnb (fun a o h => hk₁ a o (hPl a o (.inr h)) (F'.pr a o (.inr h))) (fun a ha o h => (F'.foot a ha).1 o (.inr h)) F.prD hcell hl rfl rfl (tabk h₁ hk₁)
theorem Ex1.for {iter target body pos H} {ds : List D} (hsrc : Src C n sc Γ iter target H ds) (Γs Γt : Nat → Gam) (h0 : Γs 0 = Γ)
    (has : ∀ i d, ds[i]? = some d → As C n sc (Γs i) target H d (Γt i)) (hbody : ∀ i d, ds[i]? = some d → ExN C n sc (Γt i) body (Γs (i+1)))
    (hs : ∀ env x, foldedSetIterable iter env x = pure x := by intro _ _; rfl) : Ex1 C n sc Γ (.For target iter body [] pos) (Γs ds.length) := .mk fun env A Pr U ad s R F => by
  subst h0
  refine wpAny_For (wpAny_after (hsrc.run env A Pr U ad s R F) fun x s₁ h₁ => wpAny_after h₁ fun it s₂ h₂ => ?_) (hs env)
  exact loop_core False (dr := .none) Γs (fun i b => b = i) (fun b _ => Γt b) 0 R F h₂ rfl (fun i b d hd e => e ▸ has i d hd) (fun i b d hd e Pr U ad s F => wpAny_after ((hbody i d hd).run env A Pr U ad s R (e ▸ F)) fun f s' ⟨e, ad', F'⟩ => .inl ⟨e, i + 1, ad', rfl, F'⟩) (fun h => h.elim) fun b ad' s' e F' => ⟨rfl, ad', e ▸ F'⟩
end Mine
end
-- Srcs
section
open PySem PySem.W PyProof.Rows
set_option Elab.async false
set_option linter.all false
namespace Mine
variable {C : Cx} {n : Nat} {sc : Scope} {Γ Γ' Γ'' : Gam} {env : Env} {Pr : Addr → Obj → Prop} {U m : Addr → Prop} {ad : Str → Option Addr} {s s' s₁ : Shared}

-- binding
theorem As.name {x px d} (hx : sc.names.lookup x = some .local ∨ sc.names.lookup x = some .cell := by first | exact Or.inl rfl | exact Or.inr rfl) : As C n sc Γ (.Name x px) false d ((x, .d d) :: Γ) := .mk fun env A Pr U ad s v R F hi =>
  wpAny_assign_Name (wpAny_mono (store F v hx) (fun _ s₂ ⟨X, hS⟩ => ⟨_, F.stored hS hi⟩) fun _ _ h => h)

noncomputable def bindAll : List (Str × Pos) → List D → Gam → Gam
  | p :: ps, d :: ds, Γ => bindAll ps ds ((p.1, .d d) :: Γ)
  | _, _, Γ => Γ

theorem mu_upd_none {x : Str} {a : Addr} (h : mu U sc env (upd ad x none) a) : mu U sc env ad a := by
  rcases h with h | h | h | ⟨y, hy⟩
  · exact .inl h
  · exact .inr (.inl h)
  · exact .inr (.inr (.inl h))
  · unfold upd at hy
    split at hy
    · cases hy
    · exact .inr (.inr (.inr ⟨y, hy⟩))

theorem asAll {A : Around} (ps : List (Str × Pos)) (vs : List Value) (ds : List D) (Γ : Gam) (ad : Str → Option Addr) (s : Shared) (F : FSa C sc env Pr U Γ ad s) (q : RepL C (vw s.heap (mu U sc env ad)) vs ds) (hl : ps.length = ds.length)
    (hk : ∀ p ∈ ps, sc.names.lookup p.1 = some .local ∨ sc.names.lookup p.1 = some .cell) :
    wpAny (model C.prog C.w) A (assignInOrder (ps.map fun p => assign (.Name p.1 p.2) env) vs) (fun _ s' => ∃ ad', FSa C sc env Pr U (bindAll ps ds Γ) ad' s') noE s := by
  induction ps generalizing vs ds Γ ad s with
  | nil =>
    cases ds with
    | nil => cases q using RepL.caseNil; exact wpAny_assignInOrder_none ⟨ad, F⟩
    | cons d ds => cases hl
  | cons p ps ih =>
    cases ds with
    | nil => cases hl
    | cons d ds =>
      cases q using RepL.caseCons with
      | @cons v vs r rs =>
        exact wpAny_assignInOrder_more (wpAny_assign_Name (wpAny_mono (store F v (hk p (.head _))) (fun _ s₂ ⟨X, hS⟩ =>
          ih vs ds _ _ s₂ (F.stored hS r) (rs.mono (up_rebind F hS.st (fun a h => (hS.hX a h).elim .inl fun h => .inr (.inl h)) fun _ h => by cases h)) (Nat.succ.inj hl) fun q hq => hk q (.tail _ hq)) fun _ _ h => h))

noncomputable def names (ps : List (Str × Pos)) : List Expr := ps.map fun p => .Name p.1 p.2
theorem assignEach_names (env : Env) : ∀ ps : List (Str × Pos), assignEach (names ps) env = ps.map fun p => (false, assign (.Name p.1 p.2) env)
  | [] => rfl
  | p :: ps => by
    show (false, assign (.Name p.1 p.2) env) :: assignEach (names ps) env = _
    rw [assignEach_names env ps]; rfl

theorem unpackAll {A : Around} {T : Addr} {vals : Array Value} {ds : List D} {ps : List (Str × Pos)} {k : Nat} {tpos : Pos} (hh : A.handled = none) (F : FSa C sc env Pr U Γ ad s) (ht : s.heap.IsTuple T vals) (r : RepL C (vw s.heap (mu U sc env ad)) vals.toList ds)
    (hl : ps.length = ds.length) (hk : ∀ p ∈ ps, sc.names.lookup p.1 = some .local ∨ sc.names.lookup p.1 = some .cell) :
    wpAny (model C.prog C.w) A (assign (.Tuple (names ps) k tpos) env (.ref T)) (fun _ s' => ∃ ad', FSa C sc env Pr U (bindAll ps ds Γ) ad' s') noE s := by
  have hvl : vals.size = ds.length := by rw [← Array.length_toList, r.length]
  refine wpAny_assign_Tuple hh ht (by rw [assignEach_names]; simp; lia) ?_ fun h' hx => ?_
  · rw [assignEach_names, List.findIdx?_eq_none_iff]; simp
  · rw [assignEach_names, List.map_map]
    have st : Stp C s { s with heap := h', toks := s.toks } := Stp.all fun b o e => hx b o (Nat.ne_of_lt (Heap.lt_size e)) e
    exact asAll ps _ ds Γ ad _ (F.step st) (r.mono (F.pt.up st)) hl hk

theorem As.tup {ps k tpos ds elts} (he : elts = names ps := by rfl) (hl : ps.length = ds.length := by rfl) (hk : ∀ p ∈ ps, sc.names.lookup p.1 = some .local ∨ sc.names.lookup p.1 = some .cell := by decide) :
    As C n sc Γ (.Tuple elts k tpos) true (.tup ds) (bindAll ps ds Γ) := .mk fun env A Pr U ad s v R F hi => by
  subst he
  obtain ⟨T, vals, ds', rfl, e, ht, r⟩ := hi
  cases e
  exact unpackAll R.1 F ht r hl hk

/-- a, b = t -/
theorem Ex1.unpack {ps k tpos e pos ds elts} (h : Ev C n sc Γ e (.tup ds)) (he : elts = names ps := by rfl) (hl : ps.length = ds.length := by rfl)
    (hk : ∀ p ∈ ps, sc.names.lookup p.1 = some .local ∨ sc.names.lookup p.1 = some .cell := by decide)
    (hs : ∀ env, swapsWithSole [.Tuple elts k tpos] e pos.line env = pure false := by intro _; rfl) (hw : ∀ env, swappedStores [.Tuple elts k tpos] e env = pure none := by intro _; rfl) :
    Ex1 C n sc Γ (.Assign [.Tuple elts k tpos] e pos) (bindAll ps ds Γ) := .mk fun env A Pr U ad s R F => by
  subst he
  refine Assign_Tuple (wpAny_after (h.run env A Pr U ad s R F) fun v s₁ ⟨st, r⟩ => ?_) (hs env) (hw env)
  cases r using Rep.caseTup with
  | tup hv hc hd hr _ =>
    exact wpAny_mono (unpackAll R.1 (F.step st) ⟨_, hv.1, hc, _, hd⟩ hr hl hk) (fun _ _ h => ⟨rfl, h⟩) fun _ _ h => h

-- sources
theorem letGo_plain {A : Around} {E : Value → Shared → Prop} {target : Expr} {I : Addr} {v : Value} {o : Obj} {T : String} {vs : Array Value} {Q : Unit → Shared → Prop} (ho : s.heap.get? I = some o) (hc : o.cls = .type T) (hd : o.data = .fields vs)
    (hT : ["enumerate", "zip", "dict_itemiterator", "dict_reverseitemiterator", "odict_iterator", "itertools.zip_longest", "itertools.pairwise"].contains T = false) (hQ : Q () s) :
    wpAny (model C.prog C.w) A (letOwnedTupleGo target (.ref I) v) Q E s := by
  have key : ∀ a : Addr, wpAny (model C.prog C.w) A (do
      let o ← load I
      match o.cls, o.data with
      | .type n, .fields vs =>
        if ["enumerate", "zip", "dict_itemiterator", "dict_reverseitemiterator", "odict_iterator", "itertools.zip_longest", "itertools.pairwise"].contains n && vs[0]? == some (rawInt a) then
          rule "for.unpacks-the-owned-tuple"
          updateField I 0 .none
      | _, _ => pure () : Sem Unit) Q E s := fun a => by
    refine wpAny_bind (wpAny_load ho ?_)
    rw [hc, hd]
    simp only [hT, Bool.false_and, Bool.false_eq_true, if_false]
    exact wpAny_pure hQ
  cases target <;> first | exact wpAny_pure hQ | (cases v <;> first | exact wpAny_pure hQ | exact key _)

theorem item_of {t : Bool} {V : View} {h : Heap} {v : Value} {d : D} (hr : Rep C V v d) (ht : t = true → ∃ ds, d = .tup ds) (hV : ∀ a o, V a o → h.get? a = some o) : item C t V h v d := by
  cases t with
  | false => exact hr
  | true =>
    obtain ⟨ds, rfl⟩ := ht rfl
    cases hr using Rep.caseTup with
    | tup hv hc hd hl _ => exact ⟨_, _, ds, rfl, rfl, ⟨_, hV _ _ hv, hc, _, hd⟩, hl⟩

theorem fresh_back (g : GS C m s₁) (st : Stp C s s₁) : s.heap.get? s₁.heap.objs.size = none := by
  cases e : s.heap.get? s₁.heap.objs.size with
  | none => rfl
  | some o' =>
    by_cases h1 : s₁.heap.objs.size = builtinsNs
    · obtain ⟨o, _, _, q, _⟩ := g.mb; exact absurd (Heap.lt_size q) (by rw [← h1]; exact Nat.lt_irrefl _)
    · by_cases h2 : s₁.heap.objs.size = C.hole
      · obtain ⟨o, q⟩ := C.holeDom _ g.tab; exact absurd (Heap.lt_size q) (by rw [← h2]; exact Nat.lt_irrefl _)
      · exact absurd (Heap.lt_size (st.keep _ _ h1 h2 e)) (Nat.lt_irrefl _)

theorem Made.ofWalks {A : Around} {target : Expr} {t : Bool} {ds : List D} {I : Addr} {fp : List Addr} {P : Nat → Value → Prop} {St : Nat → Heap → Prop} {s₂ : Shared} (W : Walks C.prog C.w A I fp [I] ds.length P St)
    (g₁ : GS C m s₁) (st₁ : Stp C s s₁) (st₂ : Stp C s₁ s₂) (hI0 : I = s₁.heap.objs.size) (hst : St 0 s₂.heap)
    (hI : ∀ i h, St i h → ∃ o T vs, h.get? I = some o ∧ o.cls = .type T ∧ o.data = .fields vs ∧ ["enumerate", "zip", "dict_itemiterator", "dict_reverseitemiterator", "odict_iterator", "itertools.zip_longest", "itertools.pairwise"].contains T = false ∧ T ≠ "code")
    (hfp : ∀ b ∈ fp, b ≠ I → ¬ m b ∧ ∃ o, s₂.heap.get? b = some o)
    (hitem : ∀ i v, P i v → ∀ d, ds[i]? = some d → Rep C (vw s₁.heap m) v d ∧ (t = true → ∃ l, d = .tup l)) : Made C A m t target ds s (.ref I) s₂ := by
  have hnone := fresh_back g₁ st₁
  have hmI : ¬ m I := hI0 ▸ g₁.fresh
  refine ⟨st₁.trans st₂, I, fp, [I], _, _, St, rfl, ⟨KTurns.ofWalks W fun i v s Q E hst hQ => ?_, ?_, ?_, ?_⟩, hst, ?_, ?_, ?_, ?_⟩
  · obtain ⟨o, T, vs, ho, hc, hd, hT, _⟩ := hI i _ hst
    exact letGo_plain ho hc hd hT hQ
  · exact fun i s Q E hst hQ => W.self i s Q E hst hQ
  · rintro i h hst b hb
    simp only [List.mem_singleton] at hb; subst hb
    obtain ⟨o, _, _, ho, _⟩ := hI i h hst; exact ⟨o, ho⟩
  · rintro i h hst b hb o ho hco
    simp only [List.mem_singleton] at hb; subst hb
    obtain ⟨o', T, _, ho', hc', _, _, hT⟩ := hI i h hst
    rw [ho] at ho'; cases ho'
    rw [hco.1] at hc'; injection hc' with e; exact hT e.symm
  · intro b hb
    simp only [List.mem_singleton] at hb; subst hb; subst hI0; exact hnone
  · intro b hb
    by_cases hbI : b = I
    · subst hbI; exact hmI
    · exact (hfp b hb hbI).1
  · intro b hb
    by_cases hbI : b = I
    · subst hbI; obtain ⟨o, _, _, ho, _⟩ := hI 0 _ hst; exact ⟨o, ho⟩
    · exact (hfp b hb hbI).2
  · intro h hk i v hP d hd
    obtain ⟨e2, e3⟩ := hitem i v hP d hd
    have up : ∀ b o', vw s₁.heap m b o' → vw s₂.heap m b o' ∧ b ∉ [I] := fun b o' q =>
      ⟨g₁.up st₂ b o' q, fun e => by simp only [List.mem_singleton] at e; subst hI0; exact Nat.lt_irrefl _ (e ▸ Heap.lt_size q.1)⟩
    exact item_of (e2.mono up) e3 fun b o' q => hk b o' q.2 q.1.2 q.1.1

theorem Src.list {iter target t ds} (h : Ev C n sc Γ iter (.list ds)) (ht : ∀ d ∈ ds, t = true → ∃ l, d = .tup l := by intro _ _ h; cases h) : Src C n sc Γ iter target t ds := .mk fun env A Pr U ad s R F => by
  refine wpAny_after (h.run env A Pr U ad s R F) fun x s₁ ⟨st, r⟩ => ?_
  cases r using Rep.caseList with
  | @list a o vs k hv hc hd hr _ =>
    have F₁ := F.step st
    have hl : s₁.heap.IsList a vs := ⟨o, hv.1, hc, k, hd⟩
    refine wpAny_pyIter_list hl ?_
    generalize hs2 : ({ s₁ with heap := s₁.heap.push { cls := .type "list_iterator", data := .fields #[.ref a, .int 0 0] } } : Shared) = s₂
    have st₂ : Stp C s₁ s₂ := hs2 ▸ Stp.push _ _
    have hne : a ≠ s₁.heap.objs.size := Nat.ne_of_lt (Heap.lt_size hv.1)
    have hI : s₂.heap.get? s₁.heap.objs.size = some { cls := .type "list_iterator", data := .fields #[.ref a, .int 0 0] } := hs2 ▸ Heap.get?_push_size _ rfl
    have hl2 : s₂.heap.IsList a vs := by rw [← hs2]; exact hl.push _
    have e : ds.length = vs.size := by rw [← Array.length_toList, hr.length]
    refine Made.ofWalks (e ▸ Walks.list R.1 s₁.heap.objs.size a hne vs) F₁.pt st st₂ rfl ⟨⟨_, hI, rfl, rfl⟩, hl2⟩ ?_ ?_ ?_
    · rintro i h ⟨⟨o, ho, hc, hd⟩, _⟩
      exact ⟨o, _, _, ho, hc, hd, by decide, by decide⟩
    · intro b hb hbI
      simp only [List.mem_cons, List.not_mem_nil, or_false] at hb
      rcases hb with rfl | rfl
      · exact absurd rfl hbI
      · obtain ⟨o, ho, _⟩ := hl2; exact ⟨hv.2, o, ho⟩
    · intro i v hP d hd'
      obtain ⟨d', e1, e2⟩ := hr.get' (show vs.toList[i]? = some v by simpa using hP)
      rw [hd'] at e1; cases e1
      exact ⟨e2, ht d (List.mem_of_getElem? hd')⟩

theorem Src.tup {iter target t ds} (h : Ev C n sc Γ iter (.tup ds)) (ht : ∀ d ∈ ds, t = true → ∃ l, d = .tup l := by intro _ _ h; cases h) : Src C n sc Γ iter target t ds := .mk fun env A Pr U ad s R F => by
  refine wpAny_after (h.run env A Pr U ad s R F) fun x s₁ ⟨st, r⟩ => ?_
  cases r using Rep.caseTup with
  | @tup a o vs k hv hc hd hr _ =>
    have F₁ := F.step st
    have hl : s₁.heap.IsTuple a vs := ⟨o, hv.1, hc, k, hd⟩
    refine wpAny_pyIter_tuple hl ?_
    generalize hs2 : ({ s₁ with heap := s₁.heap.push { cls := .type "tuple_iterator", data := .fields #[.ref a, .int 0 0] } } : Shared) = s₂
    have st₂ : Stp C s₁ s₂ := hs2 ▸ Stp.push _ _
    have hne : a ≠ s₁.heap.objs.size := Nat.ne_of_lt (Heap.lt_size hv.1)
    have hI : s₂.heap.get? s₁.heap.objs.size = some { cls := .type "tuple_iterator", data := .fields #[.ref a, .int 0 0] } := hs2 ▸ Heap.get?_push_size _ rfl
    have ha2 : s₂.heap.get? a = some o := by rw [← hs2]; exact Heap.get?_push_of_some _ hv.1
    have e : ds.length = vs.size := by rw [← Array.length_toList, hr.length]
    refine Made.ofWalks (e ▸ Walks.tuple R.1 s₁.heap.objs.size a hne vs) F₁.pt st st₂ rfl ⟨⟨_, hI, rfl, rfl⟩, ⟨o, ha2, hc, k, hd⟩⟩ ?_ ?_ ?_
    · rintro i h ⟨⟨o, ho, hc, hd⟩, _⟩
      exact ⟨o, _, _, ho, hc, hd, by decide, by decide⟩
    · intro b hb hbI
      simp only [List.mem_cons, List.not_mem_nil, or_false] at hb
      rcases hb with rfl | rfl
      · exact absurd rfl hbI
      · exact ⟨hv.2, o, ha2⟩
    · intro i v hP d hd'
      obtain ⟨d', e1, e2⟩ := hr.get' (show vs.toList[i]? = some v by simpa using hP)
      rw [hd'] at e1; cases e1
      exact ⟨e2, ht d (List.mem_of_getElem? hd')⟩
end Mine
end
-- Comp1
section
open PySem PySem.W PyProof.Rows
set_option Elab.async false
set_option linter.all false
namespace Mine
variable {C : Cx} {n : Nat} {sc : Scope} {Γ Γ' Γ'' : Gam} {env : Env} {Pr : Addr → Obj → Prop} {U m : Addr → Prop} {ad : Str → Option Addr} {s s' s₁ : Shared}

noncomputable def keyD (k : TKey) : D := .tup [.str k.1, .int k.2.1, .str k.2.2]
noncomputable def putT {α : Type} (l : List (TKey × α)) (k : TKey) (d : α) : List (TKey × α) := if k ∈ l.map (·.1) then l.map (fun x => if x.1 = k then (x.1, d) else x) else l ++ [(k, d)]
noncomputable def putAll {α : Type} (l : List (TKey × α)) (ps : List (TKey × α)) : List (TKey × α) := ps.foldl (fun l p => putT l p.1 p.2) l
/-- a pair as a datum -/
noncomputable def pairD (p : TKey × D) : D := .tup [keyD p.1, p.2]
/-- what an accumulator holds: a list, or a dict with tuple keys made of pairs -/
noncomputable def accL (C : Cx) (kd : Bool) (V : View) (o : Obj) (out : List D) : Prop := match kd with
  | false => ∃ vs k, o = seqObj "list" vs k ∧ RepL C V vs.toList out
  | true => ∃ kvs ps, out = ps.map pairD ∧ tupDict C V o kvs ∧ kvs.map (·.1) = (putAll [] ps).map (·.1) ∧ RepL C V (kvs.map (·.2)) ((putAll [] ps).map (·.2))
theorem accL.mono {C : Cx} {kd : Bool} {V V' : View} {o : Obj} {out : List D} (x : accL C kd V o out) (h : ∀ a o, V a o → V' a o) : accL C kd V' o out := by
  cases kd with
  | false => obtain ⟨vs, k, e, r⟩ := x; exact ⟨vs, k, e, r.mono h⟩
  | true => obtain ⟨kvs, ps, e, ht, hk, hr⟩ := x; exact ⟨kvs, ps, e, ht.mono h, hk, hr.mono h⟩
theorem accL.noFields {C : Cx} {kd : Bool} {V : View} {o : Obj} {out : List D} (x : accL C kd V o out) : ∀ vs, o.data ≠ .fields vs := by
  cases kd with
  | false => obtain ⟨vs, k, rfl, r⟩ := x; exact fun _ e => nomatch e
  | true => obtain ⟨kvs, ps, e, ⟨X, es, ep, _, _, q, _⟩, hk, hr⟩ := x; exact fun vs e => by rw [q] at e; cases e
noncomputable def LAcc (C : Cx) (acc : Addr) (out : List D) (V : View) (h : Heap) (kd : Bool := false) : Prop := ∃ o, h.get? acc = some o ∧ accL C kd V o out
structure AccOK (C : Cx) (env : Env) (Pr : Addr → Obj → Prop) (U : Addr → Prop) (acc : Addr) : Prop where
  u : U acc
  nb : acc ≠ builtinsNs
  nh : acc ≠ C.hole
  ng : acc ≠ mainGlobals
  ns : acc ≠ cStatics
  pr : ∀ o, ¬ Pr acc o
  cell : ∀ x c, env.cells.lookup x = some c → c ≠ acc
  loc : env.locals ≠ acc

structure Emit (C : Cx) (n : Nat) (sc : Scope) (Γ : Gam) (emit : Value → Env → Sem Unit) (outs : List D) (kd : Bool := false) : Prop where
  run : ∀ env A Pr U ad s acc out0, Room A n → FSa C sc env Pr U Γ ad s → AccOK C env Pr U acc → LAcc C acc out0 (vw s.heap (mu U sc env ad)) s.heap kd → out0.length + outs.length ≤ 100000 →
    wpAny (model C.prog C.w) A (emit (.ref acc) env) (fun _ s' => ∃ ad', FSa C sc env Pr U Γ ad' s' ∧ LAcc C acc (out0 ++ outs) (vw s'.heap (mu U sc env ad')) s'.heap kd) noE s

theorem LAcc.step {acc out kd} (F : FSa C sc env Pr U Γ ad s) (nb : acc ≠ builtinsNs) (nh : acc ≠ C.hole) (st : Stp C s s') (h : LAcc C acc out (vw s.heap (mu U sc env ad)) s.heap kd) : LAcc C acc out (vw s'.heap (mu U sc env ad)) s'.heap kd := by
  obtain ⟨o, h1, h2⟩ := h
  exact ⟨o, st.keep _ _ nb nh h1, h2.mono (F.pt.up st)⟩

theorem Emit.elt {elt d} (h : Ev C n sc Γ elt d) : Emit C n sc Γ (fun acc env => do let _ ← call (.builtin "list.append") [acc, ← eval elt env]) [d] := .mk fun env A Pr U ad s acc out0 R F K L hlen => by
  refine wpAny_bind (wpAny_after (h.run env A Pr U ad s R F) fun v s₁ ⟨st, r⟩ => ?_)
  have F₁ := F.step st
  obtain ⟨_, h1, vs, k, rfl, h2⟩ := L.step F K.nb K.nh st
  have hpl : s₁.heap.PlainList acc vs := ⟨k, h1⟩
  have hvl : vs.size = out0.length := by rw [← Array.length_toList, h2.length]
  refine wpAny_bind (wpAny_list_append_plain hpl (fun h' ⟨k', hp⟩ hs => wpAny_pure ⟨ad, ?_, ?_⟩) (by rw [hvl, sizeLine_eq]; lia))
  · have hk : ∀ b o, b ∉ [acc] → s₁.heap.get? b = some o → h'.get? b = some o := fun b o hb e => (hs.2 b (fun q => hb (by simp [q]))).trans e
    refine F₁.moved (wr := [acc]) (fun _ q => q) F₁.gs.ub F₁.gs.uh (fun b hb => by simp at hb; subst hb; exact K.u) hk (fun b hb _ => by simp at hb; subst hb; exact ⟨_, hp⟩)
      ⟨by simpa using Ne.symm K.nb, by simpa using Ne.symm K.nh, by simpa using Ne.symm K.ng, by simpa using Ne.symm K.ns⟩ (fun a o q => hk a o (fun hb => by simp at hb; subst hb; exact K.pr o q) (F₁.pr a o q)) (fun a ha => (F₁.foot a ha).1) F₁.prD
      (fun x c hc => by simpa using K.cell x c hc) (by simpa using K.loc) rfl rfl ?_
    exact C.tabMono _ _ fun a o ha e => hk a o (fun hb => by
      simp at hb; subst hb
      rcases ha with ⟨_, ws, hw⟩ | ha | ha
      · rw [h1] at e; cases e; cases hw
      · exact K.nh ha
      · exact K.nb ha) e
  · refine ⟨_, hp, vs.push v, k', rfl, ?_⟩
    rw [Array.toList_push]
    refine (h2.snoc r).mono fun a o ⟨q1, q2⟩ => ⟨(hs.2 a fun e => q2 (.inl (e ▸ K.u))).trans q1, q2⟩

structure Tsts (C : Cx) (n : Nat) (sc : Scope) (Γ : Gam) (ifs : List Expr) (b : Bool) : Prop where
  run : ∀ env A Pr U ad s, Room A n → FSa C sc env Pr U Γ ad s → wpAny (model C.prog C.w) A (forIn ifs true fun c r => if r = true then do let ok ← isTrue c env (eval c env); pure (ForInStep.yield ok) else pure (ForInStep.yield r)) (fun c s' => Stp C s s' ∧ c = b) noE s
theorem Tsts.nil : Tsts C n sc Γ [] true := .mk fun env A Pr U ad s R F => wpAny_tests_nil ⟨Stp.refl _ _, rfl⟩
theorem Tsts.one {c b} (h : Tst C n sc Γ c b) : Tsts C n sc Γ [c] b := .mk fun env A Pr U ad s R F => wpAny_tests_one (h.run env A Pr U ad s R F)

noncomputable def turnTree (pos : Pos) (target : Expr) (ifs : List Expr) (it : Value) (env : Env) (emit : Sem Unit) (nx : Code) : Sem PySem.Fin := do
  standAt pos
  match ← pyNext it with
  | none => pure (.done .next)
  | some v =>
    letOwnedTupleGo target it v
    assign target env v
    let mut ok := true
    for c in ifs do
      if ok then ok ← isTrue c env (eval c env)
    if ok then emit
    again nx

/-- what is known of an iterator that a loop of the frame draws from -/
structure Drawn (C : Cx) (env : Env) (Pr : Addr → Obj → Prop) (U : Addr → Prop) (A : Around) (target : Expr) (t : Bool) (ds : List D) (I : Addr) (fp wr : List Addr) (P Md : Nat → Value → Heap → Prop) (St : Nat → Heap → Prop) : Prop where
  W : Itr C A target I fp wr ds.length P Md St
  u : ∀ b ∈ wr, U b
  nb : NoW C wr
  pr : ∀ a o, Pr a o → a ∉ wr
  cell : ∀ x c, env.cells.lookup x = some c → c ∉ wr
  loc : env.locals ∉ wr
  fp : ∀ b ∈ fp, b ∉ wr → ∃ o, Pr b o
  item : ∀ h : Heap, (∀ a o, Pr a o → h.get? a = some o) → ∀ i v, P i v h → ∀ d, ds[i]? = some d → item C t (fun a o => Pr a o ∧ ¬ U a) h v d

noncomputable def fm {α : Type} (b : α → Bool) (f : α → List D) (l : List α) : List D := l.flatMap fun a => if b a then f a else []
theorem codeAny_compLoopG {α : Type} {e : Expr} {depth : Nat} {pos : Pos} {target : Expr} {ifs : List Expr} {emit : Value → Env → Sem Unit} {t : Bool} {xs : List α} {g : α → D} {f : α → List D} {Γt : α → Gam} {b : α → Bool} {A : Around} {kd : Bool} {I acc : Addr} {fp wr P Md St} {out0 : List D}
    (hturn : ∀ it acc env, (model C.prog C.w).den (.compLoop e depth it acc env) = (turnTree pos target ifs it env (emit acc env) (.compLoop e depth it acc env)).onRaise (fun x => do noteFrame x env; theTreesLotGoes x))
    (has : ∀ a ∈ xs, As C n sc Γ target t (g a) (Γt a)) (hts : ∀ a ∈ xs, Tsts C n sc (Γt a) ifs (b a)) (hem : ∀ a ∈ xs, b a = true → Emit C n sc (Γt a) emit (f a) kd)
    (hsub : ∀ a ∈ xs, ∀ x sl, Γ.lookup x = some sl → (Γt a).lookup x = some sl)
    (hu : ∀ it acc env, A.under (.compLoop e depth it acc env) = A) (R : Room A n) (F : FSa C sc env Pr U Γ ad s) (K : AccOK C env Pr U acc) (hacc : acc ∉ wr) (L : LAcc C acc out0 (vw s.heap (mu U sc env ad)) s.heap kd) (Dr : Drawn C env Pr U A target t (xs.map g) I fp wr P Md St) (hst : St 0 s.heap)
    {U0 : Addr → Prop} (hU0 : ∀ a, U0 a → U a) (hw0 : ∀ b ∈ wr, ¬ U0 b) (ub0 : U0 builtinsNs) (uh0 : U0 C.hole)
    (hlen : out0.length + (fm b f xs).length ≤ 100000) :
    codeAny (model C.prog C.w) A (.compLoop e depth (.ref I) (.ref acc) env) (fun r s' => r = .ok .next ∧ ∃ ad', FSa C sc env Pr U0 Γ ad' s' ∧ LAcc C acc (out0 ++ fm b f xs) (vw s'.heap (mu U sc env ad')) s'.heap kd) s := by
  refine codeAny_loop rfl (fun k s' => ∃ i ad', i ≤ xs.length ∧ k = xs.length - i ∧ St i s'.heap ∧ FSa C sc env Pr U Γ ad' s' ∧ LAcc C acc (out0 ++ fm b f (xs.take i)) (vw s'.heap (mu U sc env ad')) s'.heap kd) ?_ (xs.length - 0)
    ⟨0, ad, Nat.zero_le _, rfl, hst, F, by simpa [fm] using L⟩
  rintro k s' ⟨i, ad', hi, rfl, hSt, F', L'⟩
  rw [hu, hturn]
  refine wpAny_noted ?_
  unfold turnTree
  refine wpAny_bind (wpAny_standAt (wpAny_bind ?_))
  have tabk : ∀ h : Heap, (∀ b o, b ∉ wr → s'.heap.get? b = some o → h.get? b = some o) → C.tab s'.heap → C.tab h := fun h hk => C.tabMono _ _ fun a o ha e => hk a o (fun hw => ha.elim (Dr.W.cls i _ hSt a hw o e) fun h => h.elim (fun h => Dr.nb.2.1 (h ▸ hw)) fun h => Dr.nb.1 (h ▸ hw)) e
  have lmove : ∀ h : Heap, (∀ b o, b ∉ wr → s'.heap.get? b = some o → h.get? b = some o) → LAcc C acc (out0 ++ fm b f (xs.take i)) (vw h (mu U sc env ad')) h kd := fun h hk => by
    obtain ⟨oo, h1, h2⟩ := L'
    exact ⟨oo, hk _ _ hacc h1, h2.mono fun a o ⟨q1, q2⟩ => ⟨hk a o (fun hw => q2 (.inl (Dr.u a hw))) q1, q2⟩⟩
  by_cases hlt : i < xs.length
  · have hg : (xs.map g)[i]? = some (g xs[i]) := by simp [hlt]
    have hm : xs[i] ∈ xs := List.getElem_mem hlt
    refine Dr.W.T.item i _ _ _ (by simpa using hlt) hSt fun v h₁ tk₁ hMd hk₁ => ?_
    refine wpAny_bind (Dr.W.T.go i v _ _ _ hMd fun h₂ hP hst₂ hk₂ => ?_)
    have hk : ∀ b o, b ∉ wr → s'.heap.get? b = some o → h₂.get? b = some o := fun b o hb e => hk₂ b o hb (hk₁ b o hb e)
    have F₂ : FSa C sc env Pr U Γ ad' { s' with heap := h₂, toks := tk₁ } :=
      F'.moved (fun _ h => h) F'.gs.ub F'.gs.uh Dr.u hk (fun b hb _ => Dr.W.ex _ _ hst₂ b hb) Dr.nb (fun a o h => hk a o (Dr.pr a o h) (F'.pr a o h)) (fun a ha => (F'.foot a ha).1) F'.prD Dr.cell Dr.loc rfl rfl (tabk h₂ hk)
    have L₂ := lmove h₂ hk
    have hit := Dr.item h₂ (fun a o h => F₂.pr a o h) i v hP _ hg
    have hit' : item C t (vw h₂ (mu U sc env ad')) h₂ v (g xs[i]) := hit.mono fun a o ⟨q1, q2⟩ => ⟨F₂.pr a o q1, fun hm => hm.elim q2 fun hf => (F₂.foot a hf).1 o q1⟩
    -- all that stands is protected, the accumulator too
    have F₂r := F₂.reguard
    have hPr2 : ∀ a o, Pr a o → guardP C sc env ad' h₂ a o := fun a o h => ⟨F₂.pr a o h, fun hf => (F₂.foot a hf).1 o h, F₂.prD a o h⟩
    have hUf : ∀ a, U a → ¬ Foot sc env ad' a := fun a hu hf => (F₂.foot a hf).2.2.2.2 hu
    have hfp2 : ∀ b ∈ fp, ∀ o, h₂.get? b = some o → guardP C sc env ad' h₂ b o := fun b hb o e => by
      by_cases hw : b ∈ wr
      · exact ⟨e, hUf b (Dr.u b hw), fun q => Dr.nb.1 (q ▸ hw), fun q => Dr.nb.2.1 (q ▸ hw)⟩
      · obtain ⟨o', ho'⟩ := Dr.fp b hb hw
        exact ⟨e, (hPr2 b o' ho').2⟩
    have haccfp : ∀ b ∈ fp, b ≠ acc := fun b hb q => by
      by_cases hw : b ∈ wr
      · exact hacc (q ▸ hw)
      · obtain ⟨o', ho'⟩ := Dr.fp b hb hw
        exact K.pr o' (q ▸ ho')
    have htake : fm b f (xs.take (i + 1)) = fm b f (xs.take i) ++ (if b xs[i] then f xs[i] else []) := by
      unfold fm; rw [List.take_succ_eq_append_getElem hlt, List.flatMap_append]; simp
    have hpre : out0.length + (fm b f (xs.take (i + 1))).length ≤ 100000 := by
      have : (fm b f xs).length = (fm b f (xs.take (i + 1))).length + (fm b f (xs.drop (i + 1))).length := by
        unfold fm; rw [← List.length_append, ← List.flatMap_append, List.take_append_drop]
      omega
    refine wpAny_bind (wpAny_after ((has _ hm).run env A _ U ad' _ v R F₂r hit') fun _ s₃ ⟨ad₃, F₃⟩ => ?_)
    have up23 : ∀ a o, vw h₂ (mu U sc env ad') a o → vw s₃.heap (mu U sc env ad₃) a o := fun a o ⟨q1, q2⟩ => by
      have q : guardP C sc env ad' h₂ a o := ⟨q1, fun hf => q2 (.inr hf), fun e => q2 (.inl (e ▸ F₂.gs.ub)), fun e => q2 (.inl (e ▸ F₂.gs.uh))⟩
      exact ⟨F₃.pr a o q, fun hm => hm.elim (fun hu => q2 (.inl hu)) fun hf => (F₃.foot a hf).1 o q⟩
    have L₃ : LAcc C acc (out0 ++ fm b f (xs.take i)) (vw s₃.heap (mu U sc env ad₃)) s₃.heap kd := by
      obtain ⟨oo, h1, h2⟩ := L₂
      exact ⟨oo, F₃.pr _ _ ⟨h1, hUf acc K.u, K.nb, K.nh⟩, h2.mono up23⟩
    refine wpAny_bind (wpAny_after ((hts _ hm).run env A _ U ad₃ s₃ R F₃) fun ok s₄ ⟨st₄, e⟩ => ?_)
    subst e
    have F₄ := F₃.step st₄
    have L₄ := L₃.step F₃ K.nb K.nh st₄
    cases hb : b xs[i] with
    | false =>
      obtain ⟨ad₅, F₅, h5⟩ := F₄.sub' (hsub _ hm)
      refine wpAny_pure ⟨rfl, _, ?_, i + 1, ad₅, hlt, rfl, ?_, F₅.back (fun _ h => h) F₅.gs.ub F₅.gs.uh (fun a o h => F₅.pr a o (hPr2 a o h)) (fun a ha o h => (F₅.foot a ha).1 o (hPr2 a o h)) F'.prD, ?_⟩
      · omega
      · exact Dr.W.T.frame _ _ _ hst₂ fun b hb o e => F₅.pr b o (hfp2 b hb o e)
      · rw [htake, hb, if_neg Bool.false_ne_true, List.append_nil]
        obtain ⟨oo, h1, h2⟩ := L₄
        exact ⟨oo, h1, h2.mono (vw_anti fun a h => h.imp id fun h => h.imp id fun h => h.imp id fun ⟨y, hy⟩ => ⟨y, h5 y a hy⟩)⟩
    | true =>
      rw [htake, hb, if_pos rfl] at hpre
      have F₄' : FSa C sc env (fun a o => guardP C sc env ad' h₂ a o ∧ a ≠ acc) U (Γt xs[i]) ad₃ s₄ :=
        F₄.back (fun _ h => h) F₄.gs.ub F₄.gs.uh (fun a o h => F₄.pr a o h.1) (fun a ha o h => (F₄.foot a ha).1 o h.1) (fun a o h => F₄.prD a o h.1)
      refine wpAny_bind (wpAny_after ((hem _ hm hb).run env A _ U ad₃ s₄ acc _ R F₄' ⟨K.u, K.nb, K.nh, K.ng, K.ns, fun o h => h.2 rfl, K.cell, K.loc⟩ L₄ (by rw [List.length_append]; simp only [List.length_append] at hpre ⊢; omega)) fun _ s₅ ⟨ad₄, F₅, L₅⟩ => ?_)
      obtain ⟨ad₅, F₆, h5⟩ := F₅.sub' (hsub _ hm)
      refine wpAny_pure ⟨rfl, _, ?_, i + 1, ad₅, hlt, rfl, ?_, F₆.back (fun _ h => h) F₆.gs.ub F₆.gs.uh (fun a o h => F₆.pr a o ⟨hPr2 a o h, fun e => K.pr o (e ▸ h)⟩) (fun a ha o h => (F₆.foot a ha).1 o ⟨hPr2 a o h, fun e => K.pr o (e ▸ h)⟩) F'.prD, ?_⟩
      · omega
      · exact Dr.W.T.frame _ _ _ hst₂ fun b hb o e => F₆.pr b o ⟨hfp2 b hb o e, haccfp b hb⟩
      · rw [htake, hb, if_pos rfl, ← List.append_assoc]
        obtain ⟨oo, h1, h2⟩ := L₅
        exact ⟨oo, h1, h2.mono (vw_anti fun a h => h.imp id fun h => h.imp id fun h => h.imp id fun ⟨y, hy⟩ => ⟨y, h5 y a hy⟩)⟩
  · have hin : i = xs.length := by omega
    subst hin
    rw [List.take_length] at lmove
    have hSt' := hSt
    refine Dr.W.T.done _ _ _ (by simpa using hSt) fun h₁ tk₁ hk₁ => wpAny_pure ⟨rfl, ad', ?_, lmove h₁ hk₁⟩
    exact F'.moved hU0 ub0 uh0 Dr.u hk₁ (fun b hb hu => absurd hu (hw0 b hb)) Dr.nb (fun a o h => hk₁ a o (Dr.pr a o h) (F'.pr a o h)) (fun a ha => (F'.foot a ha).1) F'.prD Dr.cell Dr.loc rfl rfl (tabk h₁ hk₁)
theorem codeAny_compLoop {α : Type} {e : Expr} {depth : Nat} {pos : Pos} {target : Expr} {ifs : List Expr} {emit : Value → Env → Sem Unit} {t : Bool} {xs : List α} {g : α → D} {f : α → List D} {Γt : α → Gam} {b : α → Bool} {A : Around} {kd : Bool} {I acc : Addr} {fp wr P Md St} {out0 : List D}
    (hturn : ∀ it acc env, (model C.prog C.w).den (.compLoop e depth it acc env) = (turnTree pos target ifs it env (emit acc env) (.compLoop e depth it acc env)).onRaise (fun x => do noteFrame x env; theTreesLotGoes x))
    (has : ∀ a ∈ xs, As C n sc Γ target t (g a) (Γt a)) (hts : ∀ a ∈ xs, Tsts C n sc (Γt a) ifs (b a)) (hem : ∀ a ∈ xs, b a = true → Emit C n sc (Γt a) emit (f a) kd)
    (hsub : ∀ a ∈ xs, ∀ x sl, Γ.lookup x = some sl → (Γt a).lookup x = some sl)
    (hu : ∀ it acc env, A.under (.compLoop e depth it acc env) = A) (R : Room A n) (F : FSa C sc env Pr U Γ ad s) (K : AccOK C env Pr U acc) (hacc : acc ∉ wr) (L : LAcc C acc out0 (vw s.heap (mu U sc env ad)) s.heap kd) (Dr : Drawn C env Pr U A target t (xs.map g) I fp wr P Md St) (hst : St 0 s.heap)
    {U0 : Addr → Prop} (hU0 : ∀ a, U0 a → U a) (hw0 : ∀ b ∈ wr, ¬ U0 b) (ub0 : U0 builtinsNs) (uh0 : U0 C.hole)
    (hlen : out0.length + (xs.flatMap fun a => if b a then f a else []).length ≤ 100000) :
    codeAny (model C.prog C.w) A (.compLoop e depth (.ref I) (.ref acc) env) (fun r s' => r = .ok .next ∧ ∃ ad', FSa C sc env Pr U0 Γ ad' s' ∧ LAcc C acc (out0 ++ xs.flatMap fun a => if b a then f a else []) (vw s'.heap (mu U sc env ad')) s'.heap kd) s :=
  codeAny_compLoopG hturn has hts hem hsub hu R F K hacc L Dr hst hU0 hw0 ub0 uh0 hlen

end Mine
end
-- Comp2
section
open PySem PySem.W PyProof.Rows
set_option Elab.async false
set_option linter.all false
namespace Mine
variable {C : Cx} {n : Nat} {sc : Scope} {Γ Γ' Γ'' : Gam} {env : Env} {Pr : Addr → Obj → Prop} {U m : Addr → Prop} {ad : Str → Option Addr} {s s' s₁ : Shared}

theorem cellsFrom_mem : ∀ (names : List (Str × NameKind)) (k : Nat) (acc : List (Str × Addr)) (x : Str) (c : Addr), (x, c) ∈ cellsFrom k names acc → (x, c) ∈ acc ∨ ((x, NameKind.cell) ∈ names ∧ k ≤ c) := fun names => by
  induction names with
  | nil => exact fun _ _ _ _ h => .inl h
  | cons p r ih =>
    obtain ⟨nm, kd⟩ := p
    intro k acc x c h
    unfold cellsFrom at h
    split at h
    · rename_i hk
      rcases ih _ _ x c h with h | h
      · rcases List.mem_cons.mp h with e | h
        · obtain ⟨rfl, rfl⟩ := Prod.mk.inj e
          have : kd = .cell := by simpa using hk
          subst this
          exact .inr ⟨List.mem_cons_self .., Nat.le_refl _⟩
        · exact .inl h
      · exact .inr ⟨List.mem_cons_of_mem _ h.1, by lia⟩
    · rcases ih _ _ x c h with h | h
      · exact .inl h
      · exact .inr ⟨List.mem_cons_of_mem _ h.1, h.2⟩
theorem cellsFrom_apart : ∀ (names : List (Str × NameKind)) (k : Nat) (acc : List (Str × Addr)), (acc.Pairwise fun x y => x.2 ≠ y.2) → (∀ p ∈ acc, p.2 < k) → (cellsFrom k names acc).Pairwise fun x y => x.2 ≠ y.2
  | [], k, acc, h, _ => h
  | (nm, kd) :: r, k, acc, h, hl => by
    unfold cellsFrom
    split
    · refine cellsFrom_apart r _ _ (List.pairwise_cons.mpr ⟨fun p hp => ?_, h⟩) fun p hp => ?_
      · exact Nat.ne_of_gt (hl p hp)
      · rcases List.mem_cons.mp hp with rfl | hp
        · exact Nat.lt_succ_self _
        · exact Nat.lt_succ_of_lt (hl p hp)
    · exact cellsFrom_apart r _ _ h hl
theorem cellsFrom_other : ∀ (names : List (Str × NameKind)) (k : Nat) (acc : List (Str × Addr)) (x : Str), (x, NameKind.cell) ∉ names → (cellsFrom k names acc).lookup x = acc.lookup x := fun names => by
  induction names with
  | nil => exact fun _ _ _ _ => rfl
  | cons p r ih =>
    obtain ⟨nm, kd⟩ := p
    intro k acc x h
    have h := not_or.mp fun e => h (List.mem_cons.mpr e)
    unfold cellsFrom
    split
    · rename_i hk
      rw [ih _ _ x h.2, List.lookup_cons]
      have : kd = .cell := by simpa using hk
      subst this
      have : (x == nm) = false := by
        cases hx : x == nm with
        | false => rfl
        | true => exact absurd (by rw [beq_iff_eq.mp hx]) h.1
      rw [this]
    · exact ih _ _ x h.2
theorem pushCells_new : ∀ (names : List (Str × NameKind)) (h : Heap) (acc : List (Str × Addr)) (x : Str) (c : Addr), (x, c) ∈ cellsFrom h.objs.size names acc → (x, c) ∈ acc ∨ (pushCells h names).IsCell c none := fun names => by
  induction names with
  | nil => exact fun _ _ _ _ hm => .inl hm
  | cons p r ih =>
    obtain ⟨nm, kd⟩ := p
    intro h acc x c hm
    unfold cellsFrom at hm
    unfold pushCells
    split at hm
    · rename_i hk
      rw [if_pos hk]
      have hz : (h.push { cls := .type "cell", data := .cell none }).objs.size = h.objs.size + 1 := Heap.size_push ..
      rw [← hz] at hm
      rcases ih _ _ x c hm with hm | hm
      · rcases List.mem_cons.mp hm with e | hm
        · obtain ⟨rfl, rfl⟩ := Prod.mk.inj e
          exact .inr ⟨_, pushCells_keeps _ _ _ _ (Heap.get?_push_size _ rfl), rfl⟩
        · exact .inl hm
      · exact .inr hm
    · rename_i hk
      rw [if_neg hk]
      exact ih h acc x c hm

theorem newEnv_comp {M : Model} {A : Around} {E : Value → Shared → Prop} {scope : Scope} {cl : List (Str × Addr)} {Q : Env → Shared → Prop}
    (h : Q (newEnv scope s.heap.objs.size env.globals (cellsFrom (s.heap.objs.size + 1) scope.names cl) env.qual none .none (some env) builtinsNs) { s with heap := pushCells (s.heap.push { cls := .type "dict", data := .dict #[] }) scope.names }) :
    wpAny M A (newFunctionEnv scope env.globals cl [] env.qual none .none (some env)) Q E s := by
  simp only [newFunctionEnv, Option.isSome_some, if_true]
  refine wpAny_bind (wpAny_alloc ?_)
  refine wpAny_bind (wpAny_layCells _ (fun name kind cells => by cases hkc : kind == NameKind.cell <;> simp [hkc]) _ _ _ _ ?_)
  rw [show ({ s with heap := s.heap.push { cls := .type "dict", data := .dict #[] } } : Shared).heap.objs.size = s.heap.objs.size + 1 from Heap.size_push ..]
  exact wpAny_bind (wpAny_pure (wpAny_pure h))

theorem closureFor_ok {scope : Scope} (hap : env.cells.Pairwise fun x y => x.2 ≠ y.2) (hnd : (scope.names.map (·.1)).Nodup) (h : ∀ x, (x, NameKind.free) ∈ scope.names → ∃ c, env.cells.lookup x = some c) :
    ∃ cl, closureFor scope env = pure cl ∧ (∀ x c, (x, c) ∈ cl → env.cells.lookup x = some c) ∧ (∀ x, (x, NameKind.free) ∈ scope.names → ∃ c, cl.lookup x = some c ∧ env.cells.lookup x = some c) ∧ (cl.Pairwise fun x y => x.2 ≠ y.2) ∧ ∀ x c, (x, c) ∈ cl → (x, NameKind.free) ∈ scope.names := by
  have key : ∀ (names : List (Str × NameKind)) (acc : List (Str × Addr)), (names.map (·.1)).Nodup → (∀ x, (x, NameKind.free) ∈ names → ∃ c, env.cells.lookup x = some c) →
      (∀ x c, (x, c) ∈ acc → env.cells.lookup x = some c ∧ x ∉ names.map (·.1)) → (acc.Pairwise fun x y => x.2 ≠ y.2) → (∀ x, (x, NameKind.free) ∈ names → (x, NameKind.free) ∈ scope.names) → (∀ x c, (x, c) ∈ acc → (x, NameKind.free) ∈ scope.names) →
      ∃ cl, (forIn names acc fun (x : Str × NameKind) r => (do if x.2 == .free then do let a ← cellOf env x.1; pure (ForInStep.yield ((x.1, a) :: r)) else pure (ForInStep.yield r) : Sem (ForInStep (List (Str × Addr))))) = pure cl ∧
        (∀ x c, (x, c) ∈ cl → env.cells.lookup x = some c) ∧ (∀ x, ((x, NameKind.free) ∈ names ∨ ∃ c, (x, c) ∈ acc) → ∃ c, cl.lookup x = some c ∧ env.cells.lookup x = some c) ∧ (cl.Pairwise fun x y => x.2 ≠ y.2) ∧ ∀ x c, (x, c) ∈ cl → (x, NameKind.free) ∈ scope.names := by
    intro names
    induction names with
    | nil =>
      intro acc _ _ ha hp _ hs
      refine ⟨acc, rfl, fun x c hm => (ha x c hm).1, fun x hx => ?_, hp, hs⟩
      rcases hx with hx | ⟨c, hx⟩
      · cases hx
      · cases hq : acc.lookup x with
        | none =>
          exfalso
          have := List.lookup_eq_none_iff.mp hq _ hx
          simp at this
        | some c' => exact ⟨c', rfl, (ha x c' (mem_of_lookup hq)).1⟩
    | cons p r ih =>
      obtain ⟨nm, kd⟩ := p
      intro acc hn hf ha hp hq hs
      simp only [List.map_cons, List.nodup_cons] at hn
      have ha' : ∀ x c, (x, c) ∈ acc → env.cells.lookup x = some c ∧ x ∉ r.map (·.1) := fun x c hm => ⟨(ha x c hm).1, fun hh => (ha x c hm).2 (by simp only [List.map_cons]; exact List.mem_cons_of_mem _ hh)⟩
      rw [List.forIn_cons]
      by_cases hk : kd = .free
      · subst hk
        obtain ⟨c, hc⟩ := hf nm (List.mem_cons_self ..)
        have e : cellOf env nm = pure c := by unfold cellOf; rw [hc]
        simp only [beq_self_eq_true, if_true, e, pure_bind]
        obtain ⟨cl, h1, h2, h3, h4⟩ := ih ((nm, c) :: acc) hn.2 (fun x hx => hf x (List.mem_cons_of_mem _ hx)) (fun x c' hm => by
          rcases List.mem_cons.mp hm with q | hm
          · obtain ⟨rfl, rfl⟩ := Prod.mk.inj q; exact ⟨hc, hn.1⟩
          · exact ha' x c' hm) (List.pairwise_cons.mpr ⟨fun q hq e => by
            have hqe := (ha q.1 q.2 hq).1
            have : nm = q.1 := name_of_addr hap (mem_of_lookup hc) (by have := mem_of_lookup hqe; rw [← e] at this; exact this)
            exact (ha q.1 q.2 hq).2 (by rw [← this]; simp), hp⟩) (fun x hx => hq x (List.mem_cons_of_mem _ hx)) (fun x c' hm => by
          rcases List.mem_cons.mp hm with q | hm
          · obtain ⟨rfl, rfl⟩ := Prod.mk.inj q; exact hq x (List.mem_cons_self ..)
          · exact hs x c' hm)
        refine ⟨cl, h1, h2, fun x hx => h3 x ?_, h4⟩
        rcases hx with hx | ⟨c', hx⟩
        · rcases List.mem_cons.mp hx with q | hx
          · obtain ⟨rfl, _⟩ := Prod.mk.inj q; exact .inr ⟨c, List.mem_cons_self ..⟩
          · exact .inl hx
        · exact .inr ⟨c', List.mem_cons_of_mem _ hx⟩
      · have e : (kd == NameKind.free) = false := by simpa using hk
        simp only [e, Bool.false_eq_true, if_false, pure_bind]
        obtain ⟨cl, h1, h2, h3, h4⟩ := ih acc hn.2 (fun x hx => hf x (List.mem_cons_of_mem _ hx)) ha' hp (fun x hx => hq x (List.mem_cons_of_mem _ hx)) hs
        refine ⟨cl, h1, h2, fun x hx => h3 x ?_, h4⟩
        rcases hx with hx | hx
        · rcases List.mem_cons.mp hx with q | hx
          · exact absurd (Prod.mk.inj q).2.symm hk
          · exact .inl hx
        · exact .inr hx
  obtain ⟨cl, h1, h2, h3, h4⟩ := key scope.names [] hnd h (fun _ _ hm => nomatch hm) .nil (fun _ h => h) (fun _ _ hm => nomatch hm)
  refine ⟨cl, ?_, h2, fun x hx => h3 x (.inl hx), h4⟩
  have e : closureFor scope env = (forIn scope.names ([] : List (Str × Addr)) fun (x : Str × NameKind) r => (do if x.2 == .free then do let a ← cellOf env x.1; pure (ForInStep.yield ((x.1, a) :: r)) else pure (ForInStep.yield r) : Sem (ForInStep (List (Str × Addr))))) >>= pure := rfl
  rw [e, h1]; rfl

theorem relabel_lookup {scope : Scope} {x : Str} {k : NameKind} (h : scope.names.lookup x = some k) :
    (relabel scope env).names.lookup x = some (if (k == .free && env.scope.kind == .function && env.kindOf x == some .cell) = true then .cell else k) := by
  unfold relabel
  simp only
  generalize scope.names = names at h
  induction names with
  | nil => simp at h
  | cons p r ih =>
    obtain ⟨nm, kd⟩ := p
    rw [List.lookup_cons] at h
    rw [List.map_cons]
    by_cases hx : x = nm
    · subst hx
      simp only [beq_self_eq_true, Option.some.injEq] at h
      subst h
      by_cases hc : (kd == NameKind.free && env.scope.kind == .function && env.kindOf x == some .cell) = true
      · rw [if_pos hc, if_pos hc]; simp
      · rw [if_neg hc, if_neg hc]; simp
    · have hb : (x == nm) = false := by simpa using hx
      rw [hb] at h
      have := ih h
      by_cases hc : (kd == NameKind.free && env.scope.kind == .function && env.kindOf nm == some .cell) = true
      · rw [if_pos hc, List.lookup_cons, hb]; exact this
      · rw [if_neg hc, List.lookup_cons, hb]; exact this
end Mine
end
-- Comp3
section
open PySem PySem.W PyProof.Rows
set_option Elab.async false
set_option linter.all false
namespace Mine
variable {C : Cx} {n : Nat} {sc : Scope} {Γ Γ' Γ'' : Gam} {env : Env} {Pr : Addr → Obj → Prop} {U m : Addr → Prop} {ad : Str → Option Addr} {s s' s₁ : Shared}

structure CompSc (sc scope : Scope) : Prop where
  kind : scope.kind = .function
  nd : (scope.names.map (·.1)).Nodup
  ncd : ∀ x ∈ scope.names, x.1 ≠ "__classdict__"
  free : ∀ x ∈ scope.names, x.2 = .free → sc.names.lookup x.1 = some .cell ∨ sc.names.lookup x.1 = some .free

theorem lookup_of_mem {α : Type} : ∀ {l : List (Str × α)} {x : Str} {a : α}, (l.map (·.1)).Nodup → (x, a) ∈ l → l.lookup x = some a := fun {l} => by
  induction l with
  | nil => exact fun _ h => absurd h List.not_mem_nil
  | cons p r ih =>
    obtain ⟨y, b⟩ := p
    intro x a hn h
    rw [List.map_cons, List.nodup_cons] at hn
    rw [List.lookup_cons]
    rcases List.mem_cons.mp h with e | h
    · cases e; rw [beq_self_eq_true]
    · have : (x == y) = false := by
        cases hb : x == y with
        | false => rfl
        | true => exact absurd (by rw [← beq_iff_eq.mp hb]; exact List.mem_map_of_mem (f := (·.1)) h) hn.1
      rw [this]; exact ih hn.2 h

noncomputable def cEnv (scope : Scope) (env : Env) (L : Addr) (cl : List (Str × Addr)) : Env := { newEnv scope L env.globals (cellsFrom (L + 1) scope.names cl) env.qual none .none (some env) builtinsNs with scope := relabel scope env }
noncomputable def cPr (scope : Scope) (cenv : Env) (wr : List Addr) (acc : Addr) (h : Heap) : Addr → Obj → Prop := fun a o => h.get? a = some o ∧ a ∉ wr ∧ a ≠ acc ∧ ¬ Foot scope cenv (fun _ => none) a ∧ a ≠ builtinsNs
noncomputable def cU (m : Addr → Prop) (wr : List Addr) (acc : Addr) : Addr → Prop := fun a => m a ∨ a ∈ wr ∨ a = acc

theorem FSa.comp {scope : Scope} {cl : List (Str × Addr)} {wr : List Addr} {acc : Addr} {Γc : Gam} {s₃ : Shared} (S : CompSc sc scope) (F : FSa C sc env Pr U Γ ad s) (st : Stp C s s₃)
    (hcl : (∀ x c, (x, c) ∈ cl → env.cells.lookup x = some c) ∧ (∀ x, (x, NameKind.free) ∈ scope.names → ∃ c, cl.lookup x = some c ∧ env.cells.lookup x = some c) ∧ (cl.Pairwise fun x y => x.2 ≠ y.2) ∧ ∀ x c, (x, c) ∈ cl → (x, NameKind.free) ∈ scope.names)
    (hwr : ∀ b ∈ wr, s.heap.get? b = none ∧ ∃ o, s₃.heap.get? b = some o) (hacc : s.heap.get? acc = none ∧ ∃ o, s₃.heap.get? acc = some o)
    (hΓ : ∀ x sl, Γc.lookup x = some sl → scope.names.lookup x = some .free ∧ Γ.lookup x = some sl ∧ sl.isOwn = false) {s₄ : Shared} (hs4 : s₄ = { s₃ with heap := pushCells (s₃.heap.push { cls := .type "dict", data := .dict #[] }) scope.names }) :
    Stp C s₃ s₄ ∧ FSa C scope (cEnv scope env s₃.heap.objs.size cl) (fun a o => cPr scope (cEnv scope env s₃.heap.objs.size cl) wr acc s₄.heap a o ∧ a ≠ C.hole) (cU (mu U sc env ad) wr acc) Γc (fun _ => none) s₄ ∧
      (∀ a, Foot scope (cEnv scope env s₃.heap.objs.size cl) (fun _ => none) a → s₃.heap.get? a = none) := by
  have keep34 : ∀ b o, s₃.heap.get? b = some o → s₄.heap.get? b = some o := fun b o e => by subst hs4; exact pushCells_keeps _ _ _ _ (Heap.get?_push_of_some _ e)
  have st4 : Stp C s₃ s₄ := by subst hs4; exact Stp.all keep34
  have F₃ := F.step st
  have G := F₃.gs.step st4
  have fresh : ∀ a, s₃.heap.objs.size ≤ a → s₃.heap.get? a = none := fun a ha => by
    cases e : s₃.heap.get? a with
    | none => rfl
    | some o' => exact absurd (Heap.lt_size e) (Nat.not_lt.mpr ha)
  have hz : (s₃.heap.push { cls := .type "dict", data := .dict #[] }).objs.size = s₃.heap.objs.size + 1 := Heap.size_push ..
  have hclt : ∀ x c, (x, c) ∈ cl → c < s₃.heap.objs.size := fun x c h => by
    obtain ⟨o, e⟩ := F₃.cdom x c (hcl.1 x c h); exact Heap.lt_size e
  have hcells : (cEnv scope env s₃.heap.objs.size cl).cells = cellsFrom (s₃.heap.objs.size + 1) scope.names cl := rfl
  have hloc : (cEnv scope env s₃.heap.objs.size cl).locals = s₃.heap.objs.size := rfl
  have hown : ∀ x c, scope.names.lookup x = some .cell → (cEnv scope env s₃.heap.objs.size cl).cells.lookup x = some c → s₃.heap.objs.size + 1 ≤ c ∧ s₄.heap.IsCell c none := fun x c hx hc => by
    rw [hcells] at hc
    have hmc := mem_of_lookup hx
    have notcl : (x, c) ∉ cl := fun hm => by
      have h1 := lookup_of_mem S.nd (hcl.2.2.2 x c hm)
      rw [hx] at h1; cases h1
    have hm := mem_of_lookup hc
    refine ⟨?_, ?_⟩
    · rcases cellsFrom_mem _ _ _ _ _ hm with h | h
      · exact absurd h notcl
      · exact h.2
    · have := pushCells_new scope.names (s₃.heap.push { cls := .type "dict", data := .dict #[] }) cl x c (by rw [hz]; exact hm)
      subst hs4
      exact this.resolve_left notcl
  have hfoot : ∀ a, Foot scope (cEnv scope env s₃.heap.objs.size cl) (fun _ => none) a → s₃.heap.get? a = none := by
    rintro a (rfl | ⟨x, hx, hc⟩ | ⟨_, h⟩)
    · exact fresh _ (Nat.le_refl _)
    · exact fresh _ (Nat.le_of_succ_le (hown x a hx hc).1)
    · cases h
  have nwr : ∀ a o, s.heap.get? a = some o → a ∉ wr ∧ a ≠ acc := fun a o e => ⟨fun h => (by rw [(hwr a h).1] at e; cases e), fun h => (by rw [h, hacc.1] at e; cases e)⟩
  have hany : ∀ x c, (cEnv scope env s₃.heap.objs.size cl).cells.lookup x = some c → ((x, c) ∈ cl ∧ env.cells.lookup x = some c) ∨ (s₃.heap.objs.size + 1 ≤ c ∧ ∃ o, s₄.heap.get? c = some o) := fun x c hc => by
    rw [hcells] at hc
    rcases cellsFrom_mem _ _ _ _ _ (mem_of_lookup hc) with h | h
    · exact .inl ⟨h, hcl.1 x c h⟩
    · obtain ⟨_, o, e, _⟩ := hown x c (lookup_of_mem S.nd h.1) hc
      exact .inr ⟨h.2, o, e⟩
  refine ⟨st4, ⟨?_, ?_, fun a o h => h.1.1, ?_, fun a o h => ⟨h.1.2.2.2.2, h.2⟩, ?_, ?_, ?_, ?_, ?_, ?_, ?_, fun _ _ h => by cases h⟩, hfoot⟩
  · refine { G with udom := ?_, ub := .inl (.inl F.gs.ub), uh := .inl (.inl F.gs.uh), ubase := ?_ }
    · rintro a (h | h | rfl)
      · obtain ⟨o, e⟩ := F₃.mdom a h; exact ⟨o, keep34 _ _ e⟩
      · obtain ⟨o, e⟩ := (hwr a h).2; exact ⟨o, keep34 _ _ e⟩
      · obtain ⟨o, e⟩ := hacc.2; exact ⟨o, keep34 _ _ e⟩
    · rintro a o hb (h | h | h)
      · exact F.pt.ubase a o hb h
      · exact (nwr a o (F.gs.base a o hb)).1 h
      · exact (nwr a o (F.gs.base a o hb)).2 h
  · refine ⟨S.kind, F.ev.globals, F.ev.builtins, fun x hx => ?_, fun x hx => ?_, fun x hx => ?_, fun x hx => ?_⟩
    · exact (relabel_lookup hx).trans (by simp)
    · exact (relabel_lookup hx).trans (by simp)
    · have := relabel_lookup (env := env) hx
      show (relabel scope env).names.lookup x = _ ∨ (relabel scope env).names.lookup x = _
      rw [this]
      split
      · exact .inr rfl
      · exact .inl rfl
    · exact (relabel_lookup hx).trans (by simp)
  · intro a ha
    have h0 := hfoot a ha
    have no : ∀ o, s₃.heap.get? a ≠ some o := fun o e => by rw [h0] at e; cases e
    refine ⟨fun o h => h.1.2.2.2.1 ha, fun o h => no o (F₃.gs.base a o h), ?_, ?_, ?_⟩
    · rintro rfl; obtain ⟨o, _, _, h, _⟩ := F₃.gs.mg; exact no o h
    · rintro rfl; obtain ⟨mc, ⟨o, _, _, h, _⟩, _⟩ := F₃.gs.lim; exact no o h
    · rintro (h | h | rfl)
      · obtain ⟨o, h⟩ := F₃.mdom a h; exact no o h
      · obtain ⟨o, h⟩ := (hwr a h).2; exact no o h
      · obtain ⟨o, h⟩ := hacc.2; exact no o h
  · subst hs4
    exact ⟨_, (Heap.Ns.new s₃.heap (.type "dict")).keeps (pushCells_keeps _ _)⟩
  · intro x hx
    refine ⟨S.ncd _ (mem_of_lookup hx), ?_⟩
    obtain ⟨c, hc⟩ := Option.isSome_iff_exists.mp (cellsFrom_some scope.names (s₃.heap.objs.size + 1) cl x (.inl (mem_of_lookup hx)))
    exact ⟨c, none, hc, (hown x c hx hc).2⟩
  · intro x hx
    refine ⟨S.ncd _ (mem_of_lookup hx), ?_⟩
    obtain ⟨c, hc, _⟩ := hcl.2.1 x (mem_of_lookup hx)
    refine ⟨c, ?_⟩
    rw [hcells, cellsFrom_other _ _ _ _ (fun h => by have := lookup_of_mem S.nd h; rw [hx] at this; cases this)]
    exact hc
  · exact cellsFrom_apart _ _ _ hcl.2.2.1 fun p hp => Nat.lt_succ_of_lt (hclt p.1 p.2 hp)
  · intro x c hc
    rcases hany x c hc with ⟨h, h'⟩ | ⟨h, _⟩
    · exact ⟨Nat.ne_of_lt (hclt x c h), (F.nl x c h').2⟩
    · refine ⟨fun e => ?_, ?_, ?_⟩
      · rw [hloc] at e; rw [e] at h; exact absurd h (Nat.not_succ_le_self _)
      · rintro rfl; obtain ⟨o, _, _, h', _⟩ := F₃.gs.mb; exact absurd (Nat.lt_of_lt_of_le (Heap.lt_size h') (Nat.le_of_succ_le h)) (Nat.lt_irrefl _)
      · rintro rfl; obtain ⟨o, h'⟩ := C.holeDom _ F₃.gs.tab; exact absurd (Nat.lt_of_lt_of_le (Heap.lt_size h') (Nat.le_of_succ_le h)) (Nat.lt_irrefl _)
  · intro x c hc
    rcases hany x c hc with ⟨h, h'⟩ | ⟨_, h⟩
    · obtain ⟨o, e⟩ := F₃.cdom x c h'; exact ⟨o, keep34 _ _ e⟩
    · exact h
  · intro x sl hx
    obtain ⟨h1, h2, h3⟩ := hΓ x sl hx
    obtain ⟨v, hv, hs⟩ := F.vars x sl h2
    cases sl with
    | own _ => cases h3
    | ownT _ => cases h3
    | d d =>
      refine ⟨v, ?_, Rep.mono (fun a o ⟨q1, q2⟩ => ?_) hs⟩
      · obtain ⟨c, hc, hc'⟩ := hcl.2.1 x (mem_of_lookup h1)
        have hk : env.kindOf x ≠ some .local := by
          rcases S.free _ (mem_of_lookup h1) rfl with h | h
          · rw [F.ev.cel x h]; decide
          · rcases F.ev.fre x h with h | h <;> rw [h] <;> decide
        rcases hv with ⟨h, _⟩ | ⟨_, hcd, c', hc'', o, ho, hd⟩
        · exact absurd h hk
        · rw [hc'] at hc''; cases hc''
          refine .inr ⟨?_, hcd, c, ?_, o, ?_, hd⟩
          · have := relabel_lookup (env := env) h1
            show (relabel scope env).names.lookup x = _ ∨ (relabel scope env).names.lookup x = _
            rw [this]
            split
            · exact .inl rfl
            · exact .inr rfl
          · rw [hcells, cellsFrom_other _ _ _ _ (fun h => by have := lookup_of_mem S.nd h; rw [h1] at this; cases this)]
            exact hc
          · exact keep34 _ _ (st.keep _ _ (F.nl x c hc').2.1 (F.nl x c hc').2.2 ho)
      · have e3 := st.keep a o (fun e => q2 (.inl (e ▸ F.gs.ub))) (fun e => q2 (.inl (e ▸ F.gs.uh))) q1
        refine ⟨keep34 _ _ e3, ?_⟩
        rintro ((h | h | h) | h)
        · exact q2 h
        · exact (nwr a o q1).1 h
        · exact (nwr a o q1).2 h
        · rw [hfoot a h] at e3; cases e3
end Mine
end
-- Comp4
section
open PySem PySem.W PyProof.Rows
set_option Elab.async false
set_option linter.all false
namespace Mine
variable {C : Cx} {n : Nat} {sc : Scope} {Γ Γ' Γ'' : Gam} {env : Env} {Pr : Addr → Obj → Prop} {U m : Addr → Prop} {ad : Str → Option Addr} {s s' s₁ : Shared}

theorem notSys (g : GS C m s) : (s.heap.objs.size == sysModules) = false := by
  obtain ⟨o, _, _, e, _⟩ := g.mg
  have h1 : mainGlobals < s.heap.objs.size := Heap.lt_size e
  have h2 : sysModules < mainGlobals := by decide
  have h3 : sysModules < s.heap.objs.size := Nat.lt_trans h2 h1
  simpa using Nat.ne_of_gt h3

/-- the end of a comprehension's loop -/
structure CompEnd (C : Cx) (m : Addr → Prop) (s : Shared) (outs : List D) (acc Cl : Addr) (s' : Shared) (kd : Bool := false) : Prop where
  st : Stp C s s'
  accN : s.heap.get? acc = none
  accS : (acc == sysModules) = false
  clN : s.heap.get? Cl = none
  ne : acc ≠ Cl
  ns : ∃ mm, s'.heap.Ns Cl mm
  out : LAcc C acc outs (fun a o => vw s'.heap m a o ∧ a ≠ Cl ∧ a ≠ acc) s'.heap kd

inductive LCgRun (C : Cx) (n : Nat) (sc : Scope) (Γ : Gam) (whole target iter : Expr) (ifs : List Expr) (scope : Scope) (outs : List D) (kd : Bool) : Prop
  | mk (α : Type) (xs : List α) (g : α → D) (f : α → List D) (b : α → Bool) (t : Bool) (Γc : Gam) (Γt : α → Gam) (emit : Value → Env → Sem Unit)
    (hsrc : Src C n sc Γ iter target t (xs.map g)) (hΓ : ∀ x sl, Γc.lookup x = some sl → scope.names.lookup x = some .free ∧ Γ.lookup x = some sl ∧ sl.isOwn = false)
    (has : ∀ a ∈ xs, As C n scope Γc target t (g a) (Γt a)) (hts : ∀ a ∈ xs, Tsts C n scope (Γt a) ifs (b a)) (hem : ∀ a ∈ xs, b a = true → Emit C n scope (Γt a) emit (f a) kd)
    (hsub : ∀ a ∈ xs, ∀ x sl, Γc.lookup x = some sl → (Γt a).lookup x = some sl)
    (hden : ∀ (it acc : Value) (env : Env), (model C.prog C.w).den (.compLoop whole 0 it acc env) = (turnTree iter.pos target ifs it env (emit acc env) (.compLoop whole 0 it acc env)).onRaise (fun x => do noteFrame x env; theTreesLotGoes x))
    (hout : (xs.flatMap fun a => if b a then f a else []) = outs)
/-- a list comprehension with what it makes of its items -/
structure LCg (C : Cx) (n : Nat) (sc : Scope) (Γ : Gam) (whole target iter : Expr) (ifs : List Expr) (scope : Scope) (outs : List D) (kd : Bool) : Prop where
  scp : CompSc sc scope
  run : LCgRun C n sc Γ whole target iter ifs scope outs kd
  fold : ∀ env x, foldedSetIterable iter env x = pure x
  len : outs.length ≤ 100000
abbrev LC (C : Cx) (n : Nat) (sc : Scope) (Γ : Gam) (elt target iter : Expr) (ifs : List Expr) (rest : List Comprehension) (scope : Scope) (pos : Pos) (outs : List D) : Prop :=
  LCg C n sc Γ (.ListComp elt (⟨target, iter, ifs, 0⟩ :: rest) scope pos) target iter ifs scope outs false

theorem comp_runG {whole target iter : Expr} {ifs : List Expr} {rest : List Comprehension} {scope : Scope} {outs : List D} {kd : Bool} (h : LCg C n sc Γ whole target iter ifs scope outs kd) (hcla : clausesOf whole = ⟨target, iter, ifs, 0⟩ :: rest) {newAcc : Sem Value} {o0 : Obj}
    (hnew : ∀ (A : Around) (E : Value → Shared → Prop) (s : Shared) (Q : Value → Shared → Prop), Q (.ref s.heap.objs.size) { s with heap := s.heap.push o0 } → wpAny (model C.prog C.w) A newAcc Q E s) (hfreed : o0.isFreed = false) (haccI : ∀ V, accL C kd V o0 [])
    (hstart : ∀ (A : Around) (it acc : Value) (env : Env) (R : Result → Shared → Prop) (s : Shared), codeAny (model C.prog C.w) A (.compLoop whole 0 it acc env) R s → wpAny (model C.prog C.w) A (pyIter it) (fun it' s' => codeAny (model C.prog C.w) A (.compLoop whole 0 it' acc env) R s') (notedBy (model C.prog C.w) A env fun x s' => R (.error x) s') s → codeAny (model C.prog C.w) A (.compStart whole 0 it acc env) R s)
    (hunder : ∀ (A : Around) it acc env, A.under (.compLoop whole 0 it acc env) = A) {A : Around} {use : Option (Value → Sem Unit)} {Q : Value → Shared → Prop} {p : Pos}
    (R : Room A n) (F : FSa C sc env Pr U Γ ad s)
    (hfin : ∀ acc Cl s', CompEnd C (mu U sc env ad) s outs acc Cl s' kd → compPost (model C.prog C.w) A noE use Q (.ref acc) Cl (.ok .next) s') :
    wpAny (model C.prog C.w) A (comprehension whole scope env p newAcc false (eval iter env) use) Q noE s := by
  obtain ⟨S, ⟨α, xs, g, f, b, t, Γc, Γt, emit, hsrc, hΓ, has, hts, hem, hsub, hden, rfl⟩, hfold, hlen⟩ := h
  obtain ⟨cl, hclos, hcl⟩ := closureFor_ok F.apart S.nd (scope := scope) fun x hx => by
    rcases S.free _ hx rfl with h | h
    · obtain ⟨_, c, _, hc, _⟩ := F.cell x h; exact ⟨c, hc⟩
    · obtain ⟨_, c, hc⟩ := F.free x h; exact ⟨c, hc⟩
  refine wpAny_comprehension_free hcla (hfold env) hclos S.kind (fun x hx hl => lookup_of_mem S.nd (by rw [← hl]; exact hx)) ?_
  refine wpAny_after (hsrc.run env A Pr U ad s R F) fun x s₁ h₁ => wpAny_after h₁ fun it s₂ h₂ => ?_
  obtain ⟨st, I, fp, wr, P, Md, St, rfl, W, hst, hwr, hfp, hfx, hitem⟩ := h₂
  refine hnew _ _ _ _ ?_
  generalize hs3 : ({ s₂ with heap := s₂.heap.push o0 } : Shared) = s₃
  have st3 : Stp C s₂ s₃ := hs3 ▸ Stp.push _ _
  have st03 := st.trans st3
  have F₂ := F.step st
  have hacc3 : s₃.heap.get? s₂.heap.objs.size = some o0 := hs3 ▸ Heap.get?_push_size _ hfreed
  have hacc0 : s.heap.get? s₂.heap.objs.size = none := fresh_back F₂.gs st
  have old3 : ∀ b o, s₂.heap.get? b = some o → s₃.heap.get? b = some o := fun b o e => by rw [← hs3]; exact Heap.get?_push_of_some _ e
  have hwr3 : ∀ b ∈ wr, s.heap.get? b = none ∧ ∃ o, s₃.heap.get? b = some o := fun b hb => ⟨hwr b hb, (W.ex 0 _ hst b hb).imp fun o e => old3 b o e⟩
  have hne : ∀ b o, s₂.heap.get? b = some o → b ≠ s₂.heap.objs.size := fun b o e => Nat.ne_of_lt (Heap.lt_size e)
  have haccw : s₂.heap.objs.size ∉ wr := fun h => by
    obtain ⟨o, e⟩ := W.ex 0 _ hst _ h; exact hne _ o e rfl
  refine newEnv_comp ?_
  generalize hs4 : ({ s₃ with heap := pushCells (s₃.heap.push { cls := .type "dict", data := .dict #[] }) scope.names } : Shared) = s₄
  obtain ⟨st4, Fc, hfoot⟩ := F.comp (wr := wr) (acc := s₂.heap.objs.size) (Γc := Γc) S st03 hcl hwr3 ⟨hacc0, _, hacc3⟩ hΓ hs4.symm
  have old4 : ∀ b o, s₃.heap.get? b = some o → s₄.heap.get? b = some o := fun b o e => by rw [← hs4]; exact pushCells_keeps _ _ _ _ (Heap.get?_push_of_some _ e)
  have old24 : ∀ b o, s₂.heap.get? b = some o → s₄.heap.get? b = some o := fun b o e => old4 b o (old3 b o e)
  -- what is kept all through
  have cpr : ∀ a o, s₂.heap.get? a = some o → a ∉ wr → a ≠ builtinsNs → cPr scope (cEnv scope env s₃.heap.objs.size cl) wr s₂.heap.objs.size s₄.heap a o := fun a o e hw hb =>
    ⟨old24 a o e, hw, hne a o e, fun hf => absurd (hfoot a hf) (by rw [old3 a o e]; simp), hb⟩
  have hm2 : ∀ a, ¬ mu U sc env ad a → a ≠ builtinsNs ∧ a ≠ C.hole := fun a h => ⟨fun e => h (.inl (e ▸ F.gs.ub)), fun e => h (.inl (e ▸ F.gs.uh))⟩
  have nw : ∀ a o, s.heap.get? a = some o → a ∉ wr := fun a o e hm => by rw [hwr a hm] at e; cases e
  have hnb : builtinsNs ∉ wr ∧ C.hole ∉ wr ∧ mainGlobals ∉ wr ∧ cStatics ∉ wr := by
    refine ⟨?_, ?_, ?_, ?_⟩
    · obtain ⟨o, _, _, e, _⟩ := F.gs.mb; exact nw _ o e
    · obtain ⟨o, e⟩ := C.holeDom _ F.gs.tab; exact nw _ o e
    · obtain ⟨o, _, _, e, _⟩ := F.gs.mg; exact nw _ o e
    · obtain ⟨_, ⟨o, _, _, e, _⟩, _⟩ := F.gs.lim; exact nw _ o e
  have Dr : Drawn C (cEnv scope env s₃.heap.objs.size cl) (fun a o => cPr scope (cEnv scope env s₃.heap.objs.size cl) wr s₂.heap.objs.size s₄.heap a o ∧ a ≠ C.hole) (cU (mu U sc env ad) wr s₂.heap.objs.size) A target t (xs.map g) I fp wr P Md St := by
    refine ⟨W, fun b hb => .inr (.inl hb), hnb, fun a o h => h.1.2.1, fun x c hc hw => ?_, fun hw => ?_, fun b hb hw => ?_, fun h hk i v hP d hd => ?_⟩
    · obtain ⟨o, e⟩ := (hwr3 c hw).2
      rcases cellsFrom_mem _ _ _ _ _ (mem_of_lookup hc) with q | q
      · obtain ⟨o', e'⟩ := F.cdom x c (hcl.1 x c q); exact nw c o' e' hw
      · exact absurd (Nat.lt_of_lt_of_le (Heap.lt_size e) (Nat.le_of_succ_le q.2)) (Nat.lt_irrefl _)
    · obtain ⟨o, e⟩ := (hwr3 _ hw).2
      exact absurd (Heap.lt_size e) (Nat.lt_irrefl _)
    · obtain ⟨o, e⟩ := hfx b hb
      have := hm2 b (hfp b hb)
      exact ⟨o, cpr b o e hw this.1, this.2⟩
    · refine (hitem h (fun b o h1 h2 e => hk b o ⟨cpr b o e h1 (hm2 b h2).1, (hm2 b h2).2⟩) i v hP d hd).mono fun a o ⟨⟨q1, q2⟩, q3⟩ => ⟨⟨cpr a o q1 q3 (hm2 a q2).1, (hm2 a q2).2⟩, ?_⟩
      rintro (h | h | h)
      · exact q2 h
      · exact q3 h
      · exact hne a o q1 h
  have K : AccOK C (cEnv scope env s₃.heap.objs.size cl) (fun a o => cPr scope (cEnv scope env s₃.heap.objs.size cl) wr s₂.heap.objs.size s₄.heap a o ∧ a ≠ C.hole) (cU (mu U sc env ad) wr s₂.heap.objs.size) s₂.heap.objs.size := by
    have ex : ∀ a o, s₂.heap.get? a = some o → s₂.heap.objs.size ≠ a := fun a o e => Ne.symm (hne a o e)
    refine ⟨.inr (.inr rfl), ?_, ?_, ?_, ?_, fun o h => h.1.2.2.1 rfl, fun x c hc => ?_, ?_⟩
    · obtain ⟨o, _, _, e, _⟩ := F₂.gs.mb; exact ex _ o e
    · obtain ⟨o, e⟩ := C.holeDom _ F₂.gs.tab; exact ex _ o e
    · obtain ⟨o, _, _, e, _⟩ := F₂.gs.mg; exact ex _ o e
    · obtain ⟨_, ⟨o, _, _, e, _⟩, _⟩ := F₂.gs.lim; exact ex _ o e
    · rcases cellsFrom_mem _ _ _ _ _ (mem_of_lookup hc) with q | q
      · obtain ⟨o', e'⟩ := F₂.cdom x c (hcl.1 x c q); exact hne c o' e'
      · exact Nat.ne_of_gt (Nat.lt_of_lt_of_le (Heap.lt_size hacc3) (Nat.le_of_succ_le q.2))
    · exact Nat.ne_of_gt (Heap.lt_size hacc3)
  have L0 : LAcc C s₂.heap.objs.size [] (vw s₄.heap (mu (cU (mu U sc env ad) wr s₂.heap.objs.size) scope (cEnv scope env s₃.heap.objs.size cl) (fun _ => none))) s₄.heap kd := ⟨o0, old4 _ _ hacc3, haccI _⟩
  have hst4 : St 0 s₄.heap := W.T.frame _ _ _ hst fun b _ o e => old24 b o e
  have loop : ∀ s₅, s₅ = s₄ → codeAny (model C.prog C.w) A (.compLoop whole 0 (.ref I) (.ref s₂.heap.objs.size) (cEnv scope env s₃.heap.objs.size cl)) (compPost (model C.prog C.w) A noE use Q (.ref s₂.heap.objs.size) s₃.heap.objs.size) s₅ := by
    rintro s₅ rfl
    refine codeAny_mono (codeAny_compLoop (xs := xs) (g := g) (f := f) (b := b) (out0 := []) hden has hts hem hsub (hunder A) R Fc K haccw L0 Dr hst4 (U0 := fun a => mu U sc env ad a ∨ a = s₂.heap.objs.size) (fun a h => h.elim .inl fun h => .inr (.inr h)) ?_ (.inl (.inl F.gs.ub)) (.inl (.inl F.gs.uh)) (by simpa using hlen)) fun r s₆ ⟨hr, ad₆, F₆, L₆⟩ => ?_
    · rintro b hb (h | h)
      · obtain ⟨o, e⟩ := F.mdom b h; exact nw b o e hb
      · exact haccw (h ▸ hb)
    · subst hr
      have keep06 : ∀ a o, a ≠ builtinsNs → a ≠ C.hole → s.heap.get? a = some o → s₆.heap.get? a = some o := fun a o h1 h2 e => F₆.pr a o ⟨⟨st4.keep _ _ h1 h2 (st03.keep _ _ h1 h2 e), nw a o e, fun q => (by rw [q, hacc0] at e; cases e), fun hf => (by have := hfoot a hf; rw [st03.keep _ _ h1 h2 e] at this; cases this), h1⟩, h2⟩
      refine hfin _ _ s₆ ⟨Stp.ofGS F.gs F₆.gs keep06, hacc0, notSys F₂.gs, ?_, Nat.ne_of_lt (Heap.lt_size hacc3), F₆.ns, ?_⟩
      · exact fresh_back (F.step st03).gs st03
      · obtain ⟨oo, h1, h2⟩ := L₆
        rw [List.nil_append] at h2
        refine ⟨oo, h1, h2.mono ?_⟩
        rintro a o ⟨q1, q2⟩
        exact ⟨⟨q1, fun h => q2 (.inl (.inl h))⟩, fun h => q2 (.inr (.inl h)), fun h => q2 (.inl (.inr (.inr h)))⟩
  exact hstart _ _ _ _ _ _ (loop _ rfl) (W.self 0 _ _ _ hst4 (loop _ rfl))

theorem comp_run {elt target iter : Expr} {ifs : List Expr} {rest : List Comprehension} {scope : Scope} {pos : Pos} {outs : List D} (h : LC C n sc Γ elt target iter ifs rest scope pos outs) {A : Around} {use : Option (Value → Sem Unit)} {Q : Value → Shared → Prop} {p : Pos}
    (R : Room A n) (F : FSa C sc env Pr U Γ ad s)
    (hfin : ∀ acc Cl s', CompEnd C (mu U sc env ad) s outs acc Cl s' → compPost (model C.prog C.w) A noE use Q (.ref acc) Cl (.ok .next) s') :
    wpAny (model C.prog C.w) A (comprehension (.ListComp elt (⟨target, iter, ifs, 0⟩ :: rest) scope pos) scope env p (newList []) false (eval iter env) use) Q noE s :=
  comp_runG h rfl (o0 := seqObj "list" #[] 0) (fun A E s Q h => wpAny_newObj_type h) rfl (fun V => ⟨#[], 0, rfl, .nil⟩) (fun _ _ _ _ _ _ h1 h2 => codeAny_compStart_list h1 h2) (fun _ _ _ _ => rfl) R F hfin

theorem Ev.lc {elt target iter ifs rest scope pos outs} (h : LC C n sc Γ elt target iter ifs rest scope pos outs) : Ev C n sc Γ (.ListComp elt (⟨target, iter, ifs, 0⟩ :: rest) scope pos) (.list outs) := .mk fun env A Pr U ad s R F => by
  rw [eval_ListComp]
  refine comp_run (use := Option.none) h R F fun acc Cl s' E => ?_
  obtain ⟨mm, hm⟩ := E.ns
  refine ⟨mm, hm, fun h' hs => ?_⟩
  obtain ⟨_, h1, vs, k, rfl, h2⟩ := E.out
  have g' := F.gs.step E.st
  have hclb : Cl ≠ builtinsNs ∧ Cl ≠ C.hole := by
    refine ⟨?_, ?_⟩
    · rintro rfl; obtain ⟨o, _, _, e, _⟩ := F.gs.mb; rw [E.clN] at e; cases e
    · rintro rfl; obtain ⟨o, e⟩ := C.holeDom _ F.gs.tab; rw [E.clN] at e; cases e
  have hk : ∀ a o, a ≠ Cl → s'.heap.get? a = some o → h'.get? a = some o := fun a o q e => (hs.2 a q).trans e
  have hst : Stp C s { s' with heap := h' } := by
    have : StpX C (· = Cl) s' { s' with heap := h' } := by
      obtain ⟨o, ho, hf⟩ := Ns.notFields hm
      exact StpX.one (tk := s'.toks) ho hf hclb.1 hclb.2 hs
    exact ⟨fun a o q1 q2 e => this.keep a o q1 q2 (fun q => by rw [q, E.clN] at e; cases e) (E.st.keep a o q1 q2 e), fun m q => this.bns m (E.st.bns m q), fun q => this.tab (E.st.tab q), E.st.gens, E.st.os⟩
  refine ⟨hst, Rep.list (o := seqObj "list" vs k) ⟨hk _ _ E.ne h1, fun q => ?_⟩ rfl rfl (h2.mono fun a o ⟨⟨q1, q2⟩, q3, q4⟩ => ⟨hk a o q3 q1, q2⟩) ⟨rfl, rfl⟩⟩
  obtain ⟨o, e⟩ := F.mdom acc q; rw [E.accN] at e; cases e

theorem Ex1.lc {x px elt target iter ifs rest scope cpos pos outs} (h : LC C n sc Γ elt target iter ifs rest scope cpos outs) (hx : sc.names.lookup x = some .local ∨ sc.names.lookup x = some .cell := by first | exact Or.inl rfl | exact Or.inr rfl)
    (hs : ∀ env : Env, EnvOK sc env → swapsWith (.ListComp elt (⟨target, iter, ifs, 0⟩ :: rest) scope cpos) (some (.Name x px)) pos.line env = pure true) :
    Ex1 C n sc Γ (.Assign [.Name x px] (.ListComp elt (⟨target, iter, ifs, 0⟩ :: rest) scope cpos) pos) ((x, .d (.list outs)) :: Γ) := .mk fun env A Pr U ad s R F => by
  rw [exec_Assign_Name_used _ _ _ _ (hs env F.ev)]
  refine wpAny_bind (wpAny_standAt (wpAny_bind ?_))
  show wpAny _ A (do let _ ← comprehension (.ListComp elt (⟨target, iter, ifs, 0⟩ :: rest) scope cpos) scope env _ (newList []) false (eval iter env) (some (PySem.assign (.Name x px) env))) _ _ s
  refine wpAny_bind (wpAny_mono (comp_run (use := some (PySem.assign (.Name x px) env)) (Q := fun _ s' => ∃ ad', FSa C sc env Pr U ((x, .d (.list outs)) :: Γ) ad' s') h R F fun acc Cl s' E => ?_) (fun _ s' hq => wpAny_pure (wpAny_pure ⟨rfl, hq⟩)) fun _ _ e => e)
  have F' := F.step E.st
  obtain ⟨_, h1, vs, k, rfl, h2⟩ := E.out
  show wpAny _ A (PySem.assign (.Name x px) env (.ref acc)) _ _ _
  refine wpAny_assign_Name (wpAny_mono (store F' (.ref acc) hx) (fun _ s₂ ⟨X, hS⟩ => ?_) fun _ _ h => h)
  obtain ⟨X0, hX0, hsame⟩ := hS.same
  have hX0F : Foot sc env ad X0 := (hS.hX X0 (by rw [hX0])).elim .inl fun h => .inr (.inl h)
  have hCX : Cl ≠ X0 := fun e => by
    obtain ⟨o, q⟩ := F.mdom X0 (.inr hX0F); rw [← e, E.clN] at q; cases q
  have hAX : acc ≠ X0 := fun e => by
    obtain ⟨o, q⟩ := F.mdom X0 (.inr hX0F); rw [← e, E.accN] at q; cases q
  obtain ⟨mm, hm⟩ := E.ns
  refine ⟨mm, hm.sameBut hsame hCX, fun h' hs => ⟨upd ad x none, ?_⟩⟩
  -- from s to the end
  have hclb : Cl ≠ builtinsNs ∧ Cl ≠ C.hole := by
    refine ⟨?_, ?_⟩
    · rintro rfl; obtain ⟨o, _, _, e, _⟩ := F.gs.mb; rw [E.clN] at e; cases e
    · rintro rfl; obtain ⟨o, e⟩ := C.holeDom _ F.gs.tab; rw [E.clN] at e; cases e
  have stC : StpX C (· = Cl) s₂ { s₂ with heap := h' } := by
    obtain ⟨o, ho, hf⟩ := Ns.notFields (hm.sameBut hsame hCX)
    exact StpX.one (tk := s₂.toks) ho hf hclb.1 hclb.2 hs
  have stAll : StpX C X s { s₂ with heap := h' } :=
    ⟨fun a o q1 q2 q3 e => stC.keep a o q1 q2 (fun q => by rw [q, E.clN] at e; cases e) (hS.st.keep a o q1 q2 q3 (E.st.keep a o q1 q2 e)), fun m q => stC.bns m (hS.st.bns m (E.st.bns m q)), fun q => stC.tab (hS.st.tab (E.st.tab q)), hS.st.gens.trans E.st.gens, hS.st.os.trans E.st.os⟩
  have nCl : ∀ a, (∃ o, s.heap.get? a = some o) → a ≠ Cl := fun a ⟨o, e⟩ q => by rw [q, E.clN] at e; cases e
  have vmove : ∀ y w, Var env s₂.heap y w → Var env h' y w := fun y w hv => hv.keep fun a o ha e => by
    refine (hs.2 a (nCl a ?_)).trans e
    rcases ha with rfl | ⟨z, hz⟩
    · obtain ⟨_, o, _, _, e, _⟩ := F.ns; exact ⟨o, e⟩
    · exact F.cdom z a hz
  refine F.rebind (s' := { s₂ with heap := h' }) stAll hS.hX ?_ ?_ (vmove _ _ hS.var) (fun y w hy hv => vmove y w (hS.other y w hy (hv.keep fun a o ha e => ?_))) (fun _ q => by cases q) ?_ rfl
  · obtain ⟨mm', hm'⟩ := hS.ns
    refine ⟨mm', hm'.sameBut hs ?_⟩
    obtain ⟨_, o, _, _, e, _⟩ := F.ns; exact nCl _ ⟨o, e⟩
  · intro y hy
    obtain ⟨c, w, hc, hi⟩ := hS.cell y hy
    exact ⟨c, w, hc, hi.sameBut hs (nCl c (F.cdom y c hc))⟩
  · rcases ha with rfl | ⟨z, hz⟩
    · have := F.footNe (.inl rfl); exact E.st.keep _ _ this.1 this.2 e
    · exact E.st.keep _ _ (F.nl z a hz).2.1 (F.nl z a hz).2.2 e
  · refine Rep.list (o := seqObj "list" vs k) ⟨(hs.2 acc E.ne).trans ((hsame.2 acc hAX).trans h1), fun q => ?_⟩ rfl rfl (h2.mono fun a o ⟨⟨q1, q2⟩, q3, q4⟩ => ⟨(hs.2 a q3).trans ((hsame.2 a fun e => q2 (.inr (e ▸ hX0F))).trans q1), fun q => q2 (mu_upd_none q)⟩) ⟨rfl, rfl⟩
    obtain ⟨o, e⟩ := F.mdom acc (mu_upd_none q); rw [E.accN] at e; cases e
end Mine
end
-- Stm
section
open PySem PySem.W PyProof.Rows
set_option Elab.async false
set_option linter.all false
namespace Mine
variable {C : Cx} {n : Nat} {sc : Scope} {Γ Γ' Γ'' : Gam} {env : Env} {Pr : Addr → Obj → Prop} {U m : Addr → Prop} {ad : Str → Option Addr} {s s' s₁ : Shared}

theorem ExN.ofEx1 {st} (h : Ex1 C n sc Γ st Γ') : ExN C n sc Γ [st] Γ' := ExN.cons h ExN.nil

theorem Ex1.ite {t b o pos c} (ht : Tst C n sc Γ t c) (h1 : c = true → ExN C n sc Γ b Γ') (h2 : c = false → ExN C n sc Γ o Γ') : Ex1 C n sc Γ (.If t b o pos) Γ' := .mk fun env A Pr U ad s R F =>
  wpAny_If (wpAny_after (ht.run env A Pr U ad s R F) fun c' s₁ ⟨st, e⟩ => by
    subst e
    cases c' with
    | true => exact (h1 rfl).run env A Pr U ad s₁ R (F.step st)
    | false => exact (h2 rfl).run env A Pr U ad s₁ R (F.step st))
/-- an if without else that returns or goes on -/
theorem ExT.ite {t b pos c ss d} (ht : Tst C n sc Γ t c) (h1 : c = true → ExT C n sc Γ b d) (h2 : c = false → ExT C n sc Γ ss d) : ExT C n sc Γ (.If t b [] pos :: ss) d := .mk fun env A Pr U ad s R F =>
  wpAny_execs_cons (wpAny_If (wpAny_after (ht.run env A Pr U ad s R F) fun c' s₁ ⟨st, e⟩ => by
    subst e
    cases c' with
    | true => exact wpAny_after ((h1 rfl).run env A Pr U ad s₁ R (F.step st)) fun f s₂ h => (by obtain ⟨v, rfl, hv⟩ := h.val; exact ⟨h.gs, h.pr, v, rfl, hv⟩)
    | false => exact wpAny_execs_nil ((h2 rfl).run env A Pr U ad s₁ R (F.step st))))
/-- an if that returns both ways -/
theorem ExT.ite2 {t b o pos c ss d} (ht : Tst C n sc Γ t c) (h1 : c = true → ExT C n sc Γ b d) (h2 : c = false → ExT C n sc Γ o d) : ExT C n sc Γ (.If t b o pos :: ss) d := .mk fun env A Pr U ad s R F =>
  wpAny_execs_cons (wpAny_If (wpAny_after (ht.run env A Pr U ad s R F) fun c' s₁ ⟨st, e⟩ => by
    subst e
    cases c' with
    | true => exact wpAny_after ((h1 rfl).run env A Pr U ad s₁ R (F.step st)) fun f s₂ h => (by obtain ⟨v, rfl, hv⟩ := h.val; exact ⟨h.gs, h.pr, v, rfl, hv⟩)
    | false => exact wpAny_after ((h2 rfl).run env A Pr U ad s₁ R (F.step st)) fun f s₂ h => (by obtain ⟨v, rfl, hv⟩ := h.val; exact ⟨h.gs, h.pr, v, rfl, hv⟩)))

theorem Ex1.aug {x px op e pos a b d} (hx : Γ.lookup x = some (.d a)) (h : Ev C n sc Γ e b) (hop : VOp2 C n (inplaceOp op) a b d) (hk : sc.names.lookup x = some .local ∨ sc.names.lookup x = some .cell := by first | exact Or.inl rfl | exact Or.inr rfl) :
    Ex1 C n sc Γ (.AugAssign (.Name x px) op e pos) ((x, .d d) :: Γ) := .mk fun env A Pr U ad s R F => by
  obtain ⟨v, hv, hs⟩ := F.vars x _ hx
  refine wpAny_AugAssign_Name (loadVar F.ev hv (wpAny_after (h.run env A Pr U ad s R F) fun w s₁ ⟨st, r⟩ => wpAny_after (hop.run A _ s₁ v w R (F.step st).pt (Rep.mono (F.pt.up st) hs) r) fun y s₂ ⟨st₂, r₂⟩ => ?_))
  have F₂ := (F.step st).step st₂
  exact wpAny_mono (store F₂ y hk) (fun _ s₃ ⟨X, hS⟩ => ⟨rfl, _, F₂.stored hS r₂⟩) fun _ _ h => h

theorem Ex1.while {test body pos} (N : Nat) (Γs : Nat → Gam) (h0 : Γs 0 = Γ) (ht : ∀ i, i < N → Tst C n sc (Γs i) test true) (hf : Tst C n sc (Γs N) test false) (hb : ∀ i, i < N → ExN C n sc (Γs i) body (Γs (i + 1))) :
    Ex1 C n sc Γ (.While test body [] pos) (Γs N) := .mk fun env A Pr U ad s R F => by
  subst h0
  refine wpAny_While (codeAny_whileLoop (fun k s' => ∃ i ad', i ≤ N ∧ k = N - i ∧ FSa C sc env Pr U (Γs i) ad' s') ?_ (N - 0) ⟨0, ad, Nat.zero_le _, rfl, F⟩)
  rintro k s' ⟨i, ad', hi, rfl, F'⟩
  by_cases hlt : i < N
  · refine wpAny_after ((ht i hlt).run env A Pr U ad' s' R F') fun c s₂ ⟨st, e⟩ => ?_
    subst e
    exact wpAny_after ((hb i hlt).run env A Pr U ad' s₂ R (F'.step st)) fun f s₃ ⟨e, ad₃, F₃⟩ => by
      subst e; exact ⟨_, by omega, i + 1, ad₃, hlt, rfl, F₃⟩
  · have : i = N := by omega
    subst this
    refine wpAny_after (hf.run env A Pr U ad' s' R F') fun c s₂ ⟨st, e⟩ => ?_
    subst e
    exact wpAny_execs_nil ⟨rfl, ad', F'.step st⟩

/-- an owned object has been changed -/
theorem FSa.mutateG (F : FSa C sc env Pr U Γ ad s) {x : Str} {sl₀ sl' : Slot} {a : Addr} {o₀ : Obj} {h' : Heap} {tk : Nat} (hx : Γ.lookup x = some sl₀) (ha : ad x = some a) (hg₀ : s.heap.get? a = some o₀) (hf₀ : ∀ vs, o₀.data ≠ .fields vs) (hs : Heap.SameBut a s.heap h')
    (hown : sl'.isOwn = true) (hsl' : ∀ v, SlotOK C s.heap (mu U sc env ad) ad x v sl₀ → (∀ b o, vw s.heap (mu U sc env ad) b o → vw h' (mu U sc env ad) b o) → SlotOK C h' (mu U sc env ad) ad x v sl') : FSa C sc env Pr U ((x, sl') :: Γ) ad { s with heap := h', toks := tk } := by
  have hf : Foot sc env ad a := .inr (.inr ⟨x, ha⟩)
  obtain ⟨o1, o2, o3, _⟩ := F.own x a ha
  obtain ⟨v₀, hv₀, hsl₀⟩ := F.vars x _ hx
  have ff := F.foot a hf
  have fn := F.footNe hf
  have st : StpX C (· = a) s { s with heap := h', toks := tk } := StpX.one hg₀ hf₀ fn.1 fn.2 hs
  have hup : ∀ b o, vw s.heap (mu U sc env ad) b o → vw h' (mu U sc env ad) b o := fun b o ⟨q1, q2⟩ => ⟨(hs.2 b fun e => q2 (.inr (e ▸ hf))).trans q1, q2⟩
  have keep : ∀ b o, b ≠ a → s.heap.get? b = some o → h'.get? b = some o := fun b o q e => (hs.2 b q).trans e
  refine ⟨F.gs.stepX st fun b hb => (by subst hb; exact ⟨ff.2.2.1, ff.2.2.2.1, ff.2.1, ff.2.2.2.2⟩), F.ev, fun b o h => keep b o (fun e => ff.1 o (e ▸ h)) (F.pr b o h), F.foot, F.prD, ?_, ?_, F.free, F.apart, F.nl, ?_, ?_, ?_⟩
  · obtain ⟨m, hm⟩ := F.ns; exact ⟨m, hm.sameBut hs (Ne.symm o1)⟩
  · intro y hy
    obtain ⟨h1, c, v, hc, hi⟩ := F.cell y hy
    exact ⟨h1, c, v, hc, hi.sameBut hs (o2 y c hc)⟩
  · intro y c hc
    obtain ⟨o, e⟩ := F.cdom y c hc
    exact ⟨o, keep _ _ (o2 y c hc) e⟩
  · intro y sl hy
    have vk : ∀ y w, Var env s.heap y w → Var env h' y w := fun y w hv => hv.keep fun b o hb e => keep b o (by
      rcases hb with rfl | ⟨z, hz⟩
      · exact Ne.symm o1
      · exact o2 z b hz) e
    rw [List.lookup_cons] at hy
    by_cases hxy : y = x
    · subst hxy
      simp only [beq_self_eq_true, Option.some.injEq] at hy
      subst hy
      exact ⟨_, vk _ _ hv₀, hsl' _ hsl₀ hup⟩
    · have : (y == x) = false := by simpa using hxy
      rw [this] at hy
      obtain ⟨w, hw, hsl⟩ := F.vars y sl hy
      refine ⟨w, vk _ _ hw, ?_⟩
      exact hsl.map hup (fun _ e => e) (fun b o h1 h2 => keep _ _ (fun e => hxy (o3 y (e ▸ h1))) h2)
  · intro y b hy
    obtain ⟨h1, h2, h3, sl, h4, h5⟩ := F.own y b hy
    refine ⟨h1, h2, h3, ?_⟩
    by_cases hxy : y = x
    · subst hxy; exact ⟨sl', by rw [List.lookup_cons, beq_self_eq_true], hown⟩
    · have : (y == x) = false := by simpa using hxy
      exact ⟨sl, by rw [List.lookup_cons, this]; exact h4, h5⟩
/-- an owned list is changed -/
theorem FSa.mutate (F : FSa C sc env Pr U Γ ad s) {x : Str} {ds ds' : List D} {a : Addr} {vs' : Array Value} {k' : Nat} {h' : Heap} {tk : Nat} (hx : Γ.lookup x = some (.own ds)) (ha : ad x = some a) (hg : h'.get? a = some (seqObj "list" vs' k')) (hs : Heap.SameBut a s.heap h')
    (hr : RepL C (vw s.heap (mu U sc env ad)) vs'.toList ds') : FSa C sc env Pr U ((x, .own ds') :: Γ) ad { s with heap := h', toks := tk } := by
  obtain ⟨v₀, hv₀, a₀, vs₀, k₀, rfl, ha₀, hg₀, _⟩ := F.vars x _ hx
  rw [ha] at ha₀; cases ha₀
  exact F.mutateG (sl' := .own ds') hx ha hg₀ (fun vs e => by cases e) hs rfl fun v ⟨a1, _, _, e, h1, _, _⟩ hup => ⟨a, vs', k', by rw [e, Option.some.inj (h1.symm.trans ha)], ha, hg, hr.mono hup⟩
theorem interactive_fn (ev : EnvOK sc env) : interactive env = false := by
  unfold interactive; rw [ev.kind]; rfl

theorem Obj.mapSeq_list (vs : Array Value) (k : Nat) (f : Array Value → Array Value) : ∃ k', (seqObj "list" vs k).mapSeq f = seqObj "list" (f vs) k' := by
  unfold Obj.mapSeq seqObj
  exact ⟨_, rfl⟩
theorem updSame {a : Addr} {vs : Array Value} {k : Nat} (f : Array Value → Array Value) (hg : s.heap.get? a = some (seqObj "list" vs k)) : ∃ k', (s.heap.update a (Obj.mapSeq f)).get? a = some (seqObj "list" (f vs) k') := by
  obtain ⟨k', e⟩ := Obj.mapSeq_list vs k f
  exact ⟨k', by rw [← e]; exact Heap.get?_update_self _ hg (by rw [e]; rfl)⟩

/-- a method of an owned list -/
theorem ownMethod {x : Str} {px apos pos : Pos} {ds : List D} {name : Str} {id : String} {args : List Expr} {A : Around} {Q : Value → Shared → Prop} {E : Value → Shared → Prop} (F : FSa C sc env Pr U Γ ad s) (hx : Γ.lookup x = some (.own ds)) (slot : PySem.Slot "list" name id) (hty : typeOf (.builtin id) = pure (.type "method_descriptor"))
    (hbase : attributeBase (.Name x px) name env (eval (.Name x px) env) = eval (.Name x px) env)
    (hfew : ((backTo pos (starEach args env)).all (fun x => !x.1) && (backToKw pos (keywordEach [] env)).all (fun x => x.1.isSome) && decide (args.length + ([] : List Keyword).length + (if ([] : List Keyword).isEmpty then 0 else 1) < 30)) = true) (hline : (apos.endLine == pos.line) = true) (hd : (x == ("__debug__" : Str)) = false)
    (h : ∀ a vs k, ad x = some a → s.heap.get? a = some (seqObj "list" vs k) → RepL C (vw s.heap (mu U sc env ad)) vs.toList ds → wpAny (model C.prog C.w) A (callWith pos (.builtin id) [.ref a] (backTo pos (starEach args env)) []) Q E s) :
    wpAny (model C.prog C.w) A (eval (.Call (.Attribute (.Name x px) name apos) args [] pos) env) Q E s := by
  obtain ⟨v, hv, a, vs, k, rfl, ha, hg, hr⟩ := F.vars x _ hx
  refine wpAny_Call_method hbase hfew hline PySem.F.plainAttrs_list slot hty ?_
  exact wpAny_Name (loadVar F.ev hv ⟨⟨_, hg, rfl⟩, fun b e => by cases e; exact ⟨_, hg, rfl⟩, h a vs k ha hg hr⟩) hd

theorem Ex1.append {x px apos cpos pos e ds d} (hx : Γ.lookup x = some (.own ds)) (h : Ev C n sc Γ e d) (hlen : ds.length ≤ 100000 := by first | decide | lia)
    (hbase : ∀ env, attributeBase (.Name x px) "append" env (eval (.Name x px) env) = eval (.Name x px) env := by intro _; rfl)
    (hse : ∀ env, backTo cpos (starEach [e] env) = [(false, eval e env)] := by intro _; rfl) (hline : (apos.endLine == cpos.line) = true := by rfl) (hd : (x == ("__debug__" : Str)) = false := by decide)
    (hs : ∀ env, swapsWith (.Call (.Attribute (.Name x px) "append" apos) [e] [] cpos) Option.none pos.line env = pure false := by intro _; rfl) :
    Ex1 C n sc Γ (.Expr (.Call (.Attribute (.Name x px) "append" apos) [e] [] cpos) pos) ((x, .own (ds ++ [d])) :: Γ) := .mk fun env A Pr U ad s R F => by
  refine wpAny_Expr (ownMethod F hx PySem.F.slot_list_append PySem.F.type_list_append (hbase env) (by rw [hse]; rfl) hline hd fun a vs k ha hg hr => ?_) (interactive_fn F.ev) (hs env)
  rw [hse]
  refine PySem.P.append_list (wpAny_after (h.run env A Pr U ad s R F) fun v s₁ ⟨st, r⟩ => ?_)
  have F₁ := F.step st
  have fn := F.footNe (.inr (.inr ⟨x, ha⟩))
  have hg₁ := st.keep _ _ fn.1 fn.2 hg
  have hr₁ := hr.mono (F.pt.up st)
  have hvl : vs.size = ds.length := by rw [← Array.length_toList, hr.length]
  obtain ⟨k', hk'⟩ := updSame (fun xs => xs.push v) hg₁
  refine ⟨vs, k, by rw [hvl, sizeLine_eq]; lia, hg₁, rfl, ad, ?_⟩
  exact F₁.mutate (tk := s₁.toks) hx ha hk' (Heap.SameBut.update ..) (by rw [Array.toList_push]; exact hr₁.snoc r)
end Mine
end
-- Stm2
section
open PySem PySem.W PyProof.Rows
set_option Elab.async false
set_option linter.all false
namespace Mine
variable {C : Cx} {n : Nat} {sc : Scope} {Γ Γ' Γ'' : Gam} {env : Env} {Pr : Addr → Obj → Prop} {U m : Addr → Prop} {ad : Str → Option Addr} {s s' s₁ : Shared}

theorem Ex1.extend {x px apos cpos pos e ds d} (hx : Γ.lookup x = some (.own ds)) (h : Ev C n sc Γ e (.list d)) (hlen : ds.length + d.length ≤ 100000 := by first | decide | lia)
    (hbase : ∀ env, attributeBase (.Name x px) "extend" env (eval (.Name x px) env) = eval (.Name x px) env := by intro _; rfl)
    (hse : ∀ env, backTo cpos (starEach [e] env) = [(false, eval e env)] := by intro _; rfl) (hline : (apos.endLine == cpos.line) = true := by rfl) (hd : (x == ("__debug__" : Str)) = false := by decide)
    (hs : ∀ env, swapsWith (.Call (.Attribute (.Name x px) "extend" apos) [e] [] cpos) Option.none pos.line env = pure false := by intro _; rfl) :
    Ex1 C n sc Γ (.Expr (.Call (.Attribute (.Name x px) "extend" apos) [e] [] cpos) pos) ((x, .own (ds ++ d)) :: Γ) := .mk fun env A Pr U ad s R F => by
  refine wpAny_Expr (ownMethod F hx PySem.F.slot_list_extend PySem.F.type_list_extend (hbase env) (by rw [hse]; rfl) hline hd fun a vs k ha hg hr => ?_) (interactive_fn F.ev) (hs env)
  rw [hse]
  refine PySem.P.extend_list (wpAny_after (h.run env A Pr U ad s R F) fun v s₁ ⟨st, r⟩ => ?_)
  have F₁ := F.step st
  have fn := F.footNe (.inr (.inr ⟨x, ha⟩))
  have hg₁ := st.keep _ _ fn.1 fn.2 hg
  have hr₁ := hr.mono (F.pt.up st)
  have hvl : vs.size = ds.length := by rw [← Array.length_toList, hr.length]
  cases r using Rep.caseList with
  | @list b o ws k2 hv hc hd hr2 hx2 =>
    have hwl : ws.size = d.length := by rw [← Array.length_toList, hr2.length]
    have hb : s₁.heap.get? b = some (seqObj "list" ws k2) := by
      rw [hv.1]
      obtain ⟨c, dd, dt, sl⟩ := o
      obtain ⟨h1, h2⟩ := hx2
      simp only at hc hd h1 h2
      subst hc hd h1 h2; rfl
    obtain ⟨k', hk'⟩ := updSame (fun xs => xs ++ ws) hg₁
    refine ⟨b, vs, ws, k, k2, by rw [hvl, sizeLine_eq]; lia, by rw [hvl, hwl, sizeLine_eq]; lia, ?_, rfl, hg₁, hb, rfl, ad, ?_⟩
    · unfold Builtin.List.listTooLong
      simp
      intro _
      rw [sizeLine_eq]
      lia
    · exact F₁.mutate (tk := s₁.toks) hx ha hk' (Heap.SameBut.update ..) (by rw [Array.toList_append]; exact hr₁.append hr2)

theorem RepL.set {V : View} {vs : List Value} {ds : List D} (q : RepL C V vs ds) : ∀ {v d}, Rep C V v d → ∀ k, RepL C V (vs.set k v) (ds.set k d) := by
  induction q using RepL.ind with
  | nil => intro v d _ k; exact .nil
  | cons a b ih =>
    intro v d h k
    cases k with
    | zero => exact .cons h b
    | succ k => exact .cons a (ih h k)

/-- an expression that may change owned things -/
structure EvP (C : Cx) (n : Nat) (sc : Scope) (Γ : Gam) (e : Expr) (d : D) (Γ' : Gam) : Prop where
  run : ∀ env A Pr U ad s, Room A n → FSa C sc env Pr U Γ ad s → wpAny (model C.prog C.w) A (eval e env) (fun v s' => FSa C sc env Pr U Γ' ad s' ∧ Rep C (vw s'.heap (mu U sc env ad)) v d ∧ (∀ a o, vw s.heap (mu U sc env ad) a o → vw s'.heap (mu U sc env ad) a o)) noE s
structure EvLP (C : Cx) (n : Nat) (sc : Scope) (Γ : Gam) (es : List Expr) (ds : List D) (Γ' : Gam) : Prop where
  run : ∀ env A Pr U ad s pos, Room A n → FSa C sc env Pr U Γ ad s → wpAny (model C.prog C.w) A (spliced (backTo pos (starEach es env))) (fun vs s' => FSa C sc env Pr U Γ' ad s' ∧ RepL C (vw s'.heap (mu U sc env ad)) vs ds ∧ (∀ a o, vw s.heap (mu U sc env ad) a o → vw s'.heap (mu U sc env ad) a o)) noE s
theorem Ev.p {e d} (h : Ev C n sc Γ e d) : EvP C n sc Γ e d Γ := .mk fun env A Pr U ad s R F => wpAny_after (h.run env A Pr U ad s R F) fun v s₁ ⟨st, r⟩ => ⟨F.step st, r, F.pt.up st⟩
theorem EvLP.nil : EvLP C n sc Γ [] [] Γ := .mk fun _ _ _ _ _ _ _ _ F => args_nil ⟨F, .nil, fun _ _ h => h⟩
theorem EvLP.cons {e es d ds} (h : EvP C n sc Γ e d Γ') (hs : EvLP C n sc Γ' es ds Γ'') (he : ∀ env, starEach (e :: es) env = (false, eval e env) :: starEach es env := by intro _; rfl) : EvLP C n sc Γ (e :: es) (d :: ds) Γ'' := .mk fun env A Pr U ad s pos R F =>
  args_cons (wpAny_after (h.run env A Pr U ad s R F) fun v s₁ ⟨F₁, r₁, u₁⟩ => wpAny_after (hs.run env A Pr U ad s₁ pos R F₁) fun vs s₂ ⟨F₂, r₂, u₂⟩ =>
    ⟨F₂, .cons (r₁.mono u₂) r₂, fun a o h => u₂ a o (u₁ a o h)⟩) (he _)

theorem EvP.pop {x px apos cpos e ds i d} (hx : Γ.lookup x = some (.own ds)) (h : Ev C n sc Γ e (.int i)) (h0 : 0 ≤ i) (hi : ds[i.toNat]? = some d) (hlen : ds.length ≤ 100000)
    (hbase : ∀ env, attributeBase (.Name x px) "pop" env (eval (.Name x px) env) = eval (.Name x px) env := by intro _; rfl)
    (hse : ∀ env, backTo cpos (starEach [e] env) = [(false, eval e env)] := by intro _; rfl) (hline : (apos.endLine == cpos.line) = true := by rfl) (hd : (x == ("__debug__" : Str)) = false := by decide) :
    EvP C n sc Γ (.Call (.Attribute (.Name x px) "pop" apos) [e] [] cpos) d ((x, .own (ds.eraseIdx i.toNat)) :: Γ) := .mk fun env A Pr U ad s R F => by
  refine ownMethod F hx PySem.F.slot_list_pop PySem.F.type_list_pop (hbase env) (by rw [hse]; rfl) hline hd fun a vs k ha hg hr => ?_
  rw [hse]
  refine PySem.P.pop_at_list (wpAny_after (h.run env A Pr U ad s R F) fun v s₁ ⟨st, r⟩ => ?_)
  cases r using Rep.caseInt with
  | int t =>
    have F₁ := F.step st
    have hf : Foot sc env ad a := .inr (.inr ⟨x, ha⟩)
    have fn := F.footNe hf
    have hg₁ := st.keep _ _ fn.1 fn.2 hg
    have hr₁ := hr.mono (F.pt.up st)
    have hvl : vs.size = ds.length := by rw [← Array.length_toList, hr.length]
    have hlt : i.toNat < ds.length := (List.getElem?_eq_some_iff.mp hi).1
    obtain ⟨y, hy, ry⟩ := hr₁.get hi
    obtain ⟨k', hk'⟩ := updSame (fun xs => xs.eraseIdxIfInBounds i.toNat) hg₁
    have hmut : RepL C (vw s₁.heap (mu U sc env ad)) (vs.eraseIdxIfInBounds i.toNat).toList (ds.eraseIdx i.toNat) := by
      have e1 : (vs.eraseIdxIfInBounds i.toNat).toList = vs.toList.take i.toNat ++ vs.toList.drop (i.toNat + 1) := by
        rw [← List.eraseIdx_eq_take_drop_succ, Array.toList_eraseIdxIfInBounds]
      rw [e1, List.eraseIdx_eq_take_drop_succ]
      exact (hr₁.take _).append (hr₁.drop _)
    have F₂ := F₁.mutate (tk := s₁.toks) hx ha hk' (Heap.SameBut.update ..) hmut
    have up2 : ∀ b o, vw s₁.heap (mu U sc env ad) b o → vw (s₁.heap.update a (Obj.mapSeq fun xs => xs.eraseIdxIfInBounds i.toNat)) (mu U sc env ad) b o := fun b o ⟨q1, q2⟩ =>
      ⟨((Heap.SameBut.update s₁.heap a _).2 b fun e => q2 (.inr (e ▸ hf))).trans q1, q2⟩
    refine ⟨vs, k, i, t, i.toNat, y, by rw [hvl, sizeLine_eq]; lia, rfl, hg₁, ?_, ?_, by simpa using hy, F₂, ry.mono up2, fun b o q => up2 b o (F.pt.up st b o q)⟩
    · simp only [Builtin.List.listFitsIndex]
      have : i < 100000 := by lia
      simp; lia
    · unfold seqIndex?
      have h1 : ¬ i < 0 := by lia
      simp only [h1, if_false]
      have h2 : i < (vs.size : Int) := by lia
      simp [h0, h2]
/-- x = [..], with pops in it -/
theorem Ex1.ownP {x px es lpos pos ds} (h : EvLP C n sc Γ es ds Γ') (hx : sc.names.lookup x = some .local ∨ sc.names.lookup x = some .cell := by first | exact Or.inl rfl | exact Or.inr rfl)
    (hs : ∀ env, swapsWith (.List es lpos) (some (.Name x px)) pos.line env = pure false := by intro _; rfl) (hsz : ds.length ≤ 100 := by first | decide | simp) :
    Ex1 C n sc Γ (.Assign [.Name x px] (.List es lpos) pos) ((x, .own ds) :: Γ') := .mk fun env A Pr U ad s R F => by
  refine wpAny_Assign_Name (List_ (wpAny_after (h.run env A Pr U ad s lpos R F) fun vs s₁ ⟨F₁, r, _⟩ => ?_)) (hs env)
  refine wpAny_newObj_type ?_ (by show vs.toArray.size ≤ sizeLine; rw [List.size_toArray, r.length, sizeLine_eq]; lia)
  generalize hs2 : ({ s₁ with heap := s₁.heap.push { cls := .type "list", data := .seq vs.toArray } } : Shared) = s₂
  have st₂ : Stp C s₁ s₂ := hs2 ▸ Stp.push _ _
  have F₂ := F₁.step st₂
  have hnew : s₂.heap.get? s₁.heap.objs.size = some (seqObj "list" vs.toArray 0) := hs2 ▸ Heap.get?_push_size _ rfl
  have hold : s₁.heap.get? s₁.heap.objs.size = none := by
    cases hq : s₁.heap.get? s₁.heap.objs.size with
    | none => rfl
    | some o => exact absurd (Heap.lt_size hq) (Nat.lt_irrefl _)
  refine wpAny_mono (store F₂ _ hx) (fun _ s₃ ⟨X, hS⟩ => ⟨rfl, upd ad x (some s₁.heap.objs.size), ?_⟩) fun _ _ h => h
  obtain ⟨X0, hX0, hsame⟩ := hS.same
  have hne : s₁.heap.objs.size ≠ X0 := by
    rintro e
    have := hS.hX X0 (by rw [hX0])
    rcases this with h | ⟨y, hy, hc⟩
    · obtain ⟨m, o, _, _, ho, _⟩ := F₁.ns
      rw [← h, ← e, hold] at ho; cases ho
    · obtain ⟨o, ho⟩ := F₁.cdom y _ hc
      rw [← e, hold] at ho; cases ho
  have st₃ : StpX C X s₁ s₃ := st₂.x.trans hS.st
  have hadx : ∀ a, some s₁.heap.objs.size = some a → s₁.heap.get? a = none := fun a h => by cases h; exact hold
  have hother : ∀ y w, y ≠ x → Var env s₁.heap y w → Var env s₃.heap y w := fun y w hy hv => hS.other y w hy (hv.keep fun a o _ e => by
    rw [← hs2]; exact Heap.get?_push_of_some _ e)
  have hXF : ∀ a, X a → Foot sc env ad a := fun a h => (hS.hX a h).elim .inl fun h => .inr (.inl h)
  exact F₁.rebind st₃ hS.hX hS.ns hS.cell hS.var hother hadx
    ⟨_, vs.toArray, 0, rfl, by simp [upd], (hsame.2 _ hne).trans hnew, by simpa using r.mono (up_rebind F₁ st₃ hXF hadx)⟩ rfl

/-- x = f(.., a pop, ..) -/
theorem Ex1.callP {x px f e es cpos pos fa o fd ds d} (hf : Ev C n sc Γ f (.raw (.ref fa))) (ha : EvLP C n sc Γ (e :: es) ds Γ') (hb : C.base fa o) (hd : o.data = .func fd) (h : VCall C n (.ref fa) ds d)
    (hx : sc.names.lookup x = some .local ∨ sc.names.lookup x = some .cell := by first | exact Or.inl rfl | exact Or.inr rfl)
    (hs : ∀ env, swapsWith (.Call f (e :: es) [] cpos) (some (.Name x px)) pos.line env = pure false := by intro _; rfl)
    (he : ∀ env, eval (.Call f (e :: es) [] cpos) env = (do callWith cpos (← eval f env) [] (backTo cpos (starEach (e :: es) env)) (backToKw cpos (keywordEach [] env))) := by intro _; rfl)
    (hse : ∀ env, starEach (e :: es) env = (false, eval e env) :: starEach es env := by intro _; rfl) :
    Ex1 C n sc Γ (.Assign [.Name x px] (.Call f (e :: es) [] cpos) pos) ((x, .d d) :: Γ') := .mk fun env A Pr U ad s R F => by
  refine wpAny_Assign_Name (Call_ (wpAny_after (hf.run env A Pr U ad s R F) fun fv s₁ ⟨st₁, r₁⟩ => ?_) (he env)) (hs env)
  cases r₁ using Rep.caseRaw
  refine callWith_def (o := o) hd (wpAny_after (ha.run env A Pr U ad s₁ cpos R (F.step st₁)) fun vs s₂ ⟨F₂, r₂, _⟩ =>
    ⟨F₂.gs.base _ _ hb, wpAny_after (h.run A _ s₂ vs R F₂.pt r₂) fun v s₃ ⟨st₃, r₃⟩ => ?_⟩) (hse env)
  exact wpAny_mono (store (F₂.step st₃) v hx) (fun _ s₄ ⟨X, hS⟩ => ⟨rfl, _, (F₂.step st₃).stored hS r₃⟩) fun _ _ h => h

/-- x[i] = e, the list owned -/
theorem Ex1.setItem {x px i spos e pos ds k d} (hx : Γ.lookup x = some (.own ds)) (he : Ev C n sc Γ e d) (hi : Ev C n sc Γ i (.int k)) (h0 : 0 ≤ k) (hk : k < (ds.length : Int)) (hlen : ds.length ≤ 100000) (hd : (x == ("__debug__" : Str)) = false := by decide)
    (hs : ∀ env, swapsWith e (some (.Subscript (.Name x px) i spos)) pos.line env = pure false := by intro _; rfl) :
    Ex1 C n sc Γ (.Assign [.Subscript (.Name x px) i spos] e pos) ((x, .own (ds.set k.toNat d)) :: Γ) := .mk fun env A Pr U ad s R F => by
  refine wpAny_Assign_Subscript (wpAny_after (he.run env A Pr U ad s R F) fun v s₁ ⟨st₁, r₁⟩ => ?_) (hs env)
  have F₁ := F.step st₁
  obtain ⟨w, hv, a, vs, q, rfl, ha, hg, hr⟩ := F₁.vars x _ hx
  refine wpAny_Name (loadVar F₁.ev hv (wpAny_after (hi.run env A Pr U ad s₁ R F₁) fun iv s₂ ⟨st₂, r₂⟩ => ?_)) hd
  cases r₂ using Rep.caseInt with
  | int t =>
    have F₂ := F₁.step st₂
    have fn := F.footNe (.inr (.inr ⟨x, ha⟩))
    have hg₂ := st₂.keep _ _ fn.1 fn.2 hg
    have hvl : vs.size = ds.length := by rw [← Array.length_toList, hr.length]
    refine ki_setAt hg₂ h0 (by lia) (by lia) ?_
    obtain ⟨k', hk'⟩ := updSame (fun xs => xs.setIfInBounds k.toNat v) hg₂
    refine ⟨rfl, ad, F₂.mutate (tk := s₂.toks) hx ha hk' (Heap.SameBut.update ..) ?_⟩
    rw [Array.toList_setIfInBounds]
    exact (hr.mono (F₁.pt.up st₂)).set (r₁.mono (F₁.pt.up st₂)) _

/-- x[i] op= e, the list owned, plain items -/
theorem Ex1.augItem {x px i spos op e pos ds k a₀ b d} (hx : Γ.lookup x = some (.own ds)) (hi : Ev C n sc Γ i (.int k)) (he : Ev C n sc Γ e b) (hop : VOp2 C n (inplaceOp op) a₀ b d) (h0 : 0 ≤ k) (hk : ds[k.toNat]? = some a₀) (hlen : ds.length ≤ 100000) (hd : (x == ("__debug__" : Str)) = false := by decide)
    (hau : ∀ ov iv new, augStore i ov iv new = (do holding [new, ov, iv] (PySem.setItem ov iv new); release [new, ov, iv] []; pure .next) := by intro _ _ _; rfl) :
    Ex1 C n sc Γ (.AugAssign (.Subscript (.Name x px) i spos) op e pos) ((x, .own (ds.set k.toNat d)) :: Γ) := .mk fun env A Pr U ad s R F => by
  obtain ⟨w, hv, a, vs, q, rfl, ha, hg, hr⟩ := F.vars x _ hx
  have fn := F.footNe (.inr (.inr ⟨x, ha⟩))
  have hvl : vs.size = ds.length := by rw [← Array.length_toList, hr.length]
  have hlt : k.toNat < ds.length := (List.getElem?_eq_some_iff.mp hk).1
  refine wpAny_AugAssign_SubscriptAny (wpAny_Name (loadVar F.ev hv (wpAny_after (hi.run env A Pr U ad s R F) fun iv s₁ ⟨st₁, r₁⟩ => ?_)) hd) hau
  cases r₁ using Rep.caseInt with
  | int t =>
    have F₁ := F.step st₁
    have hg₁ := st₁.keep _ _ fn.1 fn.2 hg
    have hr₁ := hr.mono (F.pt.up st₁)
    obtain ⟨y, hy, ry⟩ := hr₁.get hk
    refine wpAny_getItem_list ⟨_, hg₁, rfl, _, rfl⟩ h0 (by lia) (x := y) (by simpa using hy) ?_
    refine wpAny_after (he.run env A Pr U ad s₁ R F₁) fun ev s₂ ⟨st₂, r₂⟩ => ?_
    have F₂ := F₁.step st₂
    refine wpAny_after (hop.run A _ s₂ y ev R F₂.pt (ry.mono (F₁.pt.up st₂)) r₂) fun nv s₃ ⟨st₃, r₃⟩ => ?_
    have F₃ := F₂.step st₃
    have hg₃ := st₃.keep _ _ fn.1 fn.2 (st₂.keep _ _ fn.1 fn.2 hg₁)
    refine ki_setAt hg₃ h0 (by lia) (by lia) ?_
    obtain ⟨k', hk'⟩ := updSame (fun xs => xs.setIfInBounds k.toNat nv) hg₃
    refine ⟨rfl, ad, F₃.mutate (tk := s₃.toks) hx ha hk' (Heap.SameBut.update ..) ?_⟩
    rw [Array.toList_setIfInBounds]
    exact ((hr₁.mono (F₁.pt.up st₂)).mono (F₂.pt.up st₃)).set r₃ _

end Mine
end
-- Srcs2
section
open PySem PySem.W PyProof.Rows
set_option Elab.async false
set_option linter.all false
namespace Mine
variable {C : Cx} {n : Nat} {sc : Scope} {Γ Γ' Γ'' : Gam} {env : Env} {Pr : Addr → Obj → Prop} {U m : Addr → Prop} {ad : Str → Option Addr} {s s' s₁ : Shared}

theorem Made.ofWalksU {A : Around} {elts : List Expr} {tk : Nat} {tpos : Pos} {ds : List D} {I : Addr} {fp wr : List Addr} {Pt : Nat → Array Value → Prop} {St : Nat → Heap → Prop} {Mid : Nat → Addr → Heap → Prop} {s₂ : Shared}
    (W : WalksU C.prog C.w A I fp wr ds.length Pt St Mid) (g₁ : GS C m s₁) (st₁ : Stp C s s₁) (st₂ : Stp C s₁ s₂) (hst : St 0 s₂.heap)
    (hwr : ∀ b ∈ wr, s₁.heap.objs.size ≤ b) (hI : ∀ i h, St i h → ∀ b ∈ wr, ∃ o, h.get? b = some o ∧ ¬ isCode o)
    (hfp : ∀ b ∈ fp, b ∉ wr → ¬ m b ∧ ∃ o, s₂.heap.get? b = some o)
    (hitem : ∀ i vals, Pt i vals → ∀ d, ds[i]? = some d → ∃ l, d = .tup l ∧ RepL C (vw s₁.heap m) vals.toList l) : Made C A m true (.Tuple elts tk tpos) ds s (.ref I) s₂ := by
  have fresh1 : ∀ b, s₁.heap.objs.size ≤ b → s₁.heap.get? b = none := fun b hb => by
    cases e : s₁.heap.get? b with
    | none => rfl
    | some o' => exact absurd (Heap.lt_size e) (Nat.not_lt.mpr hb)
  have fresh0 : ∀ b, s₁.heap.get? b = none → s.heap.get? b = none := fun b hb => by
    cases e : s.heap.get? b with
    | none => rfl
    | some o' =>
      by_cases h1 : b = builtinsNs
      · obtain ⟨o, _, _, q, _⟩ := g₁.mb; rw [← h1, hb] at q; cases q
      · by_cases h2 : b = C.hole
        · obtain ⟨o, q⟩ := C.holeDom _ g₁.tab; rw [← h2, hb] at q; cases q
        · rw [st₁.keep _ _ h1 h2 e] at hb; cases hb
  refine ⟨st₁.trans st₂, I, fp, wr, _, _, St, rfl, ⟨KTurns.ofWalksU W, fun i s Q E hst hQ => W.self i s Q E hst hQ, fun i h hst b hb => (hI i h hst b hb).imp fun o q => q.1, fun i h hst b hb o ho => ?_⟩, hst, fun b hb => fresh0 b (fresh1 b (hwr b hb)), ?_, ?_, ?_⟩
  · obtain ⟨o', q1, q2⟩ := hI i h hst b hb
    rw [ho] at q1; cases q1; exact q2
  · intro b hb
    by_cases hw : b ∈ wr
    · exact g₁.fresh' (fresh1 b (hwr b hw))
    · exact (hfp b hb hw).1
  · intro b hb
    by_cases hw : b ∈ wr
    · obtain ⟨o, q, _⟩ := hI 0 _ hst b hw; exact ⟨o, q⟩
    · exact (hfp b hb hw).2
  · rintro h hk i v ⟨T, vals, rfl, hP, hT⟩ d hd
    obtain ⟨l, rfl, r⟩ := hitem i vals hP d hd
    refine ⟨T, vals, l, rfl, rfl, hT, r.mono fun b o q => ⟨g₁.up st₂ b o q, fun hw => ?_⟩⟩
    have := q.1; rw [fresh1 b (hwr b hw)] at this; cases this

noncomputable def nats (k : Nat) : List D := (List.range k).map fun (i : Nat) => D.int (i : Int)

theorem Src.range {f e pos k target} (hf : Ev C n sc Γ f (.raw (.type "range"))) (he : Ev C n sc Γ e (.int k)) (h0 : 0 ≤ k) (h1 : k ≤ 1000000)
    (hc : ∀ env, eval (.Call f [e] [] pos) env = (do callWith pos (← eval f env) [] (backTo pos (starEach [e] env)) (backToKw pos (keywordEach [] env))) := by intro _; rfl)
    (hs : ∀ env, starEach [e] env = (false, eval e env) :: starEach [] env := by intro _; rfl) : Src C n sc Γ (.Call f [e] [] pos) target false (nats k.toNat) := .mk fun env A Pr U ad s R F => by
  refine Call_ (wpAny_after (hf.run env A Pr U ad s R F) fun fv s₁ ⟨st₁, r₁⟩ => ?_) (hc env)
  cases r₁ using Rep.caseRaw
  have F₁ := F.step st₁
  refine PySem.Pv.callWith_type1 (args_cons (wpAny_after (he.run env A Pr U ad s₁ R F₁) fun v s₂ ⟨st₂, r₂⟩ => args_nil ?_) (hs env)) (hs env) rfl
  cases r₂ using Rep.caseInt with
  | int t =>
    have F₂ := F₁.step st₂
    refine call_range_1 ?_
    generalize hs3 : ({ s₂ with heap := s₂.heap.push { cls := .type "range", data := .fields #[.int 0 s₂.toks, .int k t, .int 1 (s₂.toks + 1)] }, toks := s₂.toks + 1 + 1 } : Shared) = s₃
    have st₃ : Stp C s₂ s₃ := hs3 ▸ Stp.push _ _
    have F₃ := F₂.step st₃
    have hr : IsRange s₃.heap s₂.heap.objs.size 0 k 1 s₂.toks t (s₂.toks + 1) := hs3 ▸ Heap.get?_push_size _ rfl
    have hsz : Builtin.Range.rangeSize 0 k 1 = k := by
      unfold Builtin.Range.rangeSize
      simp only [show ((1 : Int) > 0) = True from by simp, if_true]
      split
      · lia
      · lia
    refine wpAny_pyIter_range hr (small_one (by lia) (by lia) (by lia) (by lia)) ?_
    rw [hsz]
    generalize hs4 : ({ s₃ with heap := s₃.heap.push { cls := .type "range_iterator", data := .fields #[rawInt 0, rawInt k, rawInt 1] } } : Shared) = s₄
    have st₄ : Stp C s₃ s₄ := hs4 ▸ Stp.push _ _
    have hI : IsRangeIter s₄.heap s₃.heap.objs.size 0 k 1 := hs4 ▸ Heap.get?_push_size _ rfl
    have hlen : (nats k.toNat).length = k.toNat := by simp [nats]
    refine Made.ofWalks (t := false) (hlen ▸ Walks.range R.1 s₃.heap.objs.size 0 1 k.toNat) F₃.pt ((st₁.trans st₂).trans st₃) st₄ rfl ?_ ?_ ?_ ?_
    · have : ((k.toNat : Nat) : Int) = k := by lia
      rw [hlen, this]; simpa using hI
    · intro i h hi
      exact ⟨_, _, _, hi, rfl, rfl, by decide, by decide⟩
    · intro b hb hbI
      simp only [List.mem_singleton] at hb
      exact absurd hb hbI
    · rintro i v ⟨tt, rfl⟩ d hd
      simp only [nats, List.getElem?_map, Option.map_eq_some_iff] at hd
      obtain ⟨j, hj, rfl⟩ := hd
      have : j = i := by
        have := List.getElem?_range (n := k.toNat) (i := i)
        rw [List.getElem?_eq_some_iff] at hj
        obtain ⟨h1, h2⟩ := hj
        simpa using h2.symm
      subst this
      refine ⟨?_, fun h => by cases h⟩
      have e : (0 : Int) + (j : Int) * 1 = j := by lia
      rw [e]
      exact .int _ _

noncomputable def enum (ds : List D) : List D := ds.zipIdx.map fun p => .tup [.int (p.2 : Int), p.1]

theorem Src.enum {f e pos ds elts tk tpos} (hf : Ev C n sc Γ f (.raw (.type "enumerate"))) (he : Ev C n sc Γ e (.list ds))
    (hc : ∀ env, eval (.Call f [e] [] pos) env = (do callWith pos (← eval f env) [] (backTo pos (starEach [e] env)) (backToKw pos (keywordEach [] env))) := by intro _; rfl)
    (hs : ∀ env, starEach [e] env = (false, eval e env) :: starEach [] env := by intro _; rfl) : Src C n sc Γ (.Call f [e] [] pos) (.Tuple elts tk tpos) true (Mine.enum ds) := .mk fun env A Pr U ad s R F => by
  refine Call_ (wpAny_after (hf.run env A Pr U ad s R F) fun fv s₁ ⟨st₁, r₁⟩ => ?_) (hc env)
  cases r₁ using Rep.caseRaw
  have F₁ := F.step st₁
  refine PySem.Pv.callWith_type1 (args_cons (wpAny_after (he.run env A Pr U ad s₁ R F₁) fun v s₂ ⟨st₂, r₂⟩ => args_nil ?_) (hs env)) (hs env) rfl
  cases r₂ using Rep.caseList with
  | @list a o vs k hv hc hd hr _ =>
    have F₂ := F₁.step st₂
    have hl : s₂.heap.IsList a vs := ⟨o, hv.1, hc, k, hd⟩
    refine call_enumerate_list hl fun h' he' hit hz hk => ?_
    have st₃ : Stp C s₂ { s₂ with heap := h' } := Stp.all (tk := s₂.toks) hk
    refine wpAny_pyIter_enum he' ?_
    have hl' : h'.IsList a vs := ⟨o, hk _ _ hv.1, hc, k, hd⟩
    have halt : a < s₂.heap.objs.size := Heap.lt_size hv.1
    have hlen : (Mine.enum ds).length = vs.size := by rw [← Array.length_toList, hr.length]; simp [Mine.enum]
    refine Made.ofWalksU (s₁ := s₂) (hlen ▸ (WalksT.enumerate R.1 (s₂.heap.objs.size + 1) s₂.heap.objs.size a (Nat.succ_ne_self _) (Nat.ne_of_lt (Nat.lt_succ_of_lt halt)) (Nat.ne_of_lt halt) vs).toU) F₂.pt (st₁.trans st₂) st₃ ⟨⟨_, he'⟩, hit, hl'⟩ ?_ ?_ ?_ ?_
    · intro b hb
      simp only [List.mem_cons, List.not_mem_nil, or_false] at hb
      rcases hb with rfl | rfl
      · exact Nat.le_succ _
      · exact Nat.le_refl _
    · rintro i h ⟨⟨old, q1⟩, ⟨o2, q2, q3, _⟩, _⟩ b hb
      simp only [List.mem_cons, List.not_mem_nil, or_false] at hb
      rcases hb with rfl | rfl
      · exact ⟨_, q1, fun q => by have := q.1; simp at this⟩
      · exact ⟨_, q2, fun q => by have := q.1; rw [q3] at this; simp at this⟩
    · intro b hb hw
      simp only [List.mem_cons, List.not_mem_nil, or_false, not_or] at hb hw
      rcases hb with rfl | rfl | rfl
      · exact absurd rfl hw.1
      · exact absurd rfl hw.2
      · exact ⟨hv.2, o, hk _ _ hv.1⟩
    · rintro i vals ⟨t, x, hx, rfl⟩ d hd'
      simp only [Mine.enum, List.getElem?_map, Option.map_eq_some_iff, List.getElem?_zipIdx] at hd'
      obtain ⟨p, ⟨d', hd'', rfl⟩, rfl⟩ := hd'
      obtain ⟨d2, e1, e2⟩ := hr.get' (show vs.toList[i]? = some x by simpa using hx)
      rw [hd''] at e1; cases e1
      refine ⟨_, rfl, ?_⟩
      simp only [Nat.zero_add]
      exact .cons (.int _ _) (.cons e2 .nil)

theorem Src.zip {f e1 e2 pos xs ys elts tk tpos} (hf : Ev C n sc Γ f (.raw (.type "zip"))) (he1 : Ev C n sc Γ e1 (.list xs)) (he2 : Ev C n sc Γ e2 (.list ys))
    (hc : ∀ env, eval (.Call f [e1, e2] [] pos) env = (do callWith pos (← eval f env) [] (backTo pos (starEach [e1, e2] env)) (backToKw pos (keywordEach [] env))) := by intro _; rfl)
    (hs : ∀ env, starEach [e1, e2] env = (false, eval e1 env) :: starEach [e2] env := by intro _; rfl) (hs2 : ∀ env, starEach [e2] env = (false, eval e2 env) :: starEach [] env := by intro _; rfl) : Src C n sc Γ (.Call f [e1, e2] [] pos) (.Tuple elts tk tpos) true ((xs.zip ys).map fun p => .tup [p.1, p.2]) := .mk fun env A Pr U ad s R F => by
  refine Call_ (wpAny_after (hf.run env A Pr U ad s R F) fun fv s₁ ⟨st₁, r₁⟩ => ?_) (hc env)
  cases r₁ using Rep.caseRaw
  have F₁ := F.step st₁
  refine PySem.Pv.callWith_type1 (args_cons (wpAny_after (he1.run env A Pr U ad s₁ R F₁) fun v s₂ ⟨st₂, r₂⟩ => args_cons (wpAny_after (he2.run env A Pr U ad s₂ R (F₁.step st₂)) fun w s₃ ⟨st₃, r₃⟩ => args_nil ?_) (hs2 env)) (hs env)) (hs env) (by rw [hs2]; rfl)
  have F₂ := F₁.step st₂
  have F₃ := F₂.step st₃
  have r₂' := r₂.mono (F₂.pt.up st₃)
  cases r₂' using Rep.caseList with
  | @list a o vs k hv hc hd hr _ =>
  cases r₃ using Rep.caseList with
  | @list a' o' vs' k' hv' hc' hd' hr' _ =>
    have hl : s₃.heap.IsList a vs := ⟨o, hv.1, hc, k, hd⟩
    have hl' : s₃.heap.IsList a' vs' := ⟨o', hv'.1, hc', k', hd'⟩
    refine call_zip_2 hl hl' fun h' hz hti hto hi1 hi2 hsz hk => ?_
    have st₄ : Stp C s₃ { s₃ with heap := h' } := Stp.all (tk := s₃.toks) hk
    refine wpAny_pyIter_zip hz ?_
    have ha : a < s₃.heap.objs.size := Heap.lt_size hv.1
    have ha' : a' < s₃.heap.objs.size := Heap.lt_size hv'.1
    have hx : h'.IsList a vs := ⟨o, hk _ _ hv.1, hc, k, hd⟩
    have hy : h'.IsList a' vs' := ⟨o', hk _ _ hv'.1, hc', k', hd'⟩
    have hlen : ((xs.zip ys).map fun p => D.tup [p.1, p.2]).length = min vs.size vs'.size := by
      rw [← Array.length_toList, hr.length, ← Array.length_toList, hr'.length]; simp
    have Da : ZipApart (s₃.heap.objs.size + 4) (s₃.heap.objs.size + 2) (s₃.heap.objs.size + 3) s₃.heap.objs.size (s₃.heap.objs.size + 1) a a' := by
      generalize hq : s₃.heap.objs.size = q at ha ha'
      refine ⟨?_, ?_, ?_, ?_, ?_, ?_, ?_, ?_, ?_, ?_, ?_, ?_, ?_, ?_, ?_, ?_, ?_, ?_⟩ <;> exact (by intro e; revert ha ha'; simp only [Addr] at *; lia)
    refine Made.ofWalksU (s₁ := s₃) (hlen ▸ (WalksT.zip2 R.1 _ _ _ _ _ _ _ Da vs vs').toU) F₃.pt ((st₁.trans st₂).trans st₃) st₄ ⟨hz, hti, ⟨_, _, hto⟩, hi1, hi2, hx, hy⟩ ?_ ?_ ?_ ?_
    · intro b hb
      simp only [List.mem_cons, List.not_mem_nil, or_false] at hb
      rcases hb with rfl | rfl | rfl | rfl
      · exact Nat.le_add_right _ _
      · exact Nat.le_add_right _ _
      · exact Nat.le_refl _
      · exact Nat.le_add_right _ _
    · rintro i h ⟨q1, q2, ⟨_, _, q3⟩, ⟨o4, q4, c4, _⟩, ⟨o5, q5, c5, _⟩, _⟩ b hb
      simp only [List.mem_cons, List.not_mem_nil, or_false] at hb
      rcases hb with rfl | rfl | rfl | rfl
      · exact ⟨_, q1, fun q => by have := q.1; simp at this⟩
      · exact ⟨_, q3, fun q => by have := q.1; simp at this⟩
      · exact ⟨_, q4, fun q => by have := q.1; rw [c4] at this; simp at this⟩
      · exact ⟨_, q5, fun q => by have := q.1; rw [c5] at this; simp at this⟩
    · intro b hb hw
      simp only [List.mem_cons, List.not_mem_nil, or_false, not_or] at hb hw
      rcases hb with rfl | rfl | rfl | rfl | rfl | rfl | rfl
      · exact absurd rfl hw.1
      · exact ⟨fun hm => (by obtain ⟨o, e⟩ := F₃.mdom _ hm; exact absurd (Heap.lt_size e) (Nat.not_lt.mpr (Nat.le_add_right _ _))), _, hti⟩
      · exact absurd rfl hw.2.1
      · exact absurd rfl hw.2.2.1
      · exact absurd rfl hw.2.2.2
      · exact ⟨hv.2, o, hk _ _ hv.1⟩
      · exact ⟨hv'.2, o', hk _ _ hv'.1⟩
    · rintro i vals ⟨x, y, hx, hy, rfl⟩ d hd2
      simp only [List.getElem?_map, Option.map_eq_some_iff] at hd2
      obtain ⟨p, hp, rfl⟩ := hd2
      rw [List.getElem?_zip_eq_some] at hp
      obtain ⟨d1, e1, f1⟩ := hr.get' (show vs.toList[i]? = some x by simpa using hx)
      obtain ⟨d2, e2, f2⟩ := hr'.get' (show vs'.toList[i]? = some y by simpa using hy)
      rw [hp.1] at e1; cases e1
      rw [hp.2] at e2; cases e2
      exact ⟨_, rfl, .cons f1 (.cons f2 .nil)⟩
end Mine
end
-- Bi
section
open PySem PySem.W PyProof.Rows
set_option Elab.async false
set_option linter.all false
namespace Mine
variable {C : Cx} {n : Nat} {sc : Scope} {Γ Γ' Γ'' : Gam} {env : Env} {Pr : Addr → Obj → Prop} {U m : Addr → Prop} {ad : Str → Option Addr} {s s' s₁ : Shared}

theorem allNews {L : Addr} {mm : Str → Option Value} (hL : s.heap.Ns L mm) : ∃ news, Fr {} L s.heap mm ∧ News {} L s.heap news ∧ ∀ a o, a ≠ L → s.heap.get? a = some o → (a, o) ∈ news := by
  refine ⟨(List.range s.heap.objs.size).filterMap fun a => if a = L then none else (s.heap.get? a).map fun o => (a, o), ⟨hL, fun b o e => by simp [Heap.get?] at e, Nat.zero_le _⟩, ?_, ?_⟩
  · intro p hp
    obtain ⟨a, ha, e⟩ := List.mem_filterMap.mp hp
    split at e
    · cases e
    · rename_i hne
      obtain ⟨o, ho, rfl⟩ := Option.map_eq_some_iff.mp e
      exact ⟨ho, hne, by simp [Heap.get?]⟩
  · intro a o hne e
    refine List.mem_filterMap.mpr ⟨a, List.mem_range.mpr (Heap.lt_size e), ?_⟩
    rw [if_neg hne, e]; rfl
/-- all but L is kept -/
noncomputable def MostL (L : Addr) (s s' : Shared) : Prop := ∃ h' tk, s' = { s with heap := h', toks := tk } ∧ ∀ a o, a ≠ L → s.heap.get? a = some o → h'.get? a = some o
theorem MostL.of {L : Addr} {h' : Heap} {tk : Nat} {news} (hall : ∀ a o, a ≠ L → s.heap.get? a = some o → (a, o) ∈ news) (N : News {} L h' news) : MostL L s { s with heap := h', toks := tk } := ⟨h', tk, rfl, fun a o h e => N.get (hall a o h e)⟩
theorem MostL.two {L2 : Addr} (h1 : MostL builtinsNs s s') (h2 : MostL L2 s s') (hL2 : L2 ≠ builtinsNs) : Stp C s s' := by
  obtain ⟨h', tk, rfl, k1⟩ := h1
  obtain ⟨h'', tk', e, k2⟩ := h2
  have e : h' = h'' := congrArg Shared.heap e
  subst e
  exact Stp.all fun a o e => by
    by_cases h : a = builtinsNs
    · exact k2 a o (fun q => hL2 (q ▸ h)) e
    · exact k1 a o h e
/-- a kit's rule of a frame, used with two dummies -/
theorem twice {α : Type} {A₁ : Around} (g : GS C m s) {t : Sem α} {P : α → Shared → Prop} (run : ∀ (L : Addr) (mm : Str → Option Value) (news : List (Addr × Obj)), (L = builtinsNs ∨ L = mainGlobals) → s.heap.Ns L mm → Fr {} L s.heap mm → News {} L s.heap news → (∀ a o, a ≠ L → s.heap.get? a = some o → (a, o) ∈ news) →
    wpAny (model C.prog C.w) A₁ t (fun v s' => MostL L s s' ∧ P v s') noE s) : wpAny (model C.prog C.w) A₁ t (fun v s' => Stp C s s' ∧ P v s') noE s := by
  obtain ⟨n1, F1, N1, a1⟩ := allNews g.mb
  obtain ⟨n2, F2, N2, a2⟩ := allNews g.mg
  exact wpAny_mono (wpAny_both (run builtinsNs _ n1 (.inl rfl) g.mb F1 N1 a1) (run mainGlobals _ n2 (.inr rfl) g.mg F2 N2 a2)) (fun v s' q => ⟨MostL.two q.1.1 q.2.1 (by decide), q.1.2⟩) fun _ _ h => h.1

theorem repInts {V : View} {vs : List Value} {ns : List Int} (h : RepL C V vs (ns.map .int)) : IntsAre vs ns := by
  induction ns generalizing vs with
  | nil => cases h using RepL.caseNil; exact .nil
  | cons n ns ih =>
    cases (show RepL C V vs (.int n :: ns.map .int) from h) using RepL.caseCons with
    | cons r q => cases r using Rep.caseInt; exact .cons _ _ (ih q)
theorem repStrs {V : View} {vs : List Value} {ns : List Str} (h : RepL C V vs (ns.map .str)) : StrsAre vs ns := by
  induction ns generalizing vs with
  | nil => cases h using RepL.caseNil; exact .nil
  | cons n ns ih =>
    cases (show RepL C V vs (.str n :: ns.map .str) from h) using RepL.caseCons with
    | cons r q => cases r using Rep.caseStr; exact .cons _ _ (ih q)

namespace V
theorem lenL {ds : List D} (h : ds.length ≤ 1000000) : VCall C n (.builtin "len") [.list ds] (.int (ds.length : Int)) := by
  refine .mk ?_; rintro A m s _ R g rl; obtain ⟨_, rfl, ra⟩ := rl.one
  cases ra using Rep.caseList with
  | @list a o vs k hv hc hd hr _ =>
    have e : (vs.size : Int) = ds.length := by rw [← Array.length_toList, hr.length]
    refine Calls.call_len_list ⟨o, hv.1, hc, k, hd⟩ (by omega) ?_
    rw [e]; exact resInt
theorem lenS {x : Str} (h : x.length ≤ 1000000) : VCall C n (.builtin "len") [.str x] (.int (x.length : Int)) := by
  refine .mk ?_; rintro A m s _ R g rl; obtain ⟨_, rfl, ra⟩ := rl.one
  cases ra using Rep.caseStr
  exact PySem.P.len_str (by omega) resInt
theorem sum {ns : List Int} : VCall C n (.builtin "sum") [.list (ns.map .int)] (.int ns.sum) := by
  refine .mk ?_; rintro A m s _ R g rl; obtain ⟨_, rfl, ra⟩ := rl.one
  cases ra using Rep.caseList with
  | @list a o vs k hv hc hd hr _ =>
    refine twice g (P := fun v s' => Rep C (vw s'.heap m) v (.int ns.sum)) fun L mm news _ hL F N hall => ?_
    exact LSm.sum_ints F N R.1 (vs := vs.toList) ⟨o, hv.1, hc, k, hd⟩ (repInts hr) fun h' tk t' F' N' => ⟨.of hall N', .int _ _⟩
theorem max {ns : List Int} {M : Int} (h1 : M ∈ ns) (h2 : ∀ a ∈ ns, a ≤ M) : VCall C n (.builtin "max") [.list (ns.map .int)] (.int M) := by
  refine .mk ?_; rintro A m s _ R g rl; obtain ⟨_, rfl, ra⟩ := rl.one
  cases ra using Rep.caseList with
  | @list a o vs k hv hc hd hr _ =>
    refine twice g (P := fun v s' => Rep C (vw s'.heap m) v (.int M)) fun L mm news _ hL F N hall => ?_
    refine max_list_N R.1 F N (vs := vs.toList) ⟨o, hv.1, hc, k, hd⟩ (repInts hr) (List.length_pos_of_mem h1) fun h' M' t tk F' N' q1 q2 => ?_
    have : M' = M := Int.le_antisymm (h2 _ q1) (q2 _ h1)
    subst this
    exact ⟨.of hall N', .int _ _⟩
end V

/-- a method of a built-in type -/
theorem Ev.meth1 {o name apos pos e x y d id T} (ho : Ev C n sc Γ o x) (he : Ev C n sc Γ e y) (slot : PySem.Slot T name id) (hty : typeOf (.builtin id) = pure (.type "method_descriptor")) (hpa : PlainAttrs T)
    (hT : ∀ (s : Shared) m v, Rep C (vw s.heap m) v x → s.TypeIs v T ∧ ∀ b, v = .ref b → ∃ ob, s.heap.get? b = some ob ∧ ob.dict = Option.none)
    (h : VCall C n (.builtin id) [x, y] d)
    (hbase : ∀ env, attributeBase o name env (eval o env) = eval o env := by intro _; rfl)
    (hse : ∀ env, starEach [e] env = (false, eval e env) :: starEach [] env := by intro _; rfl) (hline : (apos.endLine == pos.line) = true := by rfl) :
    Ev C n sc Γ (.Call (.Attribute o name apos) [e] [] pos) d := .mk fun env A Pr U ad s R F => by
  refine wpAny_Call_method (hbase env) (by rw [hse]; rfl) hline hpa slot hty (wpAny_after (ho.run env A Pr U ad s R F) fun v s₁ ⟨st, r⟩ => ?_)
  obtain ⟨h1, h2⟩ := hT _ _ _ r
  refine ⟨h1, h2, callWith_method1 (wpAny_after ((EvL.cons he EvL.nil hse).run env A Pr U ad s₁ pos R (F.step st)) fun vs s₂ ⟨st₂, r₂⟩ => ?_) (hse env) rfl⟩
  exact wpAny_after (h.run A _ s₂ (v :: vs) R ((F.step st).step st₂).pt (.cons (r.mono ((F.step st).pt.up st₂)) r₂)) fun _ _ h' => (h'.after st₂).after st
theorem Ev.meth0 {o name apos pos x d id T} (ho : Ev C n sc Γ o x) (slot : PySem.Slot T name id) (hty : typeOf (.builtin id) = pure (.type "method_descriptor")) (hpa : PlainAttrs T)
    (hT : ∀ (s : Shared) m v, Rep C (vw s.heap m) v x → s.TypeIs v T ∧ ∀ b, v = .ref b → ∃ ob, s.heap.get? b = some ob ∧ ob.dict = Option.none)
    (h : VCall C n (.builtin id) [x] d)
    (hbase : ∀ env, attributeBase o name env (eval o env) = eval o env := by intro _; rfl) (hline : (apos.endLine == pos.line) = true := by rfl) :
    Ev C n sc Γ (.Call (.Attribute o name apos) [] [] pos) d := .mk fun env A Pr U ad s R F => by
  refine wpAny_Call_method (hbase env) rfl hline hpa slot hty (wpAny_after (ho.run env A Pr U ad s R F) fun v s₁ ⟨st, r⟩ => ?_)
  obtain ⟨h1, h2⟩ := hT _ _ _ r
  exact ⟨h1, h2, callWith_method0 (wpAny_after (h.run A _ s₁ [v] R (F.step st).pt (.cons r .nil)) fun _ _ h' => h'.after st)⟩

theorem isStr {x : Str} (s : Shared) (m : Addr → Prop) (v : Value) (r : Rep C (vw s.heap m) v (.str x)) : s.TypeIs v "str" ∧ ∀ b, v = .ref b → ∃ ob, s.heap.get? b = some ob ∧ ob.dict = Option.none := by
  cases r using Rep.caseStr; exact ⟨rfl, fun b e => by cases e⟩

theorem V.join {x : Str} {ys : List Str} (hx : x.length ≤ 16) (hw : (ys.map (·.length)).sum + ys.length ≤ 100000) : VCall C n (.builtin "str.join") [.str x, .list (ys.map .str)] (.str (Str.join x ys)) := by
  refine .mk ?_; rintro A m s _ R g rl; obtain ⟨_, _, rfl, ra, rb⟩ := rl.two
  cases ra using Rep.caseStr
  cases rb using Rep.caseList with
  | @list a o vs k hv hc hd hr _ =>
    exact join_listW (items := vs) ⟨o, hv.1, hc, k, hd⟩ (repStrs hr) hx (by omega) fun t' k => ⟨Stp.tok _, by rw [← StrLaws.glued_eq_join]; exact .str _ _⟩
theorem Ev.join {o apos pos e x ys} (ho : Ev C n sc Γ o (.str x)) (he : Ev C n sc Γ e (.list (ys.map .str))) (hx : x.length ≤ 16) (hw : (ys.map (·.length)).sum + ys.length ≤ 100000)
    (hbase : ∀ env, attributeBase o "join" env (eval o env) = eval o env := by intro _; rfl)
    (hse : ∀ env, starEach [e] env = (false, eval e env) :: starEach [] env := by intro _; rfl) (hline : (apos.endLine == pos.line) = true := by rfl) :
    Ev C n sc Γ (.Call (.Attribute o "join" apos) [e] [] pos) (.str (Str.join x ys)) :=
  Ev.meth1 ho he PySem.F.slot_str_join PySem.F.type_str_join PySem.F.plainAttrs_str isStr (V.join hx hw) hbase hse hline

end Mine
end
-- Sl
section
open PySem PySem.W PyProof.Rows
set_option Elab.async false
set_option linter.all false
namespace Mine
variable {C : Cx} {n : Nat} {sc : Scope} {Γ Γ' Γ'' : Gam} {env : Env} {Pr : Addr → Obj → Prop} {U m : Addr → Prop} {ad : Str → Option Addr} {s s' s₁ : Shared}

/-- a bound of a slice -/
structure EvO (C : Cx) (n : Nat) (sc : Scope) (Γ : Gam) (e : Option Expr) (k : Option Int) : Prop where
  run : ∀ env A Pr U ad s, Room A n → FSa C sc env Pr U Γ ad s → wpAny (model C.prog C.w) A (evalPart e env) (fun v s' => Stp C s s' ∧ IsPart v k) noE s
theorem EvO.none : EvO C n sc Γ Option.none Option.none := .mk fun _ _ _ _ _ _ _ _ => wpAny_pure ⟨Stp.refl _ _, .none⟩
theorem EvO.some {e k} (h : Ev C n sc Γ e (.int k)) : EvO C n sc Γ (Option.some e) (Option.some k) := .mk fun env A Pr U ad s R F =>
  wpAny_after (h.run env A Pr U ad s R F) fun v s₁ ⟨st, r⟩ => ⟨st, by cases r using Rep.caseInt; exact .int _ _⟩

structure VSlice (C : Cx) (n : Nat) (t : Value → Value → Sem Value) (a : D) (lo hi : Option Int) (d : D) : Prop where
  run : ∀ A m s va sl vl vu, Room A n → GS C m s → Rep C (vw s.heap m) va a → s.heap.IsSliceOf sl vl vu .none → IsPart vl lo → IsPart vu hi → wpAny (model C.prog C.w) A (t va (.ref sl)) (Res C m s d) noE s

theorem Ev.slice {v lo hi spos pos a kl kh d} (ha : Ev C n sc Γ v a) (hl : EvO C n sc Γ lo kl) (hh : EvO C n sc Γ hi kh) (h : VSlice C n (subscriptTail v (.Slice lo hi Option.none spos)) a kl kh d) :
    Ev C n sc Γ (.Subscript v (.Slice lo hi Option.none spos) pos) d := .mk fun env A Pr U ad s R F =>
  Subscript_ (wpAny_after (ha.run env A Pr U ad s R F) fun va s₁ ⟨st₁, r₁⟩ => wpAny_Slice (wpAny_after (hl.run env A Pr U ad s₁ R (F.step st₁)) fun vl s₂ ⟨st₂, p₂⟩ =>
    wpAny_after (hh.run env A Pr U ad s₂ R ((F.step st₁).step st₂)) fun vu s₃ ⟨st₃, p₃⟩ => wpAny_pure (by
      have F₃ := ((F.step st₁).step st₂).step st₃
      generalize hs4 : ({ s₃ with heap := s₃.heap.push { cls := .type "slice", data := .fields #[vl, vu, .none] } } : Shared) = s₄
      have st₄ : Stp C s₃ s₄ := hs4 ▸ Stp.push _ _
      have st := ((st₁.trans st₂).trans st₃).trans st₄
      refine wpAny_after (h.run A _ s₄ va s₃.heap.objs.size vl vu R (F₃.step st₄).pt (r₁.mono fun a o q => ?_) (hs4 ▸ Heap.IsSliceOf.new ..) p₂ p₃) fun _ _ h' => h'.after st
      exact F₃.pt.up st₄ a o (((F.step st₁).step st₂).pt.up st₃ a o ((F.step st₁).pt.up st₂ a o q)))))

noncomputable def cutI (lo hi : Option Int) (len : Nat) : Nat × Nat := (kms_lo lo len, kms_hi hi len - kms_lo lo len)
theorem RepL.cut {V : View} {vs : List Value} {ds : List D} (h : RepL C V vs ds) (a b : Nat) : RepL C V ((vs.drop a).take b) ((ds.drop a).take b) := (h.drop a).take b

theorem V.sliceL {v lo hi spos ds kl kh} (hlen : ds.length ≤ 1000000) : VSlice C n (subscriptTail v (.Slice lo hi Option.none spos)) (.list ds) kl kh (.list ((ds.drop (kms_lo kl ds.length)).take (kms_hi kh ds.length - kms_lo kl ds.length))) := by
  refine .mk ?_; rintro A m s _ sl vl vu R g ra hs pl pu
  cases ra using Rep.caseList with
  | @list a o vs k hv hc hd hr _ =>
    have e : vs.size = ds.length := by rw [← Array.length_toList, hr.length]
    have hl : s.heap.IsList a vs := ⟨o, hv.1, hc, k, hd⟩
    refine tail_any (ops := [.ref sl, .ref a]) hl.typeIs slot_list_getitem.lookup (wpAny_getItem_list_slice hl hs pl pu .none (by simp) ?_ (by rw [e, sizeLine_eq]; omega)) rfl
    rw [kms_pick_eq]
    refine ⟨Stp.push _ _, .list (g.new _) rfl rfl ?_ ⟨rfl, rfl⟩⟩
    unfold kms_pick
    rw [Array.length_toList, e]
    exact (hr.cut _ _).mono (g.old _)

/-- script[:k] of the handed list -/
theorem V.sliceScript {v lo hi spos a vs ds kl kh} (hlen : ds.length ≤ 1000000) (hb : ∀ (m : Addr → Prop) (s : Shared), GS C m s → s.heap.IsList a vs ∧ RepL C (vw s.heap m) vs.toList ds) :
    VSlice C n (subscriptTail v (.Slice lo hi Option.none spos)) (.raw (.ref a)) kl kh (.list ((ds.drop (kms_lo kl ds.length)).take (kms_hi kh ds.length - kms_lo kl ds.length))) := by
  refine .mk ?_; rintro A m s _ sl vl vu R g ra hs pl pu
  cases ra using Rep.caseRaw
  obtain ⟨hl, hr⟩ := hb m s g
  have e : vs.size = ds.length := by rw [← Array.length_toList, hr.length]
  refine tail_any (ops := [.ref sl, .ref a]) hl.typeIs slot_list_getitem.lookup (wpAny_getItem_list_slice hl hs pl pu .none (by simp) ?_ (by rw [e, sizeLine_eq]; lia)) rfl
  rw [kms_pick_eq]
  refine ⟨Stp.push _ _, .list (g.new _) rfl rfl ?_ ⟨rfl, rfl⟩⟩
  unfold kms_pick
  rw [Array.length_toList, e]
  exact (hr.cut _ _).mono (g.old _)

/-- text[a:b] -/
theorem V.sliceS {v lo hi spos} {x : Str} {kl kh : Option Int} (hlen : x.length ≤ 1000000) : VSlice C n (subscriptTail v (.Slice lo hi Option.none spos)) (.str x) kl kh (.str (Txt.slice x kl kh)) := by
  refine .mk ?_; rintro A m s _ sl vl vu R g ra hs pl pu
  cases ra using Rep.caseStr with
  | str t =>
    obtain ⟨l, hl1, hl2⟩ : ∃ l : Option (Int × Tok), partValue l = vl ∧ l.map (·.1) = kl := by
      cases pl with
      | none => exact ⟨Option.none, rfl, rfl⟩
      | int i t => exact ⟨some (i, t), rfl, rfl⟩
    obtain ⟨u, hu1, hu2⟩ : ∃ l : Option (Int × Tok), partValue l = vu ∧ l.map (·.1) = kh := by
      cases pu with
      | none => exact ⟨Option.none, rfl, rfl⟩
      | int i t => exact ⟨some (i, t), rfl, rfl⟩
    subst hl1 hl2 hu1 hu2
    have hs' : s.heap.IsSlice sl l u Option.none := hs
    refine tail_any (T := "str") (ops := [.ref sl, .str x t]) rfl PyProof.Rows.slot_str_getitem.lookup (wpAny_getItem_str_slice hs' rfl ?_) rfl
    exact post_val_or_str ⟨Nat.le_trans (Txt.slice_le x _ _) (by rw [sizeLine_eq]; lia), fun t' k => ⟨Stp.tok _, .str _ _⟩⟩
end Mine
end
-- Prog
section
open PySem PySem.W PyProof.Rows
set_option Elab.async false
set_option linter.all false
namespace Mine
noncomputable def defIn (ss : List Stmt) (k : Nat) : List Stmt × Scope := match ss[k]? with
  | some (.FunctionDef _ _ b _ _ _ sc _ _ _) => (b, sc)
  | _ => ([], default)
noncomputable def topBody : List Stmt := PySem.Challenge.pw_zd0018_01.main.body
noncomputable def bodyOf (k : Nat) : List Stmt := (defIn topBody k).1
noncomputable def scOf (k : Nat) : Scope := (defIn topBody k).2
noncomputable def clsBody : List Stmt := match (topBody[63]? : Option Stmt) with
  | some (Stmt.ClassDef _ _ _ b _ _ _ _ _ _ _) => b
  | _ => []
variable {C : Cx} {n : Nat} {sc : Scope} {Γ Γ' Γ'' : Gam} {env : Env} {Pr : Addr → Obj → Prop} {U m : Addr → Prop} {ad : Str → Option Addr} {s s' s₁ : Shared}

/-- a def of the text as it lies at the top -/
noncomputable def DefOK (C : Cx) (body : List Stmt) (sc : Scope) (fa : Addr) (xs : List Str) : Prop :=
  ∃ fd, IsFn C fa fd body ∧ fd.scope = sc ∧ ∀ vs : List Value, xs.length = vs.length → bindArgs fd ⟨vs, []⟩ = pure (xs.zip vs)

theorem VCall.ofDef {body : List Stmt} {fa : Addr} {xs : List Str} {ds : List D} {d : D} (H : DefOK C body sc fa xs) (hx : ExT C n sc (params xs ds) body d)
    (hn : xs.Nodup := by decide) (hxs : ∀ x ∈ xs, sc.names.lookup x = some .local ∨ sc.names.lookup x = some .cell := by decide) (hlen : xs.length = ds.length := by rfl) : VCall C (n+1) (.ref fa) ds d := by
  obtain ⟨fd, I, rfl, hb⟩ := H
  exact VCall.fn I hx hb hn hxs hlen

theorem Ev.call {f fpos e es pos fa body scf xs ds d} (H : DefOK C body scf fa xs) (hv : (C.mg f).or (C.mb f) = some (.ref fa)) (ha : EvL C n sc Γ (e :: es) ds) (h : VCall C n (.ref fa) ds d)
    (hk : sc.names.lookup f = some .globalImplicit := by rfl) (hd : (f == ("__debug__" : Str)) = false := by decide)
    (he : ∀ env, eval (.Call (.Name f fpos) (e :: es) [] pos) env = (do callWith pos (← eval (.Name f fpos) env) [] (backTo pos (starEach (e :: es) env)) (backToKw pos (keywordEach [] env))) := by intro _; rfl)
    (hs : ∀ env, starEach (e :: es) env = (false, eval e env) :: starEach es env := by intro _; rfl) : Ev C n sc Γ (.Call (.Name f fpos) (e :: es) [] pos) d := by
  obtain ⟨fd, I, rfl, hb⟩ := H
  obtain ⟨o, ho, hd'⟩ := I.obj
  exact Ev.callF (Ev.glob hk hv hd) ha ho hd' h he hs
theorem Ev.call0 {f fpos pos fa body scf xs d} (H : DefOK C body scf fa xs) (hv : (C.mg f).or (C.mb f) = some (.ref fa)) (h : VCall C n (.ref fa) [] d)
    (hk : sc.names.lookup f = some .globalImplicit := by rfl) (hd : (f == ("__debug__" : Str)) = false := by decide)
    (he : ∀ env, eval (.Call (.Name f fpos) [] [] pos) env = (do callWith pos (← eval (.Name f fpos) env) [] (backTo pos (starEach [] env)) (backToKw pos (keywordEach [] env))) := by intro _; rfl) : Ev C n sc Γ (.Call (.Name f fpos) [] [] pos) d := by
  obtain ⟨fd, I, rfl, hb⟩ := H
  obtain ⟨o, ho, hd'⟩ := I.obj
  exact Ev.callF0 (Ev.glob hk hv hd) ho hd' h he

theorem subG (h : ∀ p ∈ Γ'', Γ'.lookup p.1 = some p.2) : ∀ x sl, Γ''.lookup x = some sl → Γ'.lookup x = some sl := fun x sl e => h (x, sl) (mem_of_lookup e)
theorem allNil {P : (Str × Slot) → Prop} : ∀ p ∈ ([] : Gam), P p := fun _ h => nomatch h
theorem allCons {P : (Str × Slot) → Prop} {x sl} {Γ : Gam} (h : P (x, sl)) (hs : ∀ p ∈ Γ, P p) : ∀ p ∈ ((x, sl) :: Γ : Gam), P p := fun p hp => (List.mem_cons.mp hp).elim (fun e => e ▸ h) (hs p)
theorem Ex1.fold {α β : Type} {iter target body pos H} (xs : List α) (g : α → D) (step : β → α → β) (b0 : β) (G : β → Gam) (Γt : β → α → Gam) (I : β → Prop)
    (h0 : I b0) (hsrc : Src C n sc (G b0) iter target H (xs.map g)) (hI : ∀ b a, a ∈ xs → I b → I (step b a))
    (has : ∀ b a, a ∈ xs → I b → As C n sc (G b) target H (g a) (Γt b a)) (hbody : ∀ b a, a ∈ xs → I b → ExN C n sc (Γt b a) body (G (step b a)))
    (hs : ∀ env x, foldedSetIterable iter env x = pure x := by intro _ _; rfl) : Ex1 C n sc (G b0) (.For target iter body [] pos) (G (xs.foldl step b0)) := by
  have hIi : ∀ i, I ((xs.take i).foldl step b0) := by
    have : ∀ (ys : List α) b, I b → (∀ a ∈ ys, a ∈ xs) → I (ys.foldl step b) := by
      intro ys
      induction ys with
      | nil => intro b hb _; exact hb
      | cons y ys ih => intro b hb hy; exact ih _ (hI b y (hy y (by simp)) hb) fun a ha => hy a (by simp [ha])
    exact fun i => this _ _ h0 fun a ha => List.mem_of_mem_take ha
  have := Ex1.for (pos := pos) (body := body) hsrc (fun i => G ((xs.take i).foldl step b0)) (fun i => match xs[i]? with | some a => Γt ((xs.take i).foldl step b0) a | Option.none => []) (by simp) ?_ ?_ hs
  · simpa using this
  · intro i d hd
    simp only [List.getElem?_map, Option.map_eq_some_iff] at hd
    obtain ⟨a, ha, rfl⟩ := hd
    rw [ha]
    exact has _ a (List.mem_of_getElem? ha) (hIi i)
  · intro i d hd
    simp only [List.getElem?_map, Option.map_eq_some_iff] at hd
    obtain ⟨a, ha, rfl⟩ := hd
    rw [ha]
    have e : xs.take (i+1) = xs.take i ++ [a] := by
      rw [List.take_add_one, ha]; rfl
    simp only [e, List.foldl_append, List.foldl_cons, List.foldl_nil]
    exact hbody _ a (List.mem_of_getElem? ha) (hIi i)


theorem kms_upTo {α : Type} (l : List α) (k : Int) (h0 : 0 ≤ k) : (l.drop (kms_lo Option.none l.length)).take (kms_hi (some k) l.length - kms_lo Option.none l.length) = l.take k.toNat := by
  simp only [kms_lo, kms_hi, if_neg (show ¬ k < 0 by lia), List.drop_zero, Nat.sub_zero]
  rw [List.take_eq_take_iff]; lia
theorem kms_from {α : Type} (l : List α) (k : Int) (h0 : 0 ≤ k) : (l.drop (kms_lo (some k) l.length)).take (kms_hi Option.none l.length - kms_lo (some k) l.length) = l.drop k.toNat := by
  simp only [kms_lo, kms_hi, if_neg (show ¬ k < 0 by lia)]
  rw [List.take_of_length_le (by simp)]
  by_cases h : k.toNat ≤ l.length
  · rw [Nat.min_eq_left h]
  · rw [Nat.min_eq_right (by lia), List.drop_of_length_le (Nat.le_refl _), List.drop_of_length_le (by lia)]

theorem fmodN (a b : Nat) : (a : Int).fmod (b : Int) = ((a % b : Nat) : Int) := by rw [Int.fmod_eq_emod_of_nonneg _ (by lia)]; simp
theorem fdivN (a b : Nat) : (a : Int).fdiv (b : Int) = ((a / b : Nat) : Int) := by rw [Int.fdiv_eq_ediv_of_nonneg _ (by lia)]; simp

theorem V.modN {a : Nat} {b : Int} (hb : 0 < b) : VOp2 C n (binaryOp .Mod) (.int (a : Int)) (.int b) (.int ((a % b.toNat : Nat) : Int)) := by
  have e := fmodN a b.toNat
  rw [show ((b.toNat : Nat) : Int) = b by lia] at e
  rw [← e]; exact V.fmod (by lia)
theorem V.divN {a : Nat} {b : Int} (hb : 0 < b) (hb2 : b.natAbs < 1073741824) : VOp2 C n (binaryOp .FloorDiv) (.int (a : Int)) (.int b) (.int ((a / b.toNat : Nat) : Int)) := by
  have e := fdivN a b.toNat
  rw [show ((b.toNat : Nat) : Int) = b by lia] at e
  rw [← e]; exact V.fdiv (by lia) (PyProof.noPylong_small hb2)

theorem V.divNN {a b : Nat} (hb : 0 < b) (hb2 : b < 1073741824) : VOp2 C n (binaryOp .FloorDiv) (.int (a : Int)) (.int (b : Int)) (.int ((a / b : Nat) : Int)) := by
  rw [← fdivN]; exact V.fdiv (by omega) (PyProof.noPylong_small (by omega))
theorem V.pow2N {k : Nat} (hk : k ≤ 1000) : VOp2 C n (binaryOp .Pow) (.int 2) (.int (k : Int)) (.int ((2 ^ k : Nat) : Int)) := by
  have := V.pow (C := C) (n := n) (a := 2) (b := (k : Int)) (by lia) (by rw [show Builtin.Int.intBits 2 = 2 by decide]; lia)
  rw [Int.toNat_natCast] at this
  rw [show ((2 ^ k : Nat) : Int) = (2 : Int) ^ k by simp]; exact this
theorem V.pow3N {k : Nat} (hk : k ≤ 1000) : VOp2 C n (binaryOp .Pow) (.int 3) (.int (k : Int)) (.int ((3 ^ k : Nat) : Int)) := by
  have := V.pow (C := C) (n := n) (a := 3) (b := (k : Int)) (by omega) (by rw [show Builtin.Int.intBits 3 = 2 by decide]; omega)
  rw [Int.toNat_natCast] at this
  rw [show ((3 ^ k : Nat) : Int) = (3 : Int) ^ k by simp]; exact this
theorem V.mulCN {b : Nat} {c : Int} (hc : 0 ≤ c) (hb : Builtin.Int.intBits c ≤ 64) : VOp2 C n (binaryOp .Mult) (.int c) (.int (b : Int)) (.int ((c.toNat * b : Nat) : Int)) := by
  have e : ((c.toNat * b : Nat) : Int) = c * b := by
    rw [Int.natCast_mul, show ((c.toNat : Nat) : Int) = c by lia]
  rw [e]; exact V.mul (IntMulOk.of_left hb)
theorem V.addN {a b : Nat} : VOp2 C n (binaryOp .Add) (.int (a : Int)) (.int (b : Int)) (.int ((a + b : Nat) : Int)) := by
  rw [Int.natCast_add]; exact V.add
theorem V.iaddN {a b : Nat} : VOp2 C n (inplaceOp .Add) (.int (a : Int)) (.int (b : Int)) (.int ((a + b : Nat) : Int)) := by
  rw [Int.natCast_add]; exact V.iadd
theorem V.bandN {a b : Nat} : VOp2 C n (binaryOp .BitAnd) (.int (a : Int)) (.int (b : Int)) (.int ((a &&& b : Nat) : Int)) := by
  have : Builtin.bitAnd (a : Int) (b : Int) = ((a &&& b : Nat) : Int) := by
    unfold Builtin.bitAnd
    rw [decide_eq_true (by omega), decide_eq_true (by omega)]; simp
  rw [← this]; exact V.band
theorem mulTilde {t : Nat} (h : t < 2) : MulOk "~" (t : Int) := by
  rcases (show t = 0 ∨ t = 1 by lia) with rfl | rfl <;> (unfold MulOk; decide)

set_option genInjectivity false in
set_option genSizeOf false in
structure Ads where
  afs : Addr
  ac : Addr
  cc : Addr
  isnt : Addr
  iseof : Addr
  hdr : Addr
  numbers : Addr
  drawn : Addr
  text : Addr
  cases : Addr
  symbols : Addr
  entries : Addr
  least : Addr
  pairs : Addr
  taken : Addr
  masks : Addr
  exact_ : Addr
  nre : Addr
  vre : Addr
  hInit : Addr
  hConv : Addr
  hGet : Addr
  hGetAll : Addr
  hItems : Addr

noncomputable def tbl (A : Ads) : List (Str × Value) := [
  ("enumerate", .type "enumerate"), ("range", .type "range"), ("zip", .type "zip"), ("int", .type "int"), ("str", .type "str"), ("tuple", .type "tuple"), ("list", .type "list"), ("type", .type "type"),
  ("len", .builtin "len"), ("max", .builtin "max"), ("sum", .builtin "sum"), ("sorted", .builtin "sorted"), ("isinstance", .builtin "isinstance"),
  ("add_func_stats", .ref A.afs), ("add_callers", .ref A.ac), ("count_calls", .ref A.cc), ("ISNONTERMINAL", .ref A.isnt), ("ISEOF", .ref A.iseof), ("Headers", .ref A.hdr),
  ("_law_numbers", .ref A.numbers), ("_law_drawn", .ref A.drawn), ("_law_text", .ref A.text), ("_law_cases", .ref A.cases), ("_law_symbols", .ref A.symbols), ("_law_entries", .ref A.entries),
  ("_law_least", .ref A.least), ("_law_pairs", .ref A.pairs), ("_law_taken", .ref A.taken), ("_law_masks", .ref A.masks), ("EXACT_TOKEN_TYPES", .ref A.exact_), ("_name_disallowed_re", .ref A.nre), ("_value_disallowed_re", .ref A.vre)]

noncomputable def tokVal (x : Str) : Nat := (topBody.findSome? fun st => match st with
  | .Assign [.Name y _] (.Constant (.int i) _ _) _ => if y == x then some i.toNat else none
  | _ => none).getD 0
/-- the table of the operators -/
noncomputable def exactL : List (Str × Nat) := match (topBody[57]? : Option Stmt) with
  | some (Stmt.Assign _ (.Dict keys values _) _) => (keys.zip values).filterMap fun p => match p with
    | (some (.Constant (.str k) _ _), .Name y _) => some (k, tokVal y)
    | _ => none
  | _ => []
open Builtin.Re in
noncomputable def PatOK (C : Cx) (a : Addr) (code : Array Nat) : Prop := ∃ o vs ca oc xs k, C.base a o ∧ o.cls = .type "re.Pattern" ∧ o.dict = Option.none ∧ o.data = .fields vs ∧ C.base ca oc ∧ oc.data = .seq xs k ∧ vs.getD 5 .none = .ref ca ∧
  reRawNat (vs.getD 6 .none) = 0 ∧ reRawNat (vs.getD 2 .none) = 0 ∧ (xs.map reRawOf).map (·.toNat) = code
noncomputable def codeOf (k : Nat) : Array Nat := match (topBody[k]? : Option Stmt) with
  | some (Stmt.Assign _ (.Call _ (_ :: _ :: .List es _ :: _) _ _) _) => (es.map fun e => match e with | .Constant (.int i) _ _ => i.toNat | _ => 0).toArray
  | _ => #[]
noncomputable def nameCode : Array Nat := codeOf 61
noncomputable def valueCode : Array Nat := codeOf 62
noncomputable def mBody (k : Nat) : List Stmt := (defIn clsBody k).1
noncomputable def mSc (k : Nat) : Scope := (defIn clsBody k).2
/-- a def with keywords and defaults -/
noncomputable def DefB (C : Cx) (body : List Stmt) (sc : Scope) (fa : Addr) (xs : List Str) (n : Nat) (kws : List Str) (extra : List Value) : Prop :=
  ∃ fd, IsFn C fa fd body ∧ fd.scope = sc ∧ ∀ m s, GS C m s → ∀ vs ks : List Value, vs.length = n → ks.length = kws.length → BindsTo s fd ⟨vs, kws.zip ks⟩ (xs.zip (vs ++ ks ++ extra))
/-- the class, as its walks lean on it -/
structure HdrOK (C : Cx) (A : Ads) (K : Frag) : Prop where
  inb : ∀ a o, K.lookup a = some o → C.base a o
  mg : C.mg "Headers" = some (.ref A.hdr)
  makes : makesIn K A.hdr = true
  keep : keepIn K (.ref A.hdr) = true
  getat : plainGet K A.hdr "_" = true
  has : hasDictIn K A.hdr = true
  over : plainOver K A.hdr = true
  setat : findIn K (.ref A.hdr) "__setattr__" = some (some (.builtin "object.__setattr__"))
  field : findIn K (.ref A.hdr) "_headers" = some Option.none
  init : findIn K (.ref A.hdr) "__init__" = some (some (.ref A.hInit))
  conv : findIn K (.ref A.hdr) "_convert_string_type" = some (some (.ref A.hConv))
  get : findIn K (.ref A.hdr) "get" = some (some (.ref A.hGet))
  getAll : findIn K (.ref A.hdr) "get_all" = some (some (.ref A.hGetAll))
  items : findIn K (.ref A.hdr) "items" = some (some (.ref A.hItems))
  fns : ∀ f ∈ [A.hInit, A.hConv, A.hGet, A.hGetAll, A.hItems], isFn K (.ref f) = true ∧ keepIn K (.ref f) = true
  dInit : DefB C (mBody 0) (mSc 0) A.hInit ["self", "headers"] 2 [] []
  dConv : DefB C (mBody 1) (mSc 1) A.hConv ["self", "value", "name"] 2 ["name"] []
  dGet : DefB C (mBody 8) (mSc 8) A.hGet ["self", "name", "default"] 2 [] [.none]
  dGetAll : DefB C (mBody 7) (mSc 7) A.hGetAll ["self", "name"] 2 [] []
  dItems : DefB C (mBody 11) (mSc 11) A.hItems ["self"] 1 [] []

noncomputable def lamOf : Arguments × Expr × Scope × Pos := match ((bodyOf 71)[1]? : Option Stmt) with
  | some (.For _ (.Call _ _ [⟨_, .Lambda a b sc p, _⟩] _) _ _ _) => (a, b, sc, p)
  | _ => (default, default, default, default)
noncomputable def lamQual : Str := ("_law_least" : Str) ++ ".<locals>." ++ "<lambda>"
/-- what stands in the table of the code of _law_least -/
noncomputable def tabSpec (hole c : Addr) (h : Heap) : Prop := CodeHd h c hole ∧ (h.get? hole = some (tabObj #[]) ∨ ∃ c' oc vs t, h.get? hole = some (tabObj #[rawInt lamOf.2.2.2.line, rawInt lamOf.2.2.2.col, .ref c']) ∧ h.get? c' = some oc ∧ isCode oc ∧ oc.data = .fields vs ∧ vs[1]? = some (.str lamQual t))
theorem tabSpec.mono {hole c : Addr} {h h' : Heap} (hk : ∀ a o, isCode o ∨ a = hole → h.get? a = some o → h'.get? a = some o) (x : tabSpec hole c h) : tabSpec hole c h' := by
  obtain ⟨⟨o, vs, file, tf, flags, tg, inF, text, tt, e1, e2, e3, r⟩, y⟩ := x
  refine ⟨⟨o, vs, file, tf, flags, tg, inF, text, tt, hk _ _ (.inl ⟨e2, vs, e3⟩) e1, e2, e3, r⟩, ?_⟩
  rcases y with y | ⟨c', oc, vs, t, y1, y2, y3, y4⟩
  · exact .inl (hk _ _ (.inr rfl) y)
  · exact .inr ⟨c', oc, vs, t, hk _ _ (.inr rfl) y1, hk _ _ (.inl y3) y2, y3, y4⟩
theorem tabSpec.dom {hole c : Addr} {h : Heap} (x : tabSpec hole c h) : ∃ o, h.get? hole = some o := by
  rcases x.2 with y | ⟨c', oc, vs, t, y, _⟩
  · exact ⟨_, y⟩
  · exact ⟨_, y⟩

/-- the law's world as its walks lean on it -/
structure Lay (C : Cx) (A : Ads) : Prop where
  glob : ∀ {x v}, (tbl A).lookup x = some v → (C.mg x).or (C.mb x) = some v
  nt : ∃ t, (C.mg "NT_OFFSET").or (C.mb "NT_OFFSET") = some (.int 256 t)
  em : ∃ t, (C.mg "ENDMARKER").or (C.mb "ENDMARKER") = some (.int 0 t)
  afs : DefOK C (bodyOf 3) (scOf 3) A.afs ["target", "source"]
  ac : DefOK C (bodyOf 4) (scOf 4) A.ac ["target", "source"]
  cc : DefOK C (bodyOf 5) (scOf 5) A.cc ["callers"]
  isnt : DefOK C (bodyOf 58) (scOf 58) A.isnt ["x"]
  iseof : DefOK C (bodyOf 59) (scOf 59) A.iseof ["x"]
  numbers : DefOK C (bodyOf 65) (scOf 65) A.numbers ["script"]
  drawn : DefOK C (bodyOf 66) (scOf 66) A.drawn ["number"]
  text : DefOK C (bodyOf 67) (scOf 67) A.text ["deed", "row"]
  cases : DefOK C (bodyOf 68) (scOf 68) A.cases ["deed", "row"]
  symbols : DefOK C (bodyOf 69) (scOf 69) A.symbols ["text", "names"]
  entries : DefOK C (bodyOf 70) (scOf 70) A.entries ["symbols", "texts"]
  least : ∃ fd c, IsFn C A.least fd (bodyOf 71) ∧ fd.scope = scOf 71 ∧ (∀ vs : List Value, ["entries"].length = vs.length → bindArgs fd ⟨vs, []⟩ = pure ((["entries"] : List Str).zip vs)) ∧ fd.code = .ref c ∧ fd.qualname = "_law_least" ∧ ∃ bo, ∀ h, C.tab h ↔ (tabSpec C.hole c h ∧ h.get? builtinsNs = some bo)
  bmod : ∃ bm ob, C.mg "__builtins__" = some (.ref bm) ∧ C.base bm ob ∧ ob.cls = .type "module" ∧ ob.dict = some builtinsNs ∧ ob.data = .plain ∧ bm ≠ mainGlobals
  pairs : DefOK C (bodyOf 72) (scOf 72) A.pairs ["entries"]
  taken : DefOK C (bodyOf 73) (scOf 73) A.taken ["entries", "letter"]
  masks : DefOK C (bodyOf 74) (scOf 74) A.masks []
  hdr : ∃ K, HdrOK C A K
  npat : PatOK C A.nre nameCode
  vpat : PatOK C A.vre valueCode
  exact_ : ∃ o kvs, C.base A.exact_ o ∧ o.IsDictOf (strKind C.prog C.w) kvs ∧ kvs.map (·.1) = exactL.map (·.1) ∧ (∀ V : View, RepL C V (kvs.map (·.2)) (exactL.map fun p => .int (p.2 : Nat))) ∧ (A.exact_ == sysModules) = false
end Mine
end
-- LcB
section
open PySem PySem.W PyProof.Rows
set_option Elab.async false
set_option linter.all false
namespace Mine
variable {C : Cx} {n : Nat} {sc : Scope} {Γ Γ' Γ'' : Gam} {env : Env} {Pr : Addr → Obj → Prop} {U m : Addr → Prop} {ad : Str → Option Addr} {s s' s₁ : Shared} {A : Ads}

theorem flatMap_one {α β : Type} (xs : List α) (f : α → β) : (xs.flatMap fun a => [f a]) = xs.map f := by induction xs <;> simp_all
theorem flatMap_if {α β : Type} (xs : List α) (b : α → Bool) (f : α → β) : (xs.flatMap fun a => if b a = true then [f a] else []) = (xs.filter b).map f := by
  induction xs with
  | nil => rfl
  | cons x xs ih => simp only [List.flatMap_cons, ih, List.filter_cons]; split <;> simp
theorem bindAll_lookup : ∀ (ps : List (Str × Pos)) (ds : List D) (Γ : Gam) (x : Str) (sl : Slot), x ∉ ps.map (·.1) → Γ.lookup x = some sl → (bindAll ps ds Γ).lookup x = some sl
  | [], _, Γ, x, sl, _, h => by cases ‹List D› <;> exact h
  | p :: ps, [], Γ, x, sl, _, h => h
  | p :: ps, d :: ds, Γ, x, sl, hx, h => by
    simp only [List.map_cons, List.mem_cons, not_or] at hx
    refine bindAll_lookup ps ds _ x sl hx.2 ?_
    rw [List.lookup_cons]
    have : (x == p.1) = false := by simpa using hx.1
    rw [this]; exact h

theorem okFree {scope : Scope} {Γ Γc : Gam} (h : ∀ p ∈ Γc, scope.names.lookup p.1 = some .free ∧ Γ.lookup p.1 = some p.2 ∧ p.2.isOwn = false) : ∀ x sl, Γc.lookup x = some sl → scope.names.lookup x = some .free ∧ Γ.lookup x = some sl ∧ sl.isOwn = false := fun x sl e => h (x, sl) (mem_of_lookup e)

/-- [elt for x in iter] -/
theorem LC.mapN {α : Type} {elt iter scope pos x px} (xs : List α) (g o : α → D) (Γc : Gam) (hsrc : Src C n sc Γ iter (.Name x px) false (xs.map g))
    (hΓ : ∀ p ∈ Γc, scope.names.lookup p.1 = some .free ∧ Γ.lookup p.1 = some p.2 ∧ p.2.isOwn = false) (hel : ∀ a ∈ xs, Ev C n scope ((x, .d (g a)) :: Γc) elt (o a))
    (hlen : xs.length ≤ 100000 := by first | decide | simp)
    (hx : scope.names.lookup x = some .local ∨ scope.names.lookup x = some .cell := by first | exact Or.inl rfl | exact Or.inr rfl)
    (scp : CompSc sc scope := by exact ⟨rfl, by decide, by decide, by decide⟩)
    (hfold : ∀ env x, foldedSetIterable iter env x = pure x := by intro _ _; rfl)
    (hden : ∀ (it acc : Value) (env : Env), (model C.prog C.w).den (.compLoop (.ListComp elt [⟨.Name x px, iter, [], 0⟩] scope pos) 0 it acc env) = (turnTree iter.pos (.Name x px) [] it env (do let _ ← call (.builtin "list.append") [acc, ← eval elt env]) (.compLoop (.ListComp elt [⟨.Name x px, iter, [], 0⟩] scope pos) 0 it acc env)).onRaise (fun x => do noteFrame x env; theTreesLotGoes x) := by intro _ _ _; rfl) :
    LC C n sc Γ elt (.Name x px) iter [] [] scope pos (xs.map o) := by
  refine ⟨scp, ⟨α, xs, g, fun a => [o a], fun _ => true, false, Γc, fun a => (x, .d (g a)) :: Γc, fun acc env => do let _ ← call (.builtin "list.append") [acc, ← eval elt env], hsrc, okFree hΓ, fun a _ => As.name hx, fun a _ => Tsts.nil, fun a ha _ => Emit.elt (hel a ha), fun a _ y sl hy => ?_, hden, ?_⟩, hfold, by simpa using hlen⟩
  · rw [List.lookup_cons]
    have h1 := (hΓ _ (mem_of_lookup hy)).1
    cases hxy : y == x with
    | false => exact hy
    | true =>
      rw [beq_iff_eq.mp hxy] at h1
      rcases hx with h | h <;> rw [h] at h1 <;> cases h1
  · simpa using flatMap_one xs o

/-- [elt for x in iter if c] -/
theorem LC.filN {α : Type} {elt iter scope pos x px c} (xs : List α) (g o : α → D) (b : α → Bool) (Γc : Gam) (hsrc : Src C n sc Γ iter (.Name x px) false (xs.map g))
    (hΓ : ∀ p ∈ Γc, scope.names.lookup p.1 = some .free ∧ Γ.lookup p.1 = some p.2 ∧ p.2.isOwn = false) (hc : ∀ a ∈ xs, Tst C n scope ((x, .d (g a)) :: Γc) c (b a)) (hel : ∀ a ∈ xs, b a = true → Ev C n scope ((x, .d (g a)) :: Γc) elt (o a))
    (hlen : xs.length ≤ 100000 := by first | decide | simp)
    (hx : scope.names.lookup x = some .local ∨ scope.names.lookup x = some .cell := by first | exact Or.inl rfl | exact Or.inr rfl)
    (scp : CompSc sc scope := by exact ⟨rfl, by decide, by decide, by decide⟩)
    (hfold : ∀ env x, foldedSetIterable iter env x = pure x := by intro _ _; rfl)
    (hden : ∀ (it acc : Value) (env : Env), (model C.prog C.w).den (.compLoop (.ListComp elt [⟨.Name x px, iter, [c], 0⟩] scope pos) 0 it acc env) = (turnTree iter.pos (.Name x px) [c] it env (do let _ ← call (.builtin "list.append") [acc, ← eval elt env]) (.compLoop (.ListComp elt [⟨.Name x px, iter, [c], 0⟩] scope pos) 0 it acc env)).onRaise (fun x => do noteFrame x env; theTreesLotGoes x) := by intro _ _ _; rfl) :
    LC C n sc Γ elt (.Name x px) iter [c] [] scope pos ((xs.filter b).map o) := by
  refine ⟨scp, ⟨α, xs, g, fun a => [o a], b, false, Γc, fun a => (x, .d (g a)) :: Γc, fun acc env => do let _ ← call (.builtin "list.append") [acc, ← eval elt env], hsrc, okFree hΓ, fun a _ => As.name hx, fun a ha => Tsts.one (hc a ha), fun a ha hb => Emit.elt (hel a ha hb), fun a _ y sl hy => ?_, hden, flatMap_if xs b o⟩, hfold, ?_⟩
  · rw [List.lookup_cons]
    have h1 := (hΓ _ (mem_of_lookup hy)).1
    cases hxy : y == x with
    | false => exact hy
    | true =>
      rw [beq_iff_eq.mp hxy] at h1
      rcases hx with h | h <;> rw [h] at h1 <;> cases h1
  · simpa using Nat.le_trans (List.length_filter_le b xs) hlen

/-- [elt for x, y in iter] -/
theorem LC.mapT {α : Type} {elt iter scope pos elts k tpos} (ps : List (Str × Pos)) (xs : List α) (g : α → List D) (o : α → D) (Γc : Gam) (hsrc : Src C n sc Γ iter (.Tuple elts k tpos) true (xs.map fun a => .tup (g a)))
    (hΓ : ∀ p ∈ Γc, scope.names.lookup p.1 = some .free ∧ Γ.lookup p.1 = some p.2 ∧ p.2.isOwn = false) (hel : ∀ a ∈ xs, Ev C n scope (bindAll ps (g a) Γc) elt (o a))
    (he : elts = names ps := by rfl) (hl : ∀ a ∈ xs, ps.length = (g a).length := by intro _ _; rfl)
    (hlen : xs.length ≤ 100000 := by first | decide | simp)
    (hx : ∀ p ∈ ps, scope.names.lookup p.1 = some .local ∨ scope.names.lookup p.1 = some .cell := by decide)
    (scp : CompSc sc scope := by exact ⟨rfl, by decide, by decide, by decide⟩)
    (hfold : ∀ env x, foldedSetIterable iter env x = pure x := by intro _ _; rfl)
    (hden : ∀ (it acc : Value) (env : Env), (model C.prog C.w).den (.compLoop (.ListComp elt [⟨.Tuple elts k tpos, iter, [], 0⟩] scope pos) 0 it acc env) = (turnTree iter.pos (.Tuple elts k tpos) [] it env (do let _ ← call (.builtin "list.append") [acc, ← eval elt env]) (.compLoop (.ListComp elt [⟨.Tuple elts k tpos, iter, [], 0⟩] scope pos) 0 it acc env)).onRaise (fun x => do noteFrame x env; theTreesLotGoes x) := by intro _ _ _; rfl) :
    LC C n sc Γ elt (.Tuple elts k tpos) iter [] [] scope pos (xs.map o) := by
  refine ⟨scp, ⟨α, xs, fun a => .tup (g a), fun a => [o a], fun _ => true, true, Γc, fun a => bindAll ps (g a) Γc, fun acc env => do let _ ← call (.builtin "list.append") [acc, ← eval elt env], hsrc, okFree hΓ, fun a ha => As.tup he (hl a ha) hx, fun a _ => Tsts.nil, fun a ha _ => Emit.elt (hel a ha), fun a _ y sl hy => ?_, hden, ?_⟩, hfold, by simpa using hlen⟩
  · refine bindAll_lookup _ _ _ _ _ (fun hm => ?_) hy
    have h1 := (hΓ _ (mem_of_lookup hy)).1
    obtain ⟨p, hp, rfl⟩ := List.mem_map.mp hm
    rcases hx p hp with h | h <;> rw [h] at h1 <;> cases h1
  · simpa using flatMap_one xs o
theorem swaps_lc {elt gens scope cpos x px line} (ev : EnvOK sc env) (hx : sc.names.lookup x = some .local) (hl : (px.line == cpos.line) = true) (hn : (scope.names.any fun (n, k) => n == x && (k == .local || k == .cell)) = false) :
    swapsWith (.ListComp elt gens scope cpos) (some (.Name x px)) line env = pure true := by
  have hk := ev.loc x hx
  unfold swapsWith
  simp only [Env.blockKind, ev.kind, ScopeKind.isAnnotationScope, Bool.false_eq_true, if_false, hk]
  show pure _ = pure true
  congr 1
  rw [show ((Expr.ListComp elt gens scope cpos).pos) = cpos from rfl, hl, hn]
  rfl
theorem swaps_lcC {elt gens scope cpos x px line} (ev : EnvOK sc env) (hx : sc.names.lookup x = some .cell) :
    swapsWith (.ListComp elt gens scope cpos) (some (.Name x px)) line env = pure false := by
  have hk := ev.cel x hx
  unfold swapsWith
  simp only [Env.blockKind, ev.kind, ScopeKind.isAnnotationScope, Bool.false_eq_true, if_false, hk]
  rfl
/-- x = [..], x a plain local -/
theorem Ex1.lcL {x px elt target iter ifs rest scope cpos pos outs} (h : LC C n sc Γ elt target iter ifs rest scope cpos outs) (hx : sc.names.lookup x = some .local := by rfl) (hl : (px.line == cpos.line) = true := by rfl)
    (hn : (scope.names.any fun (n, k) => n == x && (k == .local || k == .cell)) = false := by decide) :
    Ex1 C n sc Γ (.Assign [.Name x px] (.ListComp elt (⟨target, iter, ifs, 0⟩ :: rest) scope cpos) pos) ((x, .d (.list outs)) :: Γ) :=
  Ex1.lc h (.inl hx) fun env ev => swaps_lc ev hx hl hn
theorem Ex1.lcC {x px elt target iter ifs rest scope cpos pos outs} (h : LC C n sc Γ elt target iter ifs rest scope cpos outs) (hx : sc.names.lookup x = some .cell := by rfl) :
    Ex1 C n sc Γ (.Assign [.Name x px] (.ListComp elt (⟨target, iter, ifs, 0⟩ :: rest) scope cpos) pos) ((x, .d (.list outs)) :: Γ) :=
  Ex1.assign (Ev.lc h) (.inr hx) fun env ev => swaps_lcC ev hx
end Mine
end
-- Comp5
section
open PySem PySem.W PyProof.Rows
set_option Elab.async false
set_option linter.all false
namespace Mine
variable {C : Cx} {n : Nat} {sc : Scope} {Γ Γ' Γ'' : Gam} {env : Env} {Pr : Addr → Obj → Prop} {U m : Addr → Prop} {ad : Str → Option Addr} {s s' s₁ : Shared} {A : Ads}

/-- the second generator of two, as the first one's turn runs it -/
noncomputable def innerEmit (elt : Expr) (g1 g2 : Comprehension) (scope : Scope) (pos : Pos) : Value → Env → Sem Unit := fun acc env => do
  let x ← eval g2.iter env
  standAt g2.iter.pos
  let x ← foldedSetIterable g2.iter env x
  let _ ← runOwn (.compStart (.ListComp elt [g1, g2] scope pos) 1 (← holding [x] (pyIter x)) acc env) env

theorem codeAny_compStart_2 {M : Model} {A : Around} {R : Result → Shared → Prop} {elt g1 target iter ifs scope pos it acc} {prog : Program} {w : World}
    (h0 : codeAny (model prog w) A (.compLoop (.ListComp elt [g1, ⟨target, iter, ifs, 0⟩] scope pos) 1 it acc env) R s)
    (h : wpAny (model prog w) A (pyIter it) (fun it' s' => codeAny (model prog w) A (.compLoop (.ListComp elt [g1, ⟨target, iter, ifs, 0⟩] scope pos) 1 it' acc env) R s')
      (notedBy (model prog w) A env fun x s' => R (.error x) s') s) :
    codeAny (model prog w) A (.compStart (.ListComp elt [g1, ⟨target, iter, ifs, 0⟩] scope pos) 1 it acc env) R s := by
  refine codeAny_of_tree ?_
  show wpAny _ _ ((compStart (.ListComp elt [g1, ⟨target, iter, ifs, 0⟩] scope pos) 1 it acc env).onRaise (fun x => do noteFrame x env; standAt theWindowsPlace)) _ _ s
  refine wpAny_notedAt ?_
  unfold compStart
  show wpAny _ _ (ask >>= _) _ _ s
  refine wpAny_bind (wpAny_askSetting (wpAny_ite ?_))
  split
  · exact wpAny_bind (wpAny_pure (wpAny_pure (And.intro rfl h0)))
  · exact wpAny_bind (wpAny_rule (wpAny_bind (wpAny_standAt (wpAny_bind (wpAny_mono h (fun it' s' h' => wpAny_pure (And.intro rfl h')) fun _ _ x => x)))))

theorem Emit.inner {α : Type} {elt target iter : Expr} {g1 : Comprehension} {ifs : List Expr} {scope : Scope} {pos : Pos} {t : Bool} {emit : Value → Env → Sem Unit} (xs : List α) (g : α → D) (f' : α → List D) (Γt : α → Gam) (b : α → Bool)
    (hsrc : Src C n sc Γ iter target t (xs.map g)) (has : ∀ a ∈ xs, As C n sc Γ target t (g a) (Γt a)) (hts : ∀ a ∈ xs, Tsts C n sc (Γt a) ifs (b a)) (hem : ∀ a ∈ xs, b a = true → Emit C n sc (Γt a) emit (f' a))
    (hsub : ∀ a ∈ xs, ∀ x sl, Γ.lookup x = some sl → (Γt a).lookup x = some sl)
    (hturn : ∀ it acc env, (model C.prog C.w).den (.compLoop (.ListComp elt [g1, ⟨target, iter, ifs, 0⟩] scope pos) 1 it acc env) = (turnTree iter.pos target ifs it env (emit acc env) (.compLoop (.ListComp elt [g1, ⟨target, iter, ifs, 0⟩] scope pos) 1 it acc env)).onRaise (fun x => do noteFrame x env; theTreesLotGoes x))
    (hfold : ∀ env x, foldedSetIterable iter env x = pure x) :
    Emit C n sc Γ (innerEmit elt g1 ⟨target, iter, ifs, 0⟩ scope pos) (xs.flatMap fun a => if b a then f' a else []) := .mk fun env A Pr U ad s acc out0 R F K L hlen => by
  unfold innerEmit
  refine wpAny_bind (wpAny_after (hsrc.run env A Pr U ad s R F) fun x s₁ h₁ => wpAny_bind (wpAny_standAt (wpAny_bind (wpAny_of_eq (hfold env x) ?_))))
  refine wpAny_bind (wpAny_holding (wpAny_after h₁ fun it s₂ h₂ => ?_))
  obtain ⟨st, I, fp, wr, P, Md, St, rfl, W, hst, hwr, hfp, hfx, hitem⟩ := h₂
  have nw : ∀ a o, s.heap.get? a = some o → a ∉ wr := fun a o e hm => by rw [hwr a hm] at e; cases e
  have hnb : builtinsNs ∉ wr ∧ C.hole ∉ wr ∧ mainGlobals ∉ wr ∧ cStatics ∉ wr := by
    refine ⟨?_, ?_, ?_, ?_⟩
    · obtain ⟨o, _, _, e, _⟩ := F.gs.mb; exact nw _ o e
    · obtain ⟨o, e⟩ := C.holeDom _ F.gs.tab; exact nw _ o e
    · obtain ⟨o, _, _, e, _⟩ := F.gs.mg; exact nw _ o e
    · obtain ⟨_, ⟨o, _, _, e, _⟩, _⟩ := F.gs.lim; exact nw _ o e
  have F₂ := F.step st
  have G0 := F.guard st hwr (W.ex 0 _ hst)
  obtain ⟨oo, hacc0, hrep0⟩ := L
  have haccw : acc ∉ wr := nw _ _ hacc0
  let Pl : Addr → Obj → Prop := fun a o => guardP C sc env ad s₂.heap a o ∧ a ∉ wr ∧ a ≠ acc
  have Gl : FSa C sc env Pl (fun a => U a ∨ a ∈ wr) Γ ad s₂ :=
    G0.back (fun _ h => h) G0.gs.ub G0.gs.uh (fun a o h => h.1.1) (fun a ha o h => h.1.2.1 ha) (fun a o h => h.1.2.2)
  have K' : AccOK C env Pl (fun a => U a ∨ a ∈ wr) acc := ⟨.inl K.u, K.nb, K.nh, K.ng, K.ns, fun o h => h.2.2 rfl, K.cell, K.loc⟩
  have L' : LAcc C acc out0 (vw s₂.heap (mu (fun a => U a ∨ a ∈ wr) sc env ad)) s₂.heap := by
    refine ⟨oo, st.keep _ _ K.nb K.nh hacc0, hrep0.mono fun a o q => ⟨(F.pt.up st a o q).1, ?_⟩⟩
    rintro ((h | h) | h)
    · exact q.2 (.inl h)
    · exact nw a o q.1 h
    · exact q.2 (.inr h)
  have hm2 : ∀ a, ¬ mu U sc env ad a → a ≠ builtinsNs ∧ a ≠ C.hole ∧ a ≠ acc ∧ ¬ Foot sc env ad a := fun a h => ⟨fun e => h (.inl (e ▸ F.gs.ub)), fun e => h (.inl (e ▸ F.gs.uh)), fun e => h (.inl (e ▸ K.u)), fun hf => h (.inr hf)⟩
  have Dr : Drawn C env Pl (fun a => U a ∨ a ∈ wr) A target t (xs.map g) I fp wr P Md St := by
    refine ⟨W, fun b hb => .inr hb, hnb, fun a o h => h.2.1, fun x c hc => ?_, ?_, fun b hb hw => ?_, fun h hk i v hP d hd => ?_⟩
    · obtain ⟨o, e⟩ := F.cdom x c hc; exact nw c o e
    · obtain ⟨_, o, _, _, e, _⟩ := F.ns; exact nw _ o e
    · obtain ⟨o, e⟩ := hfx b hb
      have := hm2 b (hfp b hb)
      exact ⟨o, ⟨e, this.2.2.2, this.1, this.2.1⟩, hw, this.2.2.1⟩
    · refine (hitem h (fun b o h1 h2 e => hk b o ?_) i v hP d hd).mono fun a o ⟨⟨q1, q2⟩, q3⟩ => ?_
      · have := hm2 b h2
        exact ⟨⟨e, this.2.2.2, this.1, this.2.1⟩, h1, this.2.2.1⟩
      · have := hm2 a q2
        exact ⟨⟨⟨q1, this.2.2.2, this.1, this.2.1⟩, q3, this.2.2.1⟩, fun h => h.elim (fun h => q2 (.inl h)) q3⟩
  have loop : ∀ s₅, s₅ = s₂ → codeAny (model C.prog C.w) A (.compLoop (.ListComp elt [g1, ⟨target, iter, ifs, 0⟩] scope pos) 1 (.ref I) (.ref acc) env)
      (fun r s' => match r with
        | .ok f => (∃ ad', FSa C sc env Pr U Γ ad' s' ∧ LAcc C acc (out0 ++ xs.flatMap fun a => if b a then f' a else []) (vw s'.heap (mu U sc env ad')) s'.heap)
        | .error e => cameBackBy (model C.prog C.w) A env noE e s') s₅ := by
    rintro s₅ rfl
    refine codeAny_mono (codeAny_compLoop (xs := xs) (g := g) (f := f') (b := b) (out0 := out0) hturn has hts hem hsub (fun _ _ _ => rfl) R Gl K' haccw L' Dr hst (U0 := U) (fun a h => .inl h) ?_ F.gs.ub F.gs.uh hlen) fun r s₆ ⟨hr, ad₆, F₆, L₆⟩ => ?_
    · intro b hb hu
      obtain ⟨o, e⟩ := F.gs.udom b hu; exact nw b o e hb
    · subst hr
      have hPl : ∀ a o, Pr a o → Pl a o := fun a o h => ⟨⟨F₂.pr a o h, fun hf => (F.foot a hf).1 o h, F.prD a o h⟩, nw a o (F.pr a o h), fun e => K.pr o (e ▸ h)⟩
      refine ⟨ad₆, F₆.back (fun _ h => h) F.gs.ub F.gs.uh (fun a o h => F₆.pr a o (hPl a o h)) (fun a ha o h => (F₆.foot a ha).1 o (hPl a o h)) F.prD, ?_⟩
      obtain ⟨oo, h1, h2⟩ := L₆
      exact ⟨oo, h1, h2.mono (vw_anti fun a h => h.imp .inl id)⟩
  refine wpAny_bind (wpAny_runOwn (codeAny_compStart_2 (M := model C.prog C.w) ?_ (W.self 0 _ _ _ hst ?_)))
  · exact codeAny_mono (loop _ rfl) fun r s' h => by
      cases r with
      | ok f => exact wpAny_pure h
      | error e => exact h
  · exact codeAny_mono (loop _ rfl) fun r s' h => by
      cases r with
      | ok f => exact wpAny_pure h
      | error e => exact h

theorem flatMap_true {α β : Type} (xs : List α) (f : α → List β) : (xs.flatMap fun a => if (fun _ => true) a = true then f a else []) = xs.flatMap f := by simp

theorem den2 {prog w} {elt iter iter2 scope pos target target2} (it acc : Value) (env : Env) : (model prog w).den (.compLoop (.ListComp elt [⟨target, iter, [], 0⟩, ⟨target2, iter2, [], 0⟩] scope pos) 0 it acc env) =
      (turnTree iter.pos target [] it env (innerEmit elt ⟨target, iter, [], 0⟩ ⟨target2, iter2, [], 0⟩ scope pos acc env) (.compLoop (.ListComp elt [⟨target, iter, [], 0⟩, ⟨target2, iter2, [], 0⟩] scope pos) 0 it acc env)).onRaise (fun x => do noteFrame x env; theTreesLotGoes x) := by
  show (compTurn _ _ _ _ _).onRaise _ = _
  congr 1
  unfold compTurn turnTree
  simp only [List.getElem?_cons_zero, List.getElem?_cons_succ, show ((0 : Int) != 0) = false from rfl, Bool.false_eq_true, if_false, innerEmit, bind_assoc, pure_bind]
  rfl
theorem den1 {prog w} {elt iter iter2 scope pos target target2} (it acc : Value) (env : Env) : (model prog w).den (.compLoop (.ListComp elt [⟨target, iter, [], 0⟩, ⟨target2, iter2, [], 0⟩] scope pos) 1 it acc env) =
      (turnTree iter2.pos target2 [] it env (do let _ ← call (.builtin "list.append") [acc, ← eval elt env]) (.compLoop (.ListComp elt [⟨target, iter, [], 0⟩, ⟨target2, iter2, [], 0⟩] scope pos) 1 it acc env)).onRaise (fun x => do noteFrame x env; theTreesLotGoes x) := by
  show (compTurn _ _ _ _ _).onRaise _ = _
  congr 1

/-- [elt for x in iter for y in iter2] -/
theorem LC.two {α β : Type} {elt iter iter2 scope pos x px y py} (xs : List α) (g : α → D) (ys : α → List β) (g2 o : α → β → D) (Γc : Gam) (hsrc : Src C n sc Γ iter (.Name x px) false (xs.map g))
    (hΓ : ∀ p ∈ Γc, scope.names.lookup p.1 = some .free ∧ Γ.lookup p.1 = some p.2 ∧ p.2.isOwn = false)
    (hsrc2 : ∀ a ∈ xs, Src C n scope ((x, .d (g a)) :: Γc) iter2 (.Name y py) false ((ys a).map (g2 a)))
    (hel : ∀ a ∈ xs, ∀ b ∈ ys a, Ev C n scope ((y, .d (g2 a b)) :: (x, .d (g a)) :: Γc) elt (o a b))
    (hlen : (xs.flatMap fun a => (ys a).map (o a)).length ≤ 100000)
    (hxy : x ≠ y := by decide)
    (hx : scope.names.lookup x = some .local ∨ scope.names.lookup x = some .cell := by first | exact Or.inl rfl | exact Or.inr rfl)
    (hy : scope.names.lookup y = some .local ∨ scope.names.lookup y = some .cell := by first | exact Or.inl rfl | exact Or.inr rfl)
    (scp : CompSc sc scope := by exact ⟨rfl, by decide, by decide, by decide⟩)
    (hfold : ∀ env x, foldedSetIterable iter env x = pure x := by intro _ _; rfl) (hfold2 : ∀ env x, foldedSetIterable iter2 env x = pure x := by intro _ _; rfl) :
    LC C n sc Γ elt (.Name x px) iter [] [⟨.Name y py, iter2, [], 0⟩] scope pos (xs.flatMap fun a => (ys a).map (o a)) := by
  have nfree : ∀ z sl, Γc.lookup z = some sl → z ≠ x ∧ z ≠ y := fun z sl hz => by
    have h1 := (hΓ _ (mem_of_lookup hz)).1
    constructor <;> rintro rfl
    · rcases hx with h | h <;> rw [h] at h1 <;> cases h1
    · rcases hy with h | h <;> rw [h] at h1 <;> cases h1
  refine ⟨scp, ⟨α, xs, g, fun a => (ys a).map (o a), fun _ => true, false, Γc, fun a => (x, .d (g a)) :: Γc, innerEmit elt ⟨.Name x px, iter, [], 0⟩ ⟨.Name y py, iter2, [], 0⟩ scope pos, hsrc, okFree hΓ, fun a _ => As.name hx, fun a _ => Tsts.nil, fun a ha _ => ?_, fun a _ z sl hz => ?_, den2, flatMap_true xs _⟩, hfold, hlen⟩
  · have := Emit.inner (C := C) (n := n) (sc := scope) (Γ := (x, .d (g a)) :: Γc) (elt := elt) (g1 := ⟨.Name x px, iter, [], 0⟩) (scope := scope) (pos := pos) (ys a) (g2 a) (fun b => [o a b]) (fun b => (y, .d (g2 a b)) :: (x, .d (g a)) :: Γc) (fun _ => true)
      (hsrc2 a ha) (fun b _ => As.name hy) (fun b _ => Tsts.nil) (fun b hb _ => Emit.elt (hel a ha b hb)) (fun b _ z sl hz => ?_) den1 hfold2
    · rw [flatMap_true, flatMap_one] at this; exact this
    · rw [List.lookup_cons]
      have : (z == y) = false := by
        rw [List.lookup_cons] at hz
        cases hzx : z == x with
        | true => rw [beq_iff_eq.mp hzx]; simpa using hxy
        | false => rw [hzx] at hz; simpa using (nfree z sl hz).2
      rw [this]; exact hz
  · rw [List.lookup_cons]
    have : (z == x) = false := by simpa using (nfree z sl hz).1
    rw [this]; exact hz
end Mine
end
-- Dict1
section
open PySem PySem.W PyProof.Rows
set_option Elab.async false
set_option linter.all false
namespace Mine
variable {C : Cx} {n : Nat} {sc : Scope} {Γ Γ' Γ'' : Gam} {env : Env} {Pr : Addr → Obj → Prop} {U m : Addr → Prop} {ad : Str → Option Addr} {s s' s₁ : Shared} {A : Ads}

/-- the pairs of a dict display -/
structure EvPr (C : Cx) (n : Nat) (sc : Scope) (Γ : Gam) (keys : List (Option Expr)) (values : List Expr) (ks ds : List D) : Prop where
  run : ∀ env A Pr U ad s pos, Room A n → FSa C sc env Pr U Γ ad s → wpAny (model C.prog C.w) A (evalPairs (pairTrees keys values env pos)) (fun vs s' => Stp C s s' ∧ RepL C (vw s'.heap (mu U sc env ad)) (vs.map (·.1)) ks ∧ RepL C (vw s'.heap (mu U sc env ad)) (vs.map (·.2)) ds) noE s
theorem EvPr.nil : EvPr C n sc Γ [] [] [] [] := .mk fun env A Pr U ad s pos R F => pairTrees_nil_walk ⟨Stp.refl _ _, .nil, .nil⟩
theorem EvPr.cons {k v ks vs kd vd kds vds} (h1 : Ev C n sc Γ k kd) (h2 : Ev C n sc Γ v vd) (h : EvPr C n sc Γ ks vs kds vds) : EvPr C n sc Γ (some k :: ks) (v :: vs) (kd :: kds) (vd :: vds) := .mk fun env A Pr U ad s pos R F =>
  pairTrees_cons_walk (wpAny_after (h1.run env A Pr U ad s R F) fun kv s₁ ⟨st₁, r₁⟩ => wpAny_after (h2.run env A Pr U ad s₁ R (F.step st₁)) fun vv s₂ ⟨st₂, r₂⟩ =>
    wpAny_after (h.run env A Pr U ad s₂ pos R ((F.step st₁).step st₂)) fun ps s₃ ⟨st₃, r₃, r₄⟩ =>
      ⟨(st₁.trans st₂).trans st₃, .cons ((r₁.mono ((F.step st₁).pt.up st₂)).mono (((F.step st₁).step st₂).pt.up st₃)) r₃, .cons (r₂.mono (((F.step st₁).step st₂).pt.up st₃)) r₄⟩)

theorem carriesS {V : View} : ∀ (vs : List (Value × Value)) (l : List Str), RepL C V (vs.map (·.1)) (l.map .str) → Carries (strKind C.prog C.w) vs (l.zip (vs.map (·.2))) := fun vs l h => by
  induction l generalizing vs with
  | nil =>
    cases vs with
    | nil => trivial
    | cons v vs => exact absurd h.length (by rw [List.map_cons, List.length_cons]; exact Nat.succ_ne_zero _)
  | cons x l ih =>
    cases vs with
    | nil => exact absurd h.length (by rw [List.map_cons, List.length_cons]; exact (Nat.succ_ne_zero _).symm)
    | cons v vs =>
      have q : ∀ {w : Value} {ws : List Value}, RepL C V ws (.str x :: l.map .str) → ws = w :: vs.map (·.1) → (∃ t, w = .str x t) ∧ RepL C V (vs.map (·.1)) (l.map .str) := fun h e => by
        cases h using RepL.caseCons with
        | cons r h => obtain ⟨rfl, rfl⟩ := List.cons.inj e; cases r using Rep.caseStr; exact ⟨⟨_, rfl⟩, h⟩
      obtain ⟨⟨t, e⟩, q⟩ := q h rfl
      obtain ⟨w, v⟩ := v
      simp only at e
      subst e
      exact ⟨by simp [PySem.strKind, Value.isStrOf], rfl, ih vs q⟩
theorem carriesI {V : View} : ∀ (vs : List (Value × Value)) (l : List Int), RepL C V (vs.map (·.1)) (l.map .int) → Carries (intKind C.prog C.w) vs (l.zip (vs.map (·.2))) := fun vs l h => by
  induction l generalizing vs with
  | nil =>
    cases vs with
    | nil => trivial
    | cons v vs => exact absurd h.length (by rw [List.map_cons, List.length_cons]; exact Nat.succ_ne_zero _)
  | cons x l ih =>
    cases vs with
    | nil => exact absurd h.length (by rw [List.map_cons, List.length_cons]; exact (Nat.succ_ne_zero _).symm)
    | cons v vs =>
      have q : ∀ {w : Value} {ws : List Value}, RepL C V ws (.int x :: l.map .int) → ws = w :: vs.map (·.1) → (∃ t, w = .int x t) ∧ RepL C V (vs.map (·.1)) (l.map .int) := fun h e => by
        cases h using RepL.caseCons with
        | cons r h => obtain ⟨rfl, rfl⟩ := List.cons.inj e; cases r using Rep.caseInt; exact ⟨⟨_, rfl⟩, h⟩
      obtain ⟨⟨t, e⟩, q⟩ := q h rfl
      obtain ⟨w, v⟩ := v
      simp only at e
      subst e
      exact ⟨by simp [intKind, Value.isInt], rfl, ih vs q⟩

/-- from a change at a new object to a step -/
theorem Stp.ofNew {d : Addr} (g : GS C m s) (st : Stp C s s₁) (hd : s.heap.get? d = none) {o : Obj} (ho : s₁.heap.get? d = some o) (hf : ∀ vs, o.data ≠ .fields vs) {h' : Heap} {tk : Nat} (hs : Heap.SameBut d s₁.heap h') : Stp C s { s₁ with heap := h', toks := tk } := by
  have hb : d ≠ builtinsNs := by rintro rfl; obtain ⟨o, _, _, e, _⟩ := g.mb; rw [hd] at e; cases e
  have hh : d ≠ C.hole := by rintro rfl; obtain ⟨o, e⟩ := C.holeDom _ g.tab; rw [hd] at e; cases e
  have x := StpX.one (C := C) (tk := tk) ho hf hb hh hs
  exact ⟨fun a o q1 q2 e => x.keep a o q1 q2 (fun q => by rw [q, hd] at e; cases e) (st.keep a o q1 q2 e), fun m q => x.bns m (st.bns m q), fun q => x.tab (st.tab q), st.gens, st.os⟩

theorem new_none (s : Shared) : s.heap.get? s.heap.objs.size = none := by
  cases e : s.heap.get? s.heap.objs.size with
  | none => rfl
  | some o => exact absurd (Heap.lt_size e) (Nat.lt_irrefl _)

/-- an expression's display of a dict: what stands before the stores -/
theorem dict_run {keys values pos} {ks ds : List D} (h : EvPr C n sc Γ keys values ks ds) (hall : keys.all (·.isSome) = true) (hl : keys.length = values.length) (h0 : keys ≠ []) (hlen : keys.length ≤ 15) {A : Around} (R : Room A n) (F : FSa C sc env Pr U Γ ad s) {Q : Value → Shared → Prop}
    (hQ : ∀ d s₁ vs s₂, (d == sysModules) = false → (∀ (K : Type) [DecidableEq K] (knd : KeyKind C.prog C.w K), s₁.heap.DictOf knd d []) → s₁.heap.get? d = some { cls := .type "dict", data := .dict #[] } → s.heap.get? d = none → d ≠ builtinsNs → d ≠ C.hole → ¬ mu U sc env ad d → Stp C s s₁ → Stp C s₁ s₂ → s₂.heap.get? d = some { cls := .type "dict", data := .dict #[] } →
      RepL C (fun a o => vw s₂.heap (mu U sc env ad) a o ∧ a ≠ d) (vs.map (·.1)) ks → RepL C (fun a o => vw s₂.heap (mu U sc env ad) a o ∧ a ≠ d) (vs.map (·.2)) ds → wpAny (model C.prog C.w) A (storeAll d vs) (fun _ s₃ => Q (.ref d) s₃) noE s₂) :
    wpAny (model C.prog C.w) A (eval (.Dict keys values pos) env) Q noE s := by
  refine wpAny_Dict_any hall hl h0 hlen ?_
  have hd0 := new_none s
  have hns := notSys F.gs
  generalize hs1 : ({ s with heap := s.heap.push { cls := .type "dict", data := .dict #[] } } : Shared) = s₁
  have st₁ : Stp C s s₁ := hs1 ▸ Stp.push _ _
  have hnew : s₁.heap.get? s.heap.objs.size = some { cls := .type "dict", data := .dict #[] } := hs1 ▸ Heap.get?_push_size _ rfl
  have hdn : ∀ (K : Type) [DecidableEq K] (knd : KeyKind C.prog C.w K), s₁.heap.DictOf knd s.heap.objs.size [] := fun K _ knd => hs1 ▸ Heap.DictOf.new s.heap
  generalize hd : s.heap.objs.size = d at *
  have hnb : d ≠ builtinsNs := by rintro rfl; obtain ⟨o, _, _, e, _⟩ := F.gs.mb; rw [hd0] at e; cases e
  have hnh : d ≠ C.hole := by rintro rfl; obtain ⟨o, e⟩ := C.holeDom _ F.gs.tab; rw [hd0] at e; cases e
  have G := F.guard st₁ (wr := [d]) (fun b hb => by simp at hb; subst hb; exact hd0) (fun b hb => by simp at hb; subst hb; exact ⟨_, hnew⟩)
  refine wpAny_after (h.run env A _ _ ad s₁ pos R G) fun vs s₂ ⟨st₂, r₁, r₂⟩ => ?_
  have sub : ∀ a o, vw s₂.heap (mu (fun a => U a ∨ a ∈ [d]) sc env ad) a o → vw s₂.heap (mu U sc env ad) a o ∧ a ≠ d := fun a o ⟨q1, q2⟩ => ⟨⟨q1, fun h => q2 (h.imp Or.inl id)⟩, fun e => q2 (.inl (.inr (by simp [e])))⟩
  exact hQ d s₁ vs s₂ hns hdn hnew hd0 hnb hnh (F.pt.fresh' hd0) st₁ st₂ (st₂.keep _ _ hnb hnh hnew) (r₁.mono sub) (r₂.mono sub)

/-- the stores of a display with keys of one kind -/
theorem store_kind {K : Type} [DecidableEq K] {knd : KeyKind C.prog C.w K} {A : Around} {E : Value → Shared → Prop} {d : Addr} (vs : List (Value × Value)) (kvs kvs0 : List (K × Value)) (s : Shared) (Q : PUnit → Shared → Prop) (hc : Carries knd vs kvs) (hd : s.heap.DictOf knd d kvs0) (hz : kvs0.length + kvs.length ≤ 1000)
    (hQ : ∀ h' tk, h'.DictOf knd d (merged kvs0 kvs) → Heap.SameBut d s.heap h' → Q .unit { s with heap := h', toks := tk }) : wpAny (model C.prog C.w) A (storeAll d vs) Q E s := by
  induction vs generalizing kvs kvs0 s Q with
  | nil =>
    cases kvs with
    | nil =>
      unfold storeAll; rw [List.forIn_nil]
      exact wpAny_pure (hQ s.heap s.toks hd (.refl ..))
    | cons => exact nomatch hc
  | cons p vs ih =>
    cases kvs with
    | nil => exact nomatch hc
    | cons q kvs =>
      obtain ⟨kv, v⟩ := p
      obtain ⟨k, v'⟩ := q
      obtain ⟨h1, rfl, h2⟩ := hc
      unfold storeAll; rw [List.forIn_cons]
      refine wpAny_bind (wpAny_bind (wpAny_dictSet_pairs h1 hd (fun h₁ hd₁ hs₁ => wpAny_pure ?_) (by rw [sizeLine_eq]; simp at hz; lia)))
      exact ih kvs _ _ Q h2 hd₁ (by have := stored_length_le kvs0 k v; simp at hz ⊢; lia) fun h' tk hd' hs' => hQ h' tk hd' (hs₁.trans hs')

theorem Ev.dictS {keys values pos} {l : List (Str × D)} (h : EvPr C n sc Γ keys values (l.map fun p => .str p.1) (l.map (·.2))) (hn : (l.map (·.1)).Nodup := by decide) (hall : keys.all (·.isSome) = true := by rfl) (hl : keys.length = values.length := by rfl) (h0 : keys ≠ [] := by simp) (hlen : keys.length ≤ 15 := by decide) (hl15 : l.length ≤ 100 := by first | decide | simp) :
    Ev C n sc Γ (.Dict keys values pos) (.dictS l) := .mk fun env A Pr U ad s R F => by
  refine dict_run h hall hl h0 hlen R F fun d s₁ vs s₂ hns hdn hnew hd0 hnb hnh hdm st₁ st₂ hd2 r₁ r₂ => ?_
  have e1 : (l.map fun p => D.str p.1) = (l.map (·.1)).map .str := by simp
  rw [e1] at r₁
  have hdo : s₂.heap.DictOf (PySem.strKind C.prog C.w) d [] := (hdn _ _).at fun o ho => by rw [hnew] at ho; cases ho; exact hd2
  have hlen2 : vs.length = l.length := by simpa using r₁.length
  have hk1 : ((l.map (·.1)).zip (vs.map (·.2))).map (·.1) = l.map (·.1) := by rw [List.map_fst_zip]; simp [hlen2]
  have hk2 : ((l.map (·.1)).zip (vs.map (·.2))).map (·.2) = vs.map (·.2) := by rw [List.map_snd_zip]; simp [hlen2]
  refine store_kind vs _ [] s₂ _ (carriesS vs _ r₁) hdo (by simp; lia) fun h' tk hm hs => ?_
  rw [merged_nil_of_nodup _ (by rw [hk1]; exact hn)] at hm
  obtain ⟨o, ho, hx⟩ := Heap.dictOf_iff.mp hm
  refine ⟨Stp.ofNew F.gs (st₁.trans st₂) hd0 hd2 (fun vs e => by cases e) hs, .dictS ⟨ho, hdm⟩ hx hk1 ?_ ?_⟩
  · rw [hk2]
    exact r₂.mono fun a o ⟨⟨q1, q2⟩, q3⟩ => ⟨(hs.2 a q3).trans q1, q2⟩
  · exact hns
theorem Ev.dictI {keys values pos} {l : List (Int × D)} (h : EvPr C n sc Γ keys values (l.map fun p => .int p.1) (l.map (·.2))) (hn : (l.map (·.1)).Nodup := by decide) (hall : keys.all (·.isSome) = true := by rfl) (hl : keys.length = values.length := by rfl) (h0 : keys ≠ [] := by simp) (hlen : keys.length ≤ 15 := by decide) (hl15 : l.length ≤ 100 := by first | decide | simp) :
    Ev C n sc Γ (.Dict keys values pos) (.dictI l) := .mk fun env A Pr U ad s R F => by
  refine dict_run h hall hl h0 hlen R F fun d s₁ vs s₂ hns hdn hnew hd0 hnb hnh hdm st₁ st₂ hd2 r₁ r₂ => ?_
  have e1 : (l.map fun p => D.int p.1) = (l.map (·.1)).map .int := by simp
  rw [e1] at r₁
  have hdo : s₂.heap.DictOf (intKind C.prog C.w) d [] := (hdn _ _).at fun o ho => by rw [hnew] at ho; cases ho; exact hd2
  have hlen2 : vs.length = l.length := by simpa using r₁.length
  have hk1 : ((l.map (·.1)).zip (vs.map (·.2))).map (·.1) = l.map (·.1) := by rw [List.map_fst_zip]; simp [hlen2]
  have hk2 : ((l.map (·.1)).zip (vs.map (·.2))).map (·.2) = vs.map (·.2) := by rw [List.map_snd_zip]; simp [hlen2]
  refine store_kind vs _ [] s₂ _ (carriesI vs _ r₁) hdo (by simp; lia) fun h' tk hm hs => ?_
  rw [merged_nil_of_nodup _ (by rw [hk1]; exact hn)] at hm
  obtain ⟨o, ho, hx⟩ := Heap.dictOf_iff.mp hm
  refine ⟨Stp.ofNew F.gs (st₁.trans st₂) hd0 hd2 (fun vs e => by cases e) hs, .dictI ⟨ho, hdm⟩ hx hk1 ?_ ?_⟩
  · rw [hk2]
    exact r₂.mono fun a o ⟨⟨q1, q2⟩, q3⟩ => ⟨(hs.2 a q3).trans q1, q2⟩
  · exact hns
end Mine
end
-- MAC
set_option maxHeartbeats 8000000 in
local macro_rules | `(tactic| walk_at "ev") => `(tactic| repeat' (first
  | exact Mine.Ev.int
  | exact Mine.Ev.str
  | exact Mine.Ev.bool
  | exact Mine.Ev.none
  | exact Mine.Ev.name rfl
  | refine' Mine.Ev.bin ?_ ?_ ?_
  | refine' Mine.Ev.cmp ?_ ?_ ?_
  | refine' Mine.Ev.slice ?_ ?_ ?_ ?_
  | refine' Mine.Ev.sub ?_ ?_ ?_
  | exact Mine.EvO.none
  | refine' Mine.EvO.some ?_
  | refine' Mine.Ev.list ?_ ?_
  | refine' Mine.Ev.tup ?_ ?_
  | exact Mine.EvPr.nil
  | refine' Mine.EvPr.cons ?_ ?_ ?_
  | exact Mine.EvL.nil
  | refine' Mine.EvL.cons ?_ ?_
  | refine' Mine.Tst.cmp ?_ ?_ ?_
  | ((with_reducible refine (?_ : Mine.VOp2 _ _ _ _ _ _)); walk_at "op")
  | (with_reducible exact PyProof.noPylong_small (by decide))
  | (with_reducible exact PySem.IntMulOk.of_left (by decide))
  | (with_reducible exact PySem.IntMulOk.of_right (by decide))
  | ((with_reducible refine (?_ : (_ : Nat) ≤ _)); first | decide | omega | (simp; done) | (simp; omega))
  | ((with_reducible refine (?_ : (_ : Nat) < _)); first | decide | omega | (simp; done) | (simp; omega))
  | (with_reducible exact Mine.mulTilde (by decide))
  | decide))
set_option maxHeartbeats 8000000 in
local macro_rules | `(tactic| walk_at "op") => `(tactic| first
  | (with_reducible (first
    | apply Mine.V.addN
    | apply Mine.V.add
    | apply Mine.V.iaddN
    | apply Mine.V.iadd
    | apply Mine.V.sub
    | apply Mine.V.mulCN
    | apply Mine.V.mul
    | apply Mine.V.divNN
    | apply Mine.V.divN
    | apply Mine.V.modN
    | apply Mine.V.fdiv
    | apply Mine.V.fmod
    | apply Mine.V.pow2N
    | apply Mine.V.pow3N
    | apply Mine.V.pow
    | apply Mine.V.bandN
    | apply Mine.V.band
    | apply Mine.V.cat
    | apply Mine.V.rept
    | apply Mine.V.lt
    | apply Mine.V.gt
    | apply Mine.V.le
    | apply Mine.V.ge
    | apply Mine.V.eq
    | apply Mine.V.ne
    | apply Mine.V.eqs
    | apply Mine.V.nes
    | apply Mine.V.inDS))
  | exact Mine.V.itemT (by decide) (by decide) rfl
  | exact Mine.V.itemL (by decide) (by decide) rfl
  | exact Mine.V.itemS (by decide) (by decide) rfl
  | exact Mine.V.itemDS rfl
  | exact Mine.V.itemDI rfl)
-- F1
section
open PySem PySem.W PyProof.Rows
set_option Elab.async false
set_option linter.all false
namespace Mine
variable {C : Cx} {n : Nat} {sc : Scope} {Γ Γ' Γ'' : Gam} {env : Env} {Pr : Addr → Obj → Prop} {U m : Addr → Prop} {ad : Str → Option Addr} {s s' s₁ : Shared} {A : Ads}
noncomputable def dInts (l : List Int) : D := .list (l.map .int)
noncomputable def numStep (a : List Int) (p : Int × Nat) : List Int := a.set (p.2 % 3) (a.getD (p.2 % 3) 0 + p.1.fmod 1000000)
noncomputable def numRun (xs : List Int) : List Int := xs.zipIdx.foldl numStep [9219, 2937, 5416]

theorem ex_numbers (L : Lay C A) {a : Addr} {vs : Array Value} {xs : List Int} (hb : ∀ (m : Addr → Prop) (s : Shared), GS C m s → s.heap.IsList a vs ∧ RepL C (vw s.heap m) vs.toList (xs.map .int)) (hlen : xs.length ≤ 63) :
    ExT C n (scOf 65) (params ["script"] [.raw (.ref a)]) (bodyOf 65) (dInts (numRun xs)) := by
  refine ExT.cons (Ex1.own (by walk_at "ev")) (ExT.cons (Ex1.fold (H := true) (I := fun b => b.length = 3) xs.zipIdx (fun p => .tup [.int (p.2 : Int), .int p.1]) numStep [9219, 2937, 5416] 
    (fun b => ("numbers", .own (b.map .int)) :: params ["script"] [.raw (.ref a)]) (fun b p => ("x", .d (.int p.1)) :: ("k", .d (.int (p.2 : Int))) :: ("numbers", .own (b.map .int)) :: params ["script"] [.raw (.ref a)]) rfl ?_ ?_ ?_ ?_) (ExT.retF (Ev.name rfl)))
  · have e : (xs.zipIdx.map fun p => D.tup [.int (p.2 : Int), .int p.1]) = Mine.enum (((xs.map D.int).drop (kms_lo Option.none (xs.map D.int).length)).take (kms_hi (some 63) (xs.map D.int).length - kms_lo Option.none (xs.map D.int).length)) := by
      rw [kms_upTo _ _ (by decide), List.take_of_length_le (by simp; lia)]
      simp [Mine.enum, List.zipIdx_map]
    rw [e]
    exact Src.enum (Ev.glob rfl (L.glob rfl)) (Ev.slice (Ev.name rfl) EvO.none (EvO.some Ev.int) (V.sliceScript (by simp; lia) hb))
  · intro b p _ hb; simp [numStep, hb]
  · intro b p _ hb
    exact As.tup (ps := [("k", _), ("x", _)])
  · intro b p _ hb
    have hlt : p.2 % 3 < b.length := by lia
    refine ExN.sub (ExN.ofEx1 (Ex1.augItem (ds := b.map .int) (a₀ := .int (b.getD (p.2 % 3) 0)) (b := .int (p.1.fmod 1000000)) (k := ((p.2 % 3 : Nat) : Int)) rfl ?_ ?_ V.iadd (by lia) ?_ (by simp [hb]))) (subG (allCons ?_ (allCons rfl allNil)))
    · exact Ev.cast (by walk_at "ev") (by rfl)
    · exact Ev.cast (by walk_at "ev") (by rfl)
    · rw [Int.toNat_natCast]; simp [hlt]
    · rw [Int.toNat_natCast]; simp [numStep, List.map_set, hlt]

theorem c_numbers (L : Lay C A) {a : Addr} {vs : Array Value} {xs : List Int} (hb : ∀ (m : Addr → Prop) (s : Shared), GS C m s → s.heap.IsList a vs ∧ RepL C (vw s.heap m) vs.toList (xs.map .int)) (hlen : xs.length ≤ 63) :
    VCall C (n+1) (.ref A.numbers) [.raw (.ref a)] (dInts (numRun xs)) := VCall.ofDef L.numbers (ex_numbers L hb hlen)
end Mine
end
-- F2
section
open PySem PySem.W PyProof.Rows
set_option Elab.async false
set_option linter.all false
namespace Mine
variable {C : Cx} {n : Nat} {sc : Scope} {Γ Γ' Γ'' : Gam} {env : Env} {Pr : Addr → Obj → Prop} {U m : Addr → Prop} {ad : Str → Option Addr} {s s' s₁ : Shared} {A : Ads}
noncomputable def deeds : List Str := ["|", "<", ">", "==", "!=", "<=", ">=", "->"]
structure Drawn1 where
  deed : Nat
  row : List (Nat × Nat × Nat)
noncomputable def row0 : List Nat := [0, 1, 2, 3]
noncomputable def rowOf (part : Nat) : List Nat :=
  [row0.getD (part % 4) 0, (row0.eraseIdx (part % 4)).getD (part / 4 % 3) 0] ++ if part / 12 % 3 < 2 then [((row0.eraseIdx (part % 4)).eraseIdx (part / 4 % 3)).getD (part / 12 % 3) 0] else []
noncomputable def signsOf (part : Nat) : List (Nat × Nat × Nat) := (rowOf part).zipIdx.map fun (l, k) => (l, part / (36 * 2 ^ k) % 2, part / (288 * 2 ^ k) % 2)
noncomputable def dRow (row : List (Nat × Nat × Nat)) : D := .list (row.map fun x => .tup [.int x.1, .int x.2.1, .int x.2.2])
noncomputable def dDrawn (N : Nat) : D := .tup [.str (deeds.getD (N % 8) ""), dRow (signsOf (N / 8))]

theorem lt3 {i : Nat} (h : i < 3) : i = 0 ∨ i = 1 ∨ i = 2 := by lia
theorem lt4F : ∀ i : _root_.Fin 4, (i : Nat) = 0 ∨ (i : Nat) = 1 ∨ (i : Nat) = 2 ∨ (i : Nat) = 3 := by decide
theorem lt4 {i : Nat} (h : i < 4) : i = 0 ∨ i = 1 ∨ i = 2 ∨ i = 3 := lt4F ⟨i, h⟩
noncomputable def natsD (l : List Nat) : List D := l.map fun (x : Nat) => .int (x : Int)

theorem natsD_get {l : List Nat} {i : Nat} (h : i < l.length) : (natsD l)[((i : Nat) : Int).toNat]? = some (.int ((l.getD i 0 : Nat) : Int)) := by
  rw [Int.toNat_natCast]; simp [natsD, h]
theorem natsD_erase (l : List Nat) (i : Nat) : (natsD l).eraseIdx ((i : Nat) : Int).toNat = natsD (l.eraseIdx i) := by
  rw [Int.toNat_natCast]; simp only [natsD]; induction l generalizing i <;> cases i <;> simp_all

theorem EvP.popN {x px apos cpos e l} {i : Nat} (hx : Γ.lookup x = some (.own (natsD l))) (h : Ev C n sc Γ e (.int (i : Int))) (hi : i < l.length) (hlen : l.length ≤ 100000)
    (hbase : ∀ env, attributeBase (.Name x px) "pop" env (eval (.Name x px) env) = eval (.Name x px) env := by intro _; rfl)
    (hse : ∀ env, backTo cpos (starEach [e] env) = [(false, eval e env)] := by intro _; rfl) (hline : (apos.endLine == cpos.line) = true := by rfl) (hd : (x == ("__debug__" : Str)) = false := by decide) :
    EvP C n sc Γ (.Call (.Attribute (.Name x px) "pop" apos) [e] [] cpos) (.int ((l.getD i 0 : Nat) : Int)) ((x, .own (natsD (l.eraseIdx i))) :: Γ) := by
  rw [← natsD_erase]
  exact EvP.pop hx h (by lia) (natsD_get hi) (by simpa [natsD] using hlen) hbase hse hline hd

set_option maxHeartbeats 4000000 in
theorem ex_drawn (L : Lay C A) (N : Nat) : ExT C n (scOf 66) (params ["number"] [.int (N : Int)]) (bodyOf 66) (dDrawn N) := by
  have h0 : N / 8 % 4 < 4 := Nat.mod_lt _ (by decide)
  have h1 : N / 8 / 4 % 3 < 3 := Nat.mod_lt _ (by decide)
  have h2 : N / 8 / 12 % 3 < 3 := Nat.mod_lt _ (by decide)
  have h3 : N % 8 < 8 := Nat.mod_lt _ (by decide)
  unfold dDrawn signsOf rowOf
  generalize hP : N / 8 = P at *
  refine ExT.cons (Ex1.assign (d := .int (P : Int)) (Ev.cast (by walk_at "ev") (by rw [← hP]; rfl))) ?_
  refine ExT.cons (Ex1.own (ds := [.int 0, .int 1, .int 2, .int 3]) (by walk_at "ev")) ?_
  generalize hi : P % 4 = i at *
  generalize hj : P / 4 % 3 = j at *
  generalize hk : P / 12 % 3 = k at *
  have e1 : (row0.eraseIdx i).length = 3 := by simp [row0, List.length_eraseIdx, h0]
  have e2 : ((row0.eraseIdx i).eraseIdx j).length = 2 := by simp [row0, List.length_eraseIdx, h0, h1]
  refine ExT.cons (Ex1.ownP (ds := natsD [row0.getD i 0, (row0.eraseIdx i).getD j 0]) (EvLP.cons (EvP.popN (l := row0) (i := i) rfl (Ev.cast (by walk_at "ev") (by rw [← hi]; rfl)) h0 (by decide))
    (EvLP.cons (EvP.popN (l := row0.eraseIdx i) (i := j) rfl (Ev.cast (by walk_at "ev") (by rw [← hj]; rfl)) (by lia) (by lia)) EvLP.nil)) (hsz := by simp [natsD])) ?_
  generalize hl2 : (row0.eraseIdx i).eraseIdx j = l2 at *
  generalize hr : [row0.getD i 0, (row0.eraseIdx i).getD j 0] = r at *
  have hrl : r.length = 2 := by rw [← hr]; rfl
  refine ExT.cons (Γ' := ([("row", .own (natsD (r ++ if k < 2 then [l2.getD k 0] else []))), ("number", .d (.int (N : Int))), ("part", .d (.int (P : Int)))] : Gam)) (Ex1.ite (c := decide (k < 2)) (Tst.cast (by walk_at "ev") ?_) ?_ ?_) ?_
  · rw [← hk]; simp; lia
  · intro hc
    have hc : k < 2 := by simpa using hc
    have hg : l2[k]? = some (l2.getD k 0) := by rw [List.getD_eq_getElem?_getD, List.getElem?_eq_getElem (by lia)]; rfl
    refine ExN.sub (ExN.ofEx1 (Ex1.append rfl (Ev.own (Ev.sub (Ev.name rfl) (Ev.cast (d' := .int (k : Int)) (by walk_at "ev") (by rw [← hk]; rfl)) (V.itemLM (f := fun (x : Nat) => .int (x : Int)) hg (by lia)))) (by simp [natsD, hrl]))) (subG (allCons ?_ (allCons rfl (allCons rfl allNil))))
    simp [hc, natsD]
  · intro hc
    have hc : ¬ k < 2 := by simpa using hc
    refine ExN.sub ExN.nil (subG (allCons ?_ (allCons rfl (allCons rfl allNil))))
    simp [hc]
  refine ExT.cons (Ex1.assign (d := .str (deeds.getD (N % 8) "")) (Ev.sub (by walk_at "ev") (Ev.cast (d' := .int ((N % 8 : Nat) : Int)) (by walk_at "ev") (by rfl)) ?_)) ?_
  · exact V.itemTM (f := D.str) (l := deeds) (by rw [List.getD_eq_getElem?_getD, List.getElem?_eq_getElem (show N % 8 < deeds.length from h3)]; rfl) (by lia)
  · generalize hR : (r ++ if k < 2 then [l2.getD k 0] else []) = R at *
    have hRl : R.length ≤ 3 := by rw [← hR]; split <;> simp [hrl]
    refine ExT.retF (Ev.tup (EvL.cons (Ev.name rfl) (EvL.cons (Ev.cast (Ev.lc (LC.mapT [("k", _), ("letter", _)] R.zipIdx (fun p => [.int (p.2 : Int), .int (p.1 : Int)]) (fun p => .tup [.int (p.1 : Int), .int ((P / (36 * 2 ^ p.2) % 2 : Nat) : Int), .int ((P / (288 * 2 ^ p.2) % 2 : Nat) : Int)]) [("part", .d (.int (P : Int)))] (Src.cast (Src.enum (Ev.glob rfl (L.glob rfl)) (Ev.name rfl)) ?_) ?_ ?_ (hlen := by simp; lia))) ?_) EvL.nil)))
    · simp [Mine.enum, natsD, List.zipIdx_map]
    · exact allCons ⟨rfl, rfl, rfl⟩ allNil
    · intro p hp
      obtain ⟨x, q⟩ := p
      have : q < R.length := by
        have := List.mem_zipIdx hp
        lia
      rcases (show q = 0 ∨ q = 1 ∨ q = 2 by lia) with rfl | rfl | rfl <;> exact Ev.cast (by walk_at "ev") (by rfl)
    · simp [dRow]

theorem c_drawn (L : Lay C A) (N : Nat) : VCall C (n+1) (.ref A.drawn) [.int (N : Int)] (dDrawn N) := VCall.ofDef L.drawn (ex_drawn L N)
end Mine
end
-- F3
section
open PySem PySem.W PyProof.Rows
set_option Elab.async false
set_option linter.all false
namespace Mine
variable {C : Cx} {n : Nat} {sc : Scope} {Γ Γ' Γ'' : Gam} {env : Env} {Pr : Addr → Obj → Prop} {U m : Addr → Prop} {ad : Str → Option Addr} {s s' s₁ : Shared} {A : Ads}
noncomputable def chrOf (g l : Nat) : Nat := (if g = 0 then 97 else 65) + l
noncomputable def signOf (x : Nat × Nat × Nat) : Str := ⟨((if x.2.1 = 0 then [] else [126]) ++ [chrOf x.2.2 x.1]).toArray⟩
noncomputable def textOf (deed : Str) (row : List (Nat × Nat × Nat)) : Str := (row.map signOf).getD 0 "" ++ deed ++ Str.join "|" ((row.map signOf).drop 1)
noncomputable def RowOK (row : List (Nat × Nat × Nat)) : Prop := (row.length = 2 ∨ row.length = 3) ∧ ∀ x ∈ row, x.1 < 4 ∧ x.2.1 < 2 ∧ x.2.2 < 2

theorem ex_text (L : Lay C A) (deed : Str) (row : List (Nat × Nat × Nat)) (hr : RowOK row) (hd : deed.length ≤ 2) : ExT C n (scOf 67) (params ["deed", "row"] [.str deed, dRow row]) (bodyOf 67) (.str (textOf deed row)) := by
  refine ExT.cons (Ex1.lcL (LC.mapT [("letter", _), ("turned", _), ("great", _)] row (fun x => [.int x.1, .int x.2.1, .int x.2.2]) (fun x => .str (signOf x)) [] (Src.list (Ev.name rfl) ?_) allNil ?_ (hlen := by rcases hr.1 with h | h <;> lia))) ?_
  · intro d hd _; simp at hd; obtain ⟨_, _, _, _, rfl⟩ := hd; exact ⟨_, rfl⟩
  · rintro ⟨l, t, g⟩ hx
    obtain ⟨h1, h2, h3⟩ := hr.2 _ hx
    simp only at h1 h2 h3
    rcases lt4 h1 with rfl | rfl | rfl | rfl <;> rcases (show t = 0 ∨ t = 1 by lia) with rfl | rfl <;> rcases (show g = 0 ∨ g = 1 by lia) with rfl | rfl <;> (refine Ev.cast (by walk_at "ev") ?_; rfl)
  have hs2 : ∀ x, (signOf x).length ≤ 2 := fun x => by
    unfold signOf; show Array.size _ ≤ 2; split <;> simp
  have hl : row.length ≤ 3 := by rcases hr.1 with h | h <;> lia
  have h1 : ∀ l : List (Nat × Nat × Nat), ((l.map signOf).map (·.length)).sum ≤ 2 * l.length := by
    intro l
    induction l with
    | nil => simp
    | cons x l ih => have := hs2 x; simp at ih ⊢; lia
  have h2 := h1 (row.drop 1)
  rw [List.map_drop] at h2
  have hjl : (Str.join "|" ((row.map signOf).drop 1)).length ≤ 100 := by
    refine Nat.le_trans (StrLaws.join_length_le _ _) ?_
    have : (Str.ofString "|").length = 1 := by decide
    rw [this]
    simp only [List.length_map, List.length_drop] at h2 ⊢
    lia
  have h0 : row ≠ [] := by rintro rfl; rcases hr.1 with h | h <;> simp at h
  obtain ⟨r0, rs, rfl⟩ := List.exists_cons_of_ne_nil h0
  have h3 : ((List.map signOf (r0 :: rs)).getD 0 "").length ≤ 2 := hs2 r0
  refine ExT.ret (Ev.bin (Ev.bin (Ev.sub (Ev.name rfl) Ev.int (V.itemL (by decide) (by decide) (by rfl))) (Ev.name rfl) (V.cat ?_)) (Ev.join Ev.str (Ev.cast (Ev.slice (Ev.name rfl) (EvO.some Ev.int) EvO.none (V.sliceL ?_)) ?_) (by decide) ?_) (V.cat ?_))
  · lia
  · simp at hl ⊢; lia
  · rw [kms_from _ _ (by decide)]; simp
  · simp at hl h2 ⊢; lia
  · rw [Str.length_append]; lia

theorem c_text (L : Lay C A) (deed : Str) (row : List (Nat × Nat × Nat)) (hr : RowOK row) (hd : deed.length ≤ 2) : VCall C (n+1) (.ref A.text) [.str deed, dRow row] (.str (textOf deed row)) := VCall.ofDef L.text (ex_text L deed row hr hd)
end Mine
end
-- F4
section
open PySem PySem.W PyProof.Rows
set_option Elab.async false
set_option linter.all false
namespace Mine
variable {C : Cx} {n : Nat} {sc : Scope} {Γ Γ' Γ'' : Gam} {env : Env} {Pr : Addr → Obj → Prop} {U m : Addr → Prop} {ad : Str → Option Addr} {s s' s₁ : Shared} {A : Ads}
noncomputable def opsOf (p s : Int) : List (Str × Bool) := [("|", decide (0 < p + s)), ("<", decide (p < s)), (">", decide (s < p)), ("==", p == s), ("!=", p != s), ("<=", decide (p ≤ s)), (">=", decide (s ≤ p)), ("->", decide (p ≤ s))]
noncomputable def opB (i : Nat) (p s : Int) : Bool := match i with
  | 0 => decide (0 < p + s)
  | 1 => decide (p < s)
  | 2 => decide (s < p)
  | 3 => p == s
  | 4 => p != s
  | 5 => decide (p ≤ s)
  | 6 => decide (s ≤ p)
  | _ => decide (p ≤ s)
theorem lt8F : ∀ i : _root_.Fin 8, (i : Nat) = 0 ∨ (i : Nat) = 1 ∨ (i : Nat) = 2 ∨ (i : Nat) = 3 ∨ (i : Nat) = 4 ∨ (i : Nat) = 5 ∨ (i : Nat) = 6 ∨ (i : Nat) = 7 := by decide
theorem lt8 {i : Nat} (h : i < 8) : i = 0 ∨ i = 1 ∨ i = 2 ∨ i = 3 ∨ i = 4 ∨ i = 5 ∨ i = 6 ∨ i = 7 := lt8F ⟨i, h⟩
noncomputable def bitOf (number : Nat) (x : Nat × Nat × Nat) : Nat := (number / 2 ^ x.1 + x.2.1) % 2
noncomputable def holdsAt (i : Nat) (row : List (Nat × Nat × Nat)) (number : Nat) : Bool := opB i (bitOf number (row.getD 0 default)) (((row.drop 1).map (bitOf number)).foldl max 0 : Nat)
noncomputable def casesOf (i : Nat) (row : List (Nat × Nat × Nat)) : Nat := (List.range 16).foldl (fun t k => if holdsAt i row k then t + 2 ^ k else t) 0

theorem foldl_max (l : List Nat) : ∀ a, a ≤ l.foldl max a ∧ (∀ x ∈ l, x ≤ l.foldl max a) ∧ (l.foldl max a = a ∨ l.foldl max a ∈ l) := by
  induction l with
  | nil => intro a; simp
  | cons x l ih =>
    intro a
    obtain ⟨h1, h2, h3⟩ := ih (max a x)
    refine ⟨by simp; lia, ?_, ?_⟩
    · intro y hy
      rcases List.mem_cons.mp hy with rfl | hy
      · simp; lia
      · exact h2 y hy
    · simp only [List.foldl_cons, List.mem_cons]
      rcases h3 with h | h
      · rw [h]; lia
      · exact .inr (.inr h)
theorem maxL_spec {l : List Nat} (hl : l ≠ []) : l.foldl max 0 ∈ l ∧ ∀ x ∈ l, x ≤ l.foldl max 0 := by
  obtain ⟨h1, h2, h3⟩ := foldl_max l 0
  refine ⟨?_, h2⟩
  rcases h3 with h | h
  · obtain ⟨x, r, rfl⟩ := List.exists_cons_of_ne_nil hl
    have := h2 x (by simp)
    rw [h] at this ⊢
    have : x = 0 := by lia
    simp [this]
  · exact h
theorem bitOf_lt (k : Nat) (x : Nat × Nat × Nat) : bitOf k x < 2 := Nat.mod_lt _ (by decide)

theorem ex_cases (L : Lay C A) {i : Nat} (hi : i < 8) (row : List (Nat × Nat × Nat)) (hr : RowOK row) : ExT C n (scOf 68) (params ["deed", "row"] [.str (deeds.getD i ""), dRow row]) (bodyOf 68) (.int (casesOf i row)) := by
  refine ExT.cons (Ex1.lcL (LC.two [(0 : Int), 1] .int (fun _ => [(0 : Int), 1]) (fun _ b => .int b) (fun a b => .bool (opB i a b)) [(Str.ofString "deed", Slot.d (.str (deeds.getD i "")))] (Src.tup (by walk_at "ev")) (allCons ⟨rfl, rfl, rfl⟩ allNil) (fun a _ => Src.tup (by walk_at "ev")) (fun a _ b _ => ?_) (by simp))) ?_
  · refine Ev.sub (Ev.dictS (l := (opsOf a b).map fun p => (p.1, .bool p.2)) (by walk_at "ev") (hn := ?_) (hl15 := ?_)) (Ev.name rfl) (V.itemDS ?_)
    · show ([Str.ofString "|", "<", ">", "==", "!=", "<=", ">=", "->"] : List Str).Nodup; decide
    · show 8 ≤ 100; decide
    · rcases lt8 hi with rfl | rfl | rfl | rfl | rfl | rfl | rfl | rfl <;> rfl
  refine ExT.cons (Ex1.assign (d := .int ((0 : Nat) : Int)) (by walk_at "ev")) ?_
  have hrt : (List.flatMap (fun a => List.map (fun b => D.bool (opB i a b)) [(0 : Int), 1]) [(0 : Int), 1]) = [.bool (opB i 0 0), .bool (opB i 0 1), .bool (opB i 1 0), .bool (opB i 1 1)] := rfl
  rw [hrt]
  refine ExT.cons (Ex1.fold (H := false) (List.range 16) (fun (k : Nat) => .int (k : Int)) (fun t k => if holdsAt i row k then t + 2 ^ k else t) 0
    (fun (t : Nat) => (Str.ofString "told", Slot.d (.int (t : Int))) :: (Str.ofString "right", Slot.d (.list [.bool (opB i 0 0), .bool (opB i 0 1), .bool (opB i 1 0), .bool (opB i 1 1)])) :: params ["deed", "row"] [.str (deeds.getD i ""), dRow row])
    (fun t k => (Str.ofString "number", Slot.d (.int (k : Int))) :: (Str.ofString "told", Slot.d (.int (t : Int))) :: (Str.ofString "right", Slot.d (.list [.bool (opB i 0 0), .bool (opB i 0 1), .bool (opB i 1 0), .bool (opB i 1 1)])) :: params ["deed", "row"] [.str (deeds.getD i ""), dRow row])
    (fun _ => True) trivial (Src.range (Ev.glob rfl (L.glob rfl)) Ev.int (by decide) (by decide)) (fun _ _ _ _ => trivial) (fun t k _ _ => As.name) ?_) (ExT.ret (Ev.name rfl))
  intro t k hk _
  have hk : k < 16 := List.mem_range.mp hk
  refine ExN.cons (Ex1.lcL (LC.mapT [("letter", _), ("turned", _), ("great", _)] row (fun x => [.int x.1, .int x.2.1, .int x.2.2]) (fun x => .int (bitOf k x : Nat)) [(Str.ofString "number", Slot.d (.int (k : Int)))] (Src.list (Ev.name rfl) ?_) (allCons ⟨rfl, rfl, rfl⟩ allNil) ?_ (hlen := by rcases hr.1 with h | h <;> lia))) ?_
  · intro d hd _; simp at hd; obtain ⟨_, _, _, _, rfl⟩ := hd; exact ⟨_, rfl⟩
  · rintro ⟨l, t', g⟩ hx
    obtain ⟨h1, h2, h3⟩ := hr.2 _ hx
    simp only at h1 h2 h3
    rcases lt4 h1 with rfl | rfl | rfl | rfl <;> exact Ev.cast (by walk_at "ev") (by rfl)
  obtain ⟨r0, rs, rfl⟩ : ∃ r0 rs, row = r0 :: rs := List.exists_cons_of_ne_nil (by rintro rfl; rcases hr.1 with h | h <;> simp at h)
  have hrs : rs.map (bitOf k) ≠ [] := by rintro h; simp at h; subst h; rcases hr.1 with h | h <;> simp at h
  have hrl : rs.length ≤ 2 := by rcases hr.1 with h | h <;> simp at h <;> lia
  obtain ⟨m1, m2⟩ := maxL_spec hrs
  have hmx : (rs.map (bitOf k)).foldl max 0 < 2 := by
    obtain ⟨x, _, hx⟩ := List.mem_map.mp m1
    rw [← hx]; exact bitOf_lt k x
  have hb0 := bitOf_lt k r0
  have hh : holdsAt i (r0 :: rs) k = opB i (bitOf k r0 : Nat) ((rs.map (bitOf k)).foldl max 0 : Nat) := rfl
  rw [hh]
  have hbits : (r0 :: rs).map (fun x => D.int (bitOf k x : Nat)) = .int (bitOf k r0 : Nat) :: ((rs.map (bitOf k)).map fun (b : Nat) => (b : Int)).map .int := by simp
  rw [hbits]
  generalize (rs.map (bitOf k)).foldl max 0 = mx at *
  generalize bitOf k r0 = b0 at *
  have hlen : ((rs.map (bitOf k)).map fun (b : Nat) => (b : Int)).length ≤ 2 := by simpa using hrl
  have m1' : (mx : Int) ∈ (rs.map (bitOf k)).map fun (b : Nat) => (b : Int) := List.mem_map.mpr ⟨mx, m1, rfl⟩
  have m2' : ∀ a ∈ (rs.map (bitOf k)).map fun (b : Nat) => (b : Int), a ≤ (mx : Int) := by
    intro a ha; obtain ⟨x, hx, rfl⟩ := List.mem_map.mp ha; have := m2 x hx; lia
  generalize (rs.map (bitOf k)).map (fun (b : Nat) => (b : Int)) = ns at *
  refine ExN.sub (ExN.ofEx1 (Ex1.ite (Γ' := (Str.ofString "told", Slot.d (.int ((if opB i b0 mx then t + 2 ^ k else t : Nat) : Int))) :: (Str.ofString "right", Slot.d (.list [.bool (opB i 0 0), .bool (opB i 0 1), .bool (opB i 1 0), .bool (opB i 1 1)])) :: params ["deed", "row"] [.str (deeds.getD i ""), dRow (r0 :: rs)]) (c := opB i b0 mx) (Tst.of (Ev.sub (Ev.name rfl) (Ev.bin (Ev.bin Ev.int (Ev.sub (Ev.name rfl) Ev.int (V.itemL (by decide) (by decide) (by rfl))) (V.mulCN (by decide) (by decide)))
    (Ev.callB (Ev.glob rfl (L.glob rfl)) (EvL.cons (Ev.cast (Ev.slice (Ev.name rfl) (EvO.some Ev.int) EvO.none (V.sliceL ?_)) ?_) EvL.nil) (V.max (ns := ns) m1' m2')) V.addN) ?_)) (fun hc => ?_) (fun hc => ?_))) fun _ _ h => h
  · simp; lia
  · rw [kms_from _ _ (by decide)]; rfl
  · rcases (show b0 = 0 ∨ b0 = 1 by lia) with rfl | rfl <;> rcases (show mx = 0 ∨ mx = 1 by lia) with rfl | rfl <;> exact V.itemL (by decide) (by decide) rfl
  · refine ExN.sub (ExN.ofEx1 (Ex1.aug rfl (Ev.cast (by walk_at "ev") (by rfl)) V.iaddN)) (subG (allCons ?_ (allCons rfl (allCons rfl (allCons rfl allNil)))))
    simp [hc]
  · refine ExN.sub ExN.nil (subG (allCons ?_ (allCons rfl (allCons rfl (allCons rfl allNil)))))
    simp [hc]
    rfl

theorem c_cases (L : Lay C A) {i : Nat} (hi : i < 8) (row : List (Nat × Nat × Nat)) (hr : RowOK row) : VCall C (n+1) (.ref A.cases) [.str (deeds.getD i ""), dRow row] (.int (casesOf i row)) := VCall.ofDef L.cases (ex_cases L hi row hr)
end Mine
end
-- F5
section
open PySem PySem.W PyProof.Rows
set_option Elab.async false
set_option linter.all false
namespace Mine
variable {C : Cx} {n : Nat} {sc : Scope} {Γ Γ' Γ'' : Gam} {env : Env} {Pr : Addr → Obj → Prop} {U m : Addr → Prop} {ad : Str → Option Addr} {s s' s₁ : Shared} {A : Ads}
noncomputable def highOf (k : Nat) : Nat := (((List.range 16).filter fun j => j / 2 ^ k % 2 == 1).map fun j => 2 ^ j).sum
noncomputable def partsOf (k : Nat) : List Nat := [65535, 65535 - highOf k, highOf k]
noncomputable def maskStep (b : List Nat) (k : Nat) : List Nat := (partsOf k).flatMap fun part => b.map fun mask => mask &&& part
noncomputable def masksTo (i : Nat) : List Nat := (List.range i).foldl maskStep [65535]
noncomputable def masksOf : List Nat := masksTo 4
noncomputable def gMasks (i : Nat) : Gam := [(Str.ofString "masks", Slot.d (.list (natsD (masksTo i))))]

theorem sum_cast (l : List Nat) : (l.map fun (x : Nat) => (x : Int)).sum = ((l.sum : Nat) : Int) := by
  induction l with
  | nil => rfl
  | cons x l ih => simp [ih]
theorem V.sumN {l : List Nat} : VCall C n (.builtin "sum") [.list (natsD l)] (.int (l.sum : Nat)) := by
  have := V.sum (C := C) (n := n) (ns := l.map fun (x : Nat) => (x : Int))
  rw [sum_cast, List.map_map] at this
  exact this
theorem range_mem {i : Nat} {k : Nat} {d : D} (hd : (nats k)[i]? = some d) : i < k ∧ d = .int (i : Int) := by
  have hi : i < k := by
    have := (List.getElem?_eq_some_iff.mp hd).1
    simpa [nats] using this
  refine ⟨hi, ?_⟩
  simp [nats, hi] at hd; exact hd.symm

theorem ex_masks (L : Lay C A) : ExT C n (scOf 74) (params [] []) (bodyOf 74) (.list (natsD masksOf)) := by
  refine ExT.cons (Ex1.assign (d := .list (natsD [65535])) (Ev.cast (by walk_at "ev") (by rfl))) (ExT.cons (Ex1.for (H := false) (Src.range (Ev.glob rfl (L.glob rfl)) Ev.int (by decide) (by decide)) gMasks (fun i => (Str.ofString "k", Slot.d (.int (i : Int))) :: gMasks i) (by rfl) ?_ ?_) (ExT.ret (Ev.name (by rfl))))
  · intro i d hd
    obtain ⟨hi, rfl⟩ := range_mem hd
    exact As.name
  · intro i d hd
    obtain ⟨hi, rfl⟩ := range_mem hd
    have hi : i < 4 := hi
    have hlen : (masksTo i).length ≤ 27 := by rcases lt4 hi with rfl | rfl | rfl | rfl <;> decide
    have hh : highOf i ≤ 65535 := by rcases lt4 hi with rfl | rfl | rfl | rfl <;> decide
    refine ExN.cons (Ex1.assign (d := .int (highOf i : Nat)) (Ev.callB (Ev.glob rfl (L.glob rfl)) (EvL.cons (Ev.lc (LC.filN (List.range 16) (fun (j : Nat) => .int (j : Int)) (fun j => .int (2 ^ j : Nat)) (fun j => j / 2 ^ i % 2 == 1) [(Str.ofString "k", Slot.d (.int (i : Int)))] (Src.range (Ev.glob rfl (L.glob rfl)) Ev.int (by decide) (by decide)) (allCons ⟨rfl, rfl, rfl⟩ allNil) ?_ ?_)) EvL.nil) ?_)) ?_
    · intro j _
      rcases lt4 hi with rfl | rfl | rfl | rfl <;> (refine Tst.cast (by walk_at "ev") ?_; rw [Bool.eq_iff_iff]; simp; lia)
    · intro j hj _
      have : j < 16 := List.mem_range.mp hj
      exact Ev.cast (by walk_at "ev") (by rfl)
    · have := V.sumN (C := C) (n := n) (l := ((List.range 16).filter fun j => j / 2 ^ i % 2 == 1).map fun j => 2 ^ j)
      simp only [natsD, List.map_map] at this
      exact this
    · refine ExN.sub (ExN.ofEx1 (Ex1.lcC (LC.two (partsOf i) (fun (x : Nat) => .int (x : Int)) (fun _ => masksTo i) (fun _ (x : Nat) => .int (x : Int)) (fun part mask => .int (mask &&& part : Nat)) [(Str.ofString "masks", Slot.d (.list (natsD (masksTo i))))] (Src.tup (Ev.cast (by walk_at "ev") ?_)) (allCons ⟨rfl, rfl, rfl⟩ allNil) (fun _ _ => Src.list (Ev.name rfl)) ?_ ?_))) (subG (allCons ?_ allNil))
      · rw [show (65535 : Int) - (highOf i : Nat) = ((65535 - highOf i : Nat) : Int) by lia]; rfl
      · intro a _ b _; exact Ev.cast (by walk_at "ev") (by rfl)
      · simp [partsOf]; lia
      · show some _ = some _
        congr 3
        simp only [masksTo, List.range_succ, List.foldl_append, List.foldl_cons, List.foldl_nil, maskStep, natsD, List.map_flatMap, List.map_map]
        rfl

theorem c_masks (L : Lay C A) : VCall C (n+1) (.ref A.masks) [] (.list (natsD masksOf)) := VCall.ofDef L.masks (ex_masks L)
end Mine
end
-- Tup1
section
open PySem PySem.W PyProof.Rows
set_option Elab.async false
set_option linter.all false
namespace Mine
variable {C : Cx} {n : Nat} {sc : Scope} {Γ Γ' Γ'' : Gam} {env : Env} {Pr : Addr → Obj → Prop} {U m : Addr → Prop} {ad : Str → Option Addr} {s s' s₁ : Shared} {A : Ads}

abbrev Mix := Str ⊕ Int
noncomputable def mixIs : Mix → Value → Bool
  | .inl x, v => Value.isStrOf x v
  | .inr i, v => Value.isInt i v

theorem eqBool_str_int {prog : Program} {w : World} {A : Around} {E : Value → Shared → Prop} {a : Str} {t : Tok} {b : Int} {u : Tok} {Q : Bool → Shared → Prop} (h : Q false s) : wpAny (model prog w) A (eqBool (.str a t) (.int b u)) Q E s := by
  unfold eqBool
  refine wpAny_holding ?_
  rw [if_neg (by intro h; cases eq_of_beq h)]
  refine wpAny_bind ?_
  show wpAny _ _ (compareOp .Eq (.str a t) (.int b u)) _ _ s
  exact PySem.EqMixed.eq_str_int (wpAny_truthy_bool h)
theorem eqBool_int_str {prog : Program} {w : World} {A : Around} {E : Value → Shared → Prop} {a : Str} {t : Tok} {b : Int} {u : Tok} {Q : Bool → Shared → Prop} (h : Q false s) : wpAny (model prog w) A (eqBool (.int b u) (.str a t)) Q E s := by
  unfold eqBool
  refine wpAny_holding ?_
  rw [if_neg (by intro h; cases eq_of_beq h)]
  refine wpAny_bind ?_
  show wpAny _ _ (compareOp .Eq (.int b u) (.str a t)) _ _ s
  exact PySem.EqMixed.eq_int_str (wpAny_truthy_bool h)

noncomputable def mixKind (prog : Program) (w : World) : KeyKind prog w Mix where
  is := mixIs
  hash := fun | .inl x => hashStr w x | .inr i => hashInt i
  inj := fun v a b ha hb => by
    cases a <;> cases b <;> simp only [mixIs] at ha hb
    · rw [Value.isStrOf_inj _ _ _ ha hb]
    · obtain ⟨t, rfl⟩ := Value.isStrOf_shape ha; simp [Value.isInt] at hb
    · obtain ⟨t, rfl⟩ := Value.isInt_shape ha; simp [Value.isStrOf] at hb
    · rw [Value.isInt_inj _ _ _ ha hb]
  byValue := fun k v h => by
    cases k <;> simp only [mixIs] at h
    · obtain ⟨t, rfl⟩ := Value.isStrOf_shape h; rfl
    · obtain ⟨t, rfl⟩ := Value.isInt_shape h; rfl
  pyHash := fun {A E s k v Q} hv h => by
    cases k <;> simp only [mixIs] at hv
    · obtain ⟨t, rfl⟩ := Value.isStrOf_shape hv; exact wpAny_pyHash_str h
    · obtain ⟨t, rfl⟩ := Value.isInt_shape hv; exact wpAny_pyHash_int h
  eqBool := fun {A E s a b u v Q} hu hv h => by
    cases a <;> cases b <;> simp only [mixIs] at hu hv
    · obtain ⟨t, rfl⟩ := Value.isStrOf_shape hu; obtain ⟨t', rfl⟩ := Value.isStrOf_shape hv; exact wpAny_eqBool_str (by simpa using h)
    · obtain ⟨t, rfl⟩ := Value.isStrOf_shape hu; obtain ⟨t', rfl⟩ := Value.isInt_shape hv; exact eqBool_str_int (by simpa using h)
    · obtain ⟨t, rfl⟩ := Value.isInt_shape hu; obtain ⟨t', rfl⟩ := Value.isStrOf_shape hv; exact eqBool_int_str (by simpa using h)
    · obtain ⟨t, rfl⟩ := Value.isInt_shape hu; obtain ⟨t', rfl⟩ := Value.isInt_shape hv
      refine wpAny_eqBool_int ?_
      rename_i x y
      have : (x == y) = decide ((Sum.inr x : Mix) = Sum.inr y) := by by_cases e : x = y <;> simp [e]
      rw [this]; exact h
  «strs» := fun k x t v h => by
    cases k <;> simp only [mixIs] at h
    · obtain ⟨u, hu⟩ := Value.isStrOf_shape h
      injection hu with hx
      subst hx
      cases v <;> rfl
    · simp [Value.isInt] at h
end Mine
end
-- Tup2
section
open PySem PySem.W PyProof.Rows
set_option Elab.async false
set_option linter.all false
namespace Mine
variable {C : Cx} {n : Nat} {sc : Scope} {Γ Γ' Γ'' : Gam} {env : Env} {Pr : Addr → Obj → Prop} {U m : Addr → Prop} {ad : Str → Option Addr} {s s' s₁ : Shared} {A : Ads}

abbrev TEnt := TKey × Addr × Value
noncomputable def mixK (k : TKey) : List Mix := [.inl k.1, .inr k.2.1, .inl k.2.2]
theorem mixK_inj {a b : TKey} (h : mixK a = mixK b) : a = b := by
  obtain ⟨a1, a2, a3⟩ := a; obtain ⟨b1, b2, b3⟩ := b
  simp [mixK] at h; simp [h]
noncomputable def KX (x : TEnt) : List Mix × Addr × Value := (mixK x.1, x.2.1, x.2.2)
noncomputable abbrev TK (C : Cx) := tupleKind (mixKind C.prog C.w)

theorem tk_is {h : Heap} {m : Addr → Prop} {k : TKey} {a : Addr} (x : tkObj (vw h m) k a) : IsTupleKey (mixKind C.prog C.w) h (mixK k) a := by
  obtain ⟨o, q, t1, t2, t3, h1, h2, h3, _⟩ := x
  refine ⟨o, _, q, h1.1, h2, h3, ?_⟩
  exact .cons (by simp [mixKind, mixIs, Value.isStrOf]) (.cons (by simp [mixKind, mixIs, Value.isInt]) (.cons (by simp [mixKind, mixIs, Value.isStrOf]) .nil))

theorem nodup_mixK : ∀ {l : List TKey}, l.Nodup → (l.map mixK).Nodup
  | [], _ => by simp
  | k :: l, h => by
    rw [List.nodup_cons] at h
    rw [List.map_cons, List.nodup_cons]
    refine ⟨fun hm => ?_, nodup_mixK h.2⟩
    obtain ⟨k', h1, h2⟩ := List.mem_map.mp hm
    exact h.1 (mixK_inj h2 ▸ h1)
theorem nodup_of_mixK : ∀ {l : List TKey}, (l.map mixK).Nodup → l.Nodup
  | [], _ => by simp
  | k :: l, h => by
    rw [List.map_cons, List.nodup_cons] at h
    rw [List.nodup_cons]
    exact ⟨fun hm => h.1 (List.mem_map_of_mem hm), nodup_of_mixK h.2⟩

theorem toH {h : Heap} {d : Addr} {o : Obj} {X : List TEnt} {es : Array DictEntry} {ep : Nat} (ho : h.get? d = some o) (h1 : o.ExactDict) (h2 : o.data = .dict es ep) (h3 : es.toList = X.map (fun x => ⟨tkHash C x.1, .ref x.2.1, x.2.2⟩)) (h4 : (X.map (·.1)).Nodup)
    (h5 : ∀ x ∈ X, tkObj (vw h m) x.1 x.2.1) : h.DictOfH (TK C) d (X.map KX) := by
  refine ⟨o, es, ep, ho, h1, h2, ?_, ?_, ?_⟩
  · rw [h3, List.map_map]; rfl
  · intro x hx
    obtain ⟨y, hy, rfl⟩ := List.mem_map.mp hx
    exact tk_is (h5 y hy)
  · rw [List.map_map]
    have := nodup_mixK h4
    rwa [List.map_map] at this
theorem fromH {h : Heap} {V : View} {d : Addr} {X : List TEnt} (hd : h.DictOfH (TK C) d (X.map KX)) (hk : ∀ x ∈ X, tkObj V x.1 x.2.1) : ∃ o, h.get? d = some o ∧ tupDict C V o (X.map fun x => (x.1, x.2.2)) := by
  obtain ⟨o, es, ep, ho, h1, h2, h3, _, h5⟩ := hd
  refine ⟨o, ho, X, es, ep, rfl, h1, h2, ?_, ?_, hk⟩
  · rw [h3, List.map_map]; rfl
  · rw [List.map_map] at h5
    refine nodup_of_mixK ?_
    rw [List.map_map]; exact h5

noncomputable def putX (X : List TEnt) (k : TKey) (a : Addr) (v : Value) : List TEnt := if k ∈ X.map (·.1) then X.map (fun x => if x.1 = k then (x.1, x.2.1, v) else x) else X ++ [(k, a, v)]

theorem atKey_KX (X : List TEnt) (k : TKey) : atKey (X.map KX) (mixK k) = (X.find? fun x => x.1 = k).map (·.2) := by
  unfold atKey
  rw [List.find?_map, Option.map_map]
  have : ((fun x : List Mix × Addr × Value => decide (x.1 = mixK k)) ∘ KX) = fun x : TEnt => decide (x.1 = k) := by
    funext x
    simp only [Function.comp, KX]
    by_cases h : x.1 = k
    · simp [h]
    · have : ¬ mixK x.1 = mixK k := fun e => h (mixK_inj e)
      simp [h, this]
  rw [this]; rfl
theorem storedH_KX (X : List TEnt) (k : TKey) (a : Addr) (v : Value) : storedH (X.map KX) (mixK k) a v = (putX X k a v).map KX := by
  cases e : X.find? fun x => x.1 = k with
  | none =>
    rw [storedH_new (by rw [atKey_KX, e]; rfl)]
    have : k ∉ X.map (·.1) := by
      intro hm
      obtain ⟨x, hx, hk⟩ := List.mem_map.mp hm
      have := List.find?_eq_none.mp e x hx
      simp [hk] at this
    unfold putX; rw [if_neg this]; simp [KX]
  | some y =>
    rw [storedH_old (p := y.2) (by rw [atKey_KX, e]; rfl)]
    have : k ∈ X.map (·.1) := List.mem_map.mpr ⟨y, List.mem_of_find?_eq_some e, by simpa using List.find?_some e⟩
    unfold putX; rw [if_pos this, List.map_map, List.map_map]
    refine List.map_congr_left fun x _ => ?_
    simp only [Function.comp, putAt, KX]
    by_cases h : x.1 = k
    · simp [h]
    · have : ¬ mixK x.1 = mixK k := fun e => h (mixK_inj e)
      simp [h, this]
theorem putX_kvs (X : List TEnt) (k : TKey) (a : Addr) (v : Value) : (putX X k a v).map (fun x => (x.1, x.2.2)) = putT (X.map fun x => (x.1, x.2.2)) k v := by
  unfold putX putT
  have e : (X.map fun x => (x.1, x.2.2)).map (·.1) = X.map (·.1) := by rw [List.map_map]; rfl
  rw [e]
  split
  · rw [List.map_map, List.map_map]
    refine List.map_congr_left fun x _ => ?_
    simp only [Function.comp]; split <;> rfl
  · simp
theorem putT_keys {α β : Type} {l : List (TKey × α)} {l' : List (TKey × β)} (e : l.map (·.1) = l'.map (·.1)) (k : TKey) (d : α) (d' : β) : (putT l k d).map (·.1) = (putT l' k d').map (·.1) := by
  have : ∀ {γ : Type} (l : List (TKey × γ)) (d : γ), (putT l k d).map (·.1) = if k ∈ l.map (·.1) then l.map (·.1) else l.map (·.1) ++ [k] := by
    intro γ l d
    unfold putT
    split
    · rw [List.map_map]; refine List.map_congr_left fun x _ => ?_
      simp only [Function.comp]; split <;> rfl
    · simp
  rw [this, this, e]
theorem putT_rep {V : View} : ∀ {kvs : List (TKey × Value)} {l : List (TKey × D)}, kvs.map (·.1) = l.map (·.1) → RepL C V (kvs.map (·.2)) (l.map (·.2)) → ∀ {k v d}, Rep C V v d → RepL C V ((putT kvs k v).map (·.2)) ((putT l k d).map (·.2)) := by
  intro kvs l e hr k v d hv
  unfold putT
  rw [e]
  split
  · rename_i hm
    clear hm
    induction kvs generalizing l with
    | nil => cases l with
      | nil => exact .nil
      | cons _ _ => simp at e
    | cons x kvs ih => cases l with
      | nil => simp at e
      | cons y l =>
        simp only [List.map_cons, List.cons.injEq] at e
        cases hr using RepL.caseCons with
        | cons r rs =>
          simp only [List.map_cons]
          refine .cons ?_ (ih e.2 rs)
          rw [e.1]; split
          · exact hv
          · exact r
  · rw [List.map_append, List.map_append]
    exact hr.append (.cons hv .nil)
theorem find_rep {V : View} {kvs : List (TKey × Value)} {l : List (TKey × D)} (e : kvs.map (·.1) = l.map (·.1)) (hr : RepL C V (kvs.map (·.2)) (l.map (·.2))) {k d} (h : (l.find? fun p => p.1 = k).map (·.2) = some d) : ∃ v, (kvs.find? fun p => p.1 = k).map (·.2) = some v ∧ Rep C V v d :=
  _root_.Mine.V.valueAt_rep e hr h
end Mine
end
-- RawIt
section
open PySem PySem.W PyProof.Rows
open Sem (wp)
set_option Elab.async false
set_option linter.all false
namespace Mine
variable {prog : Program} {w : World} {A : Around} {E : Value → Shared → Prop} {s : Shared}

/-- a dict with its entries, whatever the keys -/
noncomputable def DRaw (h : Heap) (d : Addr) (es : Array DictEntry) (ep : Nat) : Prop := ∃ o, h.get? d = some o ∧ o.ExactDict ∧ o.data = .dict es ep
theorem DRaw.at {h h' : Heap} {d es ep} (x : DRaw h d es ep) (e : ∀ o, h.get? d = some o → h'.get? d = some o) : DRaw h' d es ep := let ⟨o, ho, r⟩ := x; ⟨o, e _ ho, r⟩
theorem DRaw.typeIs {d es ep} (x : DRaw s.heap d es ep) : s.TypeIs (.ref d) "dict" := let ⟨o, ho, hc, _⟩ := x; ⟨o, ho, hc.1⟩

theorem raw_iter {d : Addr} {es : Array DictEntry} {ep : Nat} {Q : Value → Shared → Prop} (hd : (d == sysModules) = false) (hm : DRaw s.heap d es ep)
    (hQ : Q (.ref s.heap.objs.size) { s with heap := s.heap.push { cls := .type "dict_keyiterator", data := .fields #[.ref d, .int 0 0, .int es.size 0, .int ep 0] } }) :
    wpAny (model prog w) A (pyIter (.ref d)) Q E s := by
  have hT := hm.typeIs
  obtain ⟨o, ho, hc, hdat⟩ := hm
  refine wpAny_pyIter_slot hT F.slot_dict_iter (wpAny_call_entry F.slot_dict_iter hT F.entry_dict_iter ?_ (F.args_dict_iter_1 _))
  unfold Builtin.«dict.__iter__»
  refine wpAny_bind ?_
  unfold Builtin.Dict.dictSlotNone
  refine wpAny_bind (wpAny_notOrdered_dict hT ?_)
  refine wpAny_pure ?_
  show wpAny _ _ (Builtin.Dict.showsAll d >>= _) _ _ s
  unfold Builtin.Dict.showsAll
  rw [if_neg (by rw [hd]; exact Bool.false_ne_true)]
  refine wpAny_bind (wpAny_pure (wpAny_bind (wpAny_dictEntries ho hdat (wpAny_bind (wpAny_dictEpoch ho hdat ?_)))))
  refine wpAny_bind (wpAny_newObj_type (wpAny_pure ⟨_, rfl, "dict_keyiterator", _, ⟨_, Heap.get?_push_size _ rfl, rfl⟩, F.slot_dict_keyiterator_next.lookup, ?_⟩))
  simpa [rawInt] using hQ

theorem raw_iter_values {v d : Addr} {es : Array DictEntry} {ep : Nat} {Q : Value → Shared → Prop} (hv : s.heap.IsValuesView v d) (hm : DRaw s.heap d es ep)
    (hQ : Q (.ref s.heap.objs.size) { s with heap := s.heap.push { cls := .type "dict_valueiterator", data := .fields #[.ref d, .int 0 0, .int es.size 0, .int ep 0] } }) :
    wpAny (model prog w) A (pyIter (.ref v)) Q E s := by
  obtain ⟨ov, hov, hcv, hdv⟩ := id hv
  obtain ⟨o, ho, hc, hdat⟩ := hm
  refine wpAny_pyIter_slot hv.typeIs F.slot_dict_values_iter (wpAny_call_entry F.slot_dict_values_iter hv.typeIs F.entry_dict_values_iter ?_ (F.args_dict_values_iter_1 _))
  unfold Builtin.«dict_values.__iter__»
  refine wpAny_bind (wpAny_pure (wpAny_bind ?_))
  unfold Builtin.Dict_items.dictOf
  refine wpAny_bind (wpAny_field hov hdv (x := .ref d) rfl (wpAny_pure (wpAny_bind ?_)))
  unfold Builtin.Dict_items.newIterator
  refine wpAny_bind (wpAny_dictEntries ho hdat (wpAny_bind (wpAny_dictEpoch ho hdat ?_)))
  simp only [show Builtin.Dict_items.ownsTuple "dict_valueiterator" = false by decide, Bool.false_eq_true, if_false]
  refine wpAny_newObj_type (wpAny_pure ⟨_, rfl, "dict_valueiterator", _, ⟨_, Heap.get?_push_size _ rfl, rfl⟩, F.slot_dict_valueiterator_next.lookup, ?_⟩)
  simpa [rawInt] using hQ

theorem raw_iter_items {v d : Addr} {es : Array DictEntry} {ep : Nat} {Q : Value → Shared → Prop} (hv : s.heap.IsItemsView v d) (hm : DRaw s.heap d es ep)
    (hQ : Q (.ref s.heap.objs.size) { s with heap := s.heap.push { cls := .type "dict_itemiterator", data := .fields #[.none, .bool false, .ref d, .int 0 0, .int es.size 0, .int ep 0, .none, .none] } }) :
    wpAny (model prog w) A (pyIter (.ref v)) Q E s := by
  obtain ⟨ov, hov, hcv, hdv⟩ := id hv
  obtain ⟨o, ho, hc, hdat⟩ := hm
  refine wpAny_pyIter_slot hv.typeIs F.slot_dict_items_iter (wpAny_call_entry F.slot_dict_items_iter hv.typeIs F.entry_dict_items_iter ?_ (F.args_dict_items_iter_1 _))
  unfold Builtin.«dict_items.__iter__»
  refine wpAny_bind (wpAny_pure (wpAny_bind ?_))
  unfold Builtin.Dict_items.dictOf
  refine wpAny_bind (wpAny_field hov hdv (x := .ref d) rfl (wpAny_pure (wpAny_bind ?_)))
  unfold Builtin.Dict_items.newIterator
  refine wpAny_bind (wpAny_dictEntries ho hdat (wpAny_bind (wpAny_dictEpoch ho hdat ?_)))
  simp only [show Builtin.Dict_items.ownsTuple "dict_itemiterator" = true by decide, if_true]
  refine wpAny_newObj_type (wpAny_pure ⟨_, rfl, "dict_itemiterator", _, ⟨_, Heap.get?_push_size _ rfl, rfl⟩, F.slot_dict_itemiterator_next.lookup, ?_⟩)
    (by simp only [sizeOk, Builtin.Dict_items.ownedTupleFields, List.size_toArray, List.length_append, List.length_cons, List.length_nil, sizeLine_eq]; omega)
  simpa [rawInt, Builtin.Dict_items.ownedTupleFields] using hQ

/-- the end of an iterator: StopIteration, caught by the loop -/
theorem raw_stop {it : Addr} {h₀ h' : Heap} {g d tk os} {E' : Value → Shared → Prop} (hh : A.handled = none) (hs : Heap.ExtBut it h₀ h')
    (hE : ∀ e h'', Heap.ExtBut it h₀ h'' → (∃ o, h''.get? e = some o ∧ o.cls = .type "StopIteration") → E' (.ref e) ⟨h'', g, d, tk, os⟩) {R : Fin → Shared → Prop} :
    wpAny (model prog w) A (do raiseNew (← newExc (.type "StopIteration") []) : Sem Fin) R E' ⟨h', g, d, tk, os⟩ := by
  refine wpAny_bind ?_
  simp only [newExc, newTuple]
  refine wpAny_bind (wpAny_newObj_type ?_ (by size_fits))
  refine wpAny_bind (m := firstArgMember _ _) (wpAny_of_eq (a := Value.none) (by first | rfl | (simp only [firstArgMember]; rfl)) ?_)
  refine wpAny_newObj_type ?_ (by size_fits)
  simp only [raiseNew]
  refine wpAny_bind (wpAny_handled ?_)
  rw [hh]
  exact wpAny_bind (wpAny_pure (wpAny_throw (hE _ _ ((hs.push _).push _) ⟨_, Heap.get?_push_size _ rfl, rfl⟩)))

theorem raw_keys_item {it d : Addr} {i ep : Nat} {es : Array DictEntry} {e : DictEntry} {Q : Option Value → Shared → Prop} (hit : s.heap.IsKeyIter it d i es.size ep) (hm : DRaw s.heap d es ep) (hx : es[i]? = some e)
    (hQ : ∀ h', h'.IsKeyIter it d (i + 1) es.size ep → Heap.SameBut it s.heap h' → Q (some e.key) { s with heap := h' }) : wpAny (model prog w) A (pyNext (.ref it)) Q E s := by
  obtain ⟨o, ho, hc, hd⟩ := id hit
  obtain ⟨od, hod, hcd, hdd⟩ := id hm
  unfold pyNext
  refine wpAny_bind (wpAny_attempt (wpAny_callSpecial?_slot (name := Str.ofString "__next__") hit.typeIs F.slot_dict_keyiterator_next
    (wpAny_call_entry F.slot_dict_keyiterator_next hit.typeIs F.entry_dict_keyiterator_next ?_ (F.args_dict_keyiterator_next_1 _))))
  refine wpAny_bind (wpAny_pure (wpAny_bind (wpAny_bind (wpAny_bind (wpAny_typeNameOfWhole_keyiter hit.typeIs (wpAny_pure ?_))))))
  refine wpAny_bind (wpAny_fieldsOf ho hd ?_)
  rw [if_neg (show ¬ (Builtin.Dict_items.ownsTuple "dict_keyiterator" = true) by decide)]
  show wpAny _ _ (if (Value.ref d == Value.none) = true then _ else _) _ _ s
  rw [if_neg (show ¬ ((Value.ref d == Value.none) = true) from Bool.false_ne_true)]
  refine wpAny_bind (wpAny_pure (wpAny_bind (wpAny_dictEntries hod hdd ?_)))
  rw [if_neg (by simp)]
  refine wpAny_bind (wpAny_pure (wpAny_bind (wpAny_dictEpoch hod hdd ?_)))
  rw [if_neg (by simp)]
  refine wpAny_pure ?_
  simp only [show ¬ ((i : Int) < 0) from by omega, if_false, Int.toNat_natCast, hx]
  refine wpAny_bind (wpAny_bind (wpAny_typeNameOfWhole_keyiter hit.typeIs (wpAny_pure (wpAny_bind (wpAny_isOneOf_keyiter hit.typeIs ?_)))))
  show wpAny _ _ (setField (.ref it) 1 (rawInt ((i : Int) + 1)) >>= _) _ _ s
  refine wpAny_bind (wpAny_setField ho hd (by simp) ?_)
  have hit' : (s.heap.update it (Obj.mapFields (·.setIfInBounds 1 (rawInt ((i : Int) + 1))))).IsKeyIter it d (i + 1) es.size ep :=
    ⟨_, Heap.get?_update_self _ ho (Obj.isFreed_of_fields (Obj.data_mapFields hd _)), (Obj.cls_mapFields ..).trans hc, by rw [Obj.data_mapFields hd]; simp [rawInt]⟩
  refine wpAny_bind (wpAny_holding ?_)
  refine wpAny_bind (wpAny_isOneOf_keyiter (s := { s with heap := s.heap.update it (Obj.mapFields (·.setIfInBounds 1 (rawInt ((i : Int) + 1)))) }) hit'.typeIs ?_)
  show wpAny _ _ (pure e.key) _ _ _
  exact wpAny_pure (wpAny_pure ⟨_, rfl, wpAny_pure (hQ _ hit' (Heap.SameBut.update ..))⟩)

theorem raw_keys_end {it d : Addr} {i ep : Nat} {es : Array DictEntry} {Q : Option Value → Shared → Prop} (hh : A.handled = none) (hit : s.heap.IsKeyIter it d i es.size ep) (hm : DRaw s.heap d es ep) (hx : es.size ≤ i)
    (hQ : ∀ h', Heap.ExtBut it s.heap h' → Q none { s with heap := h' }) : wpAny (model prog w) A (pyNext (.ref it)) Q E s := by
  obtain ⟨o, ho, hc, hd⟩ := id hit
  obtain ⟨od, hod, hcd, hdd⟩ := id hm
  unfold pyNext
  refine wpAny_bind (wpAny_attempt (wpAny_callSpecial?_slot (name := Str.ofString "__next__") hit.typeIs F.slot_dict_keyiterator_next
    (wpAny_call_entry F.slot_dict_keyiterator_next hit.typeIs F.entry_dict_keyiterator_next ?_ (F.args_dict_keyiterator_next_1 _))))
  refine wpAny_bind (wpAny_pure (wpAny_bind (wpAny_bind (wpAny_bind (wpAny_typeNameOfWhole_keyiter hit.typeIs (wpAny_pure ?_))))))
  refine wpAny_bind (wpAny_fieldsOf ho hd ?_)
  rw [if_neg (show ¬ (Builtin.Dict_items.ownsTuple "dict_keyiterator" = true) by decide)]
  show wpAny _ _ (if (Value.ref d == Value.none) = true then _ else _) _ _ s
  rw [if_neg (show ¬ ((Value.ref d == Value.none) = true) from Bool.false_ne_true)]
  refine wpAny_bind (wpAny_pure (wpAny_bind (wpAny_dictEntries hod hdd ?_)))
  rw [if_neg (by simp)]
  refine wpAny_bind (wpAny_pure (wpAny_bind (wpAny_dictEpoch hod hdd ?_)))
  rw [if_neg (by simp)]
  refine wpAny_pure ?_
  simp only [show ¬ ((i : Int) < 0) from by omega, if_false, Int.toNat_natCast, Array.getElem?_eq_none hx]
  refine wpAny_bind (wpAny_bind (wpAny_typeNameOfWhole_keyiter hit.typeIs (wpAny_pure ?_)))
  show wpAny _ _ (setField (.ref it) 0 .none >>= _) _ _ s
  refine wpAny_bind (wpAny_setField ho hd (by simp) ?_)
  refine raw_stop (A := A.in1) (it := it) (h₀ := s.heap) (show A.in1.handled = none from hh) (Heap.SameBut.update ..).extBut fun e h'' he hT => ?_
  exact wpAny_bind (wpAny_isInstance (T := "StopIteration") (b := true) hT isSubtype_stop (wpAny_pure (hQ _ he)))

theorem raw_vals_item {it d : Addr} {i ep : Nat} {es : Array DictEntry} {e : DictEntry} {Q : Option Value → Shared → Prop} (hit : s.heap.IsValIter it d i es.size ep) (hm : DRaw s.heap d es ep) (hx : es[i]? = some e)
    (hQ : ∀ h', h'.IsValIter it d (i + 1) es.size ep → Heap.SameBut it s.heap h' → Q (some e.val) { s with heap := h' }) : wpAny (model prog w) A (pyNext (.ref it)) Q E s := by
  obtain ⟨o, ho, hc, hd⟩ := id hit
  obtain ⟨od, hod, hcd, hdd⟩ := id hm
  unfold pyNext
  refine wpAny_bind (wpAny_attempt (wpAny_callSpecial?_slot (name := Str.ofString "__next__") hit.typeIs F.slot_dict_valueiterator_next
    (wpAny_call_entry F.slot_dict_valueiterator_next hit.typeIs F.entry_dict_valueiterator_next ?_ (F.args_dict_valueiterator_next_1 _))))
  refine wpAny_bind (wpAny_pure (wpAny_bind (wpAny_bind (wpAny_bind (wpAny_typeNameOfWhole_valiter hit.typeIs (wpAny_pure ?_))))))
  refine wpAny_bind (wpAny_fieldsOf ho hd ?_)
  rw [if_neg (show ¬ (Builtin.Dict_items.ownsTuple "dict_valueiterator" = true) by decide)]
  show wpAny _ _ (if (Value.ref d == Value.none) = true then _ else _) _ _ s
  rw [if_neg (show ¬ ((Value.ref d == Value.none) = true) from Bool.false_ne_true)]
  refine wpAny_bind (wpAny_pure (wpAny_bind (wpAny_dictEntries hod hdd ?_)))
  rw [if_neg (by simp)]
  refine wpAny_bind (wpAny_pure (wpAny_bind (wpAny_dictEpoch hod hdd ?_)))
  rw [if_neg (by simp)]
  refine wpAny_pure ?_
  simp only [show ¬ ((i : Int) < 0) from by omega, if_false, Int.toNat_natCast, hx]
  refine wpAny_bind (wpAny_bind (wpAny_typeNameOfWhole_valiter hit.typeIs (wpAny_pure (wpAny_bind (wpAny_isOneOf_valiter hit.typeIs ?_)))))
  show wpAny _ _ (setField (.ref it) 1 (rawInt ((i : Int) + 1)) >>= _) _ _ s
  refine wpAny_bind (wpAny_setField ho hd (by simp) ?_)
  have hit' : (s.heap.update it (Obj.mapFields (·.setIfInBounds 1 (rawInt ((i : Int) + 1))))).IsValIter it d (i + 1) es.size ep :=
    ⟨_, Heap.get?_update_self _ ho (Obj.isFreed_of_fields (Obj.data_mapFields hd _)), (Obj.cls_mapFields ..).trans hc, by rw [Obj.data_mapFields hd]; simp [rawInt]⟩
  refine wpAny_bind (wpAny_holding ?_)
  refine wpAny_bind (wpAny_isOneOf_valiter (s := { s with heap := s.heap.update it (Obj.mapFields (·.setIfInBounds 1 (rawInt ((i : Int) + 1)))) }) hit'.typeIs ?_)
  refine wpAny_bind (wpAny_isOneOf_valiter (s := { s with heap := s.heap.update it (Obj.mapFields (·.setIfInBounds 1 (rawInt ((i : Int) + 1)))) }) hit'.typeIs ?_)
  show wpAny _ _ (pure e.val) _ _ _
  exact wpAny_pure (wpAny_pure ⟨_, rfl, wpAny_pure (hQ _ hit' (Heap.SameBut.update ..))⟩)

theorem raw_vals_end {it d : Addr} {i ep : Nat} {es : Array DictEntry} {Q : Option Value → Shared → Prop} (hh : A.handled = none) (hit : s.heap.IsValIter it d i es.size ep) (hm : DRaw s.heap d es ep) (hx : es.size ≤ i)
    (hQ : ∀ h', Heap.ExtBut it s.heap h' → Q none { s with heap := h' }) : wpAny (model prog w) A (pyNext (.ref it)) Q E s := by
  obtain ⟨o, ho, hc, hd⟩ := id hit
  obtain ⟨od, hod, hcd, hdd⟩ := id hm
  unfold pyNext
  refine wpAny_bind (wpAny_attempt (wpAny_callSpecial?_slot (name := Str.ofString "__next__") hit.typeIs F.slot_dict_valueiterator_next
    (wpAny_call_entry F.slot_dict_valueiterator_next hit.typeIs F.entry_dict_valueiterator_next ?_ (F.args_dict_valueiterator_next_1 _))))
  refine wpAny_bind (wpAny_pure (wpAny_bind (wpAny_bind (wpAny_bind (wpAny_typeNameOfWhole_valiter hit.typeIs (wpAny_pure ?_))))))
  refine wpAny_bind (wpAny_fieldsOf ho hd ?_)
  rw [if_neg (show ¬ (Builtin.Dict_items.ownsTuple "dict_valueiterator" = true) by decide)]
  show wpAny _ _ (if (Value.ref d == Value.none) = true then _ else _) _ _ s
  rw [if_neg (show ¬ ((Value.ref d == Value.none) = true) from Bool.false_ne_true)]
  refine wpAny_bind (wpAny_pure (wpAny_bind (wpAny_dictEntries hod hdd ?_)))
  rw [if_neg (by simp)]
  refine wpAny_bind (wpAny_pure (wpAny_bind (wpAny_dictEpoch hod hdd ?_)))
  rw [if_neg (by simp)]
  refine wpAny_pure ?_
  simp only [show ¬ ((i : Int) < 0) from by omega, if_false, Int.toNat_natCast, Array.getElem?_eq_none hx]
  refine wpAny_bind (wpAny_bind (wpAny_typeNameOfWhole_valiter hit.typeIs (wpAny_pure ?_)))
  show wpAny _ _ (setField (.ref it) 0 .none >>= _) _ _ s
  refine wpAny_bind (wpAny_setField ho hd (by simp) ?_)
  refine raw_stop (A := A.in1) (it := it) (h₀ := s.heap) (show A.in1.handled = none from hh) (Heap.SameBut.update ..).extBut fun e h'' he hT => ?_
  exact wpAny_bind (wpAny_isInstance (T := "StopIteration") (b := true) hT isSubtype_stop (wpAny_pure (hQ _ he)))

theorem raw_items_item {it d : Addr} {i ep : Nat} {es : Array DictEntry} {e : DictEntry} {ok ov : Value} {Q : Option Value → Shared → Prop} (hit : IsItemIter s.heap it d i es.size ep ok ov) (hm : DRaw s.heap d es ep) (hx : es[i]? = some e)
    (hQ : ∀ h', IsItemIterOut h' it d (i + 1) es.size ep e.key e.val s.heap.objs.size → h'.get? s.heap.objs.size = some { cls := .type "tuple", data := .seq #[e.key, e.val] } → h'.objs.size = s.heap.objs.size + 1 →
      (∀ b o, b ≠ it → s.heap.get? b = some o → h'.get? b = some o) → Q (some (.ref s.heap.objs.size)) { s with heap := h' }) : wpAny (model prog w) A (pyNext (.ref it)) Q E s := by
  obtain ⟨hp, g, dr, tk, os⟩ := s
  obtain ⟨od, hod, hcd, hdd⟩ := id hm
  have hT : Shared.TypeIs ⟨hp, g, dr, tk, os⟩ (.ref it) "dict_itemiterator" := ⟨_, hit, rfl⟩
  unfold pyNext
  refine wpAny_bind (wpAny_attempt (wpAny_callSpecial?_slot (name := Str.ofString "__next__") hT F.slot_dict_itemiterator_next
    (wpAny_call_entry F.slot_dict_itemiterator_next hT F.entry_dict_itemiterator_next ?_ (F.args_dict_itemiterator_next_1 _))))
  refine wpAny_bind (wpAny_pure (wpAny_bind (wpAny_bind (wpAny_bind (wpAny_typeNameOfWhole_itemiter hT (wpAny_pure ?_))))))
  refine wpAny_bind (wpAny_fieldsOf hit rfl ?_)
  rw [if_pos (show Builtin.Dict_items.ownsTuple "dict_itemiterator" = true by decide)]
  show wpAny _ _ (if (Value.ref d == Value.none) = true then _ else _) _ _ _
  rw [if_neg (show ¬ ((Value.ref d == Value.none) = true) from Bool.false_ne_true)]
  refine wpAny_bind (wpAny_pure (wpAny_bind (wpAny_dictEntries hod hdd ?_)))
  rw [if_neg (by simp)]
  refine wpAny_bind (wpAny_pure (wpAny_bind (wpAny_dictEpoch hod hdd ?_)))
  rw [if_neg (by simp)]
  refine wpAny_pure ?_
  simp only [show ¬ ((i : Int) < 0) from by omega, if_false, Int.toNat_natCast, hx]
  refine wpAny_bind (wpAny_bind (wpAny_typeNameOfWhole_itemiter hT (wpAny_pure (wpAny_bind (wpAny_isOneOf_itemiter hT ?_)))))
  show wpAny _ _ (setField (.ref it) 3 (rawInt ((i : Int) + 1)) >>= _) _ _ ⟨hp, g, dr, tk, os⟩
  refine wpAny_bind (wpAny_setField_rec hit (by simp) fun h₁ he₁ hs₁ => ?_)
  replace hs₁ : Heap.SameBut it hp h₁ := hs₁
  replace he₁ : IsItemIter h₁ it d (i + 1) es.size ep ok ov := by
    have e : ((i + 1 : Nat) : Int) = (i : Int) + 1 := by omega
    unfold IsItemIter; rw [e]; simpa [rawInt] using he₁
  have hT₁ : Shared.TypeIs ⟨h₁, g, dr, tk, os⟩ (.ref it) "dict_itemiterator" := ⟨_, he₁, rfl⟩
  refine wpAny_bind (wpAny_holding (wpAny_bind (wpAny_isOneOf_itemiter hT₁ (wpAny_bind (wpAny_isOneOf_itemiter hT₁ ?_)))))
  show wpAny _ _ (Builtin.Dict_items.pairFromOwner (.ref it) 6 e.key e.val) _ _ ⟨h₁, g, dr, tk, os⟩
  unfold Builtin.Dict_items.pairFromOwner
  refine wpAny_bind (wpAny_newTuple ?_)
  have he₂ : IsItemIter (h₁.push { cls := .type "tuple", data := .seq #[e.key, e.val] }) it d (i + 1) es.size ep ok ov := Heap.get?_push_of_some _ he₁
  generalize hh₂ : h₁.push { cls := .type "tuple", data := .seq #[e.key, e.val] } = h₂ at he₂
  have hz₁ : h₁.objs.size = hp.objs.size := hs₁.1
  have hil : it < hp.objs.size := Heap.lt_size hit
  have ht₂ : h₂.get? hp.objs.size = some { cls := .type "tuple", data := .seq #[e.key, e.val] } := by rw [← hh₂, ← hz₁]; exact Heap.get?_push_size _ rfl
  have hz₂ : h₂.objs.size = hp.objs.size + 1 := by rw [← hh₂, Heap.size_push, hz₁]
  have hk₂ : ∀ b o, b ≠ it → hp.get? b = some o → h₂.get? b = some o := fun b o hb e => by rw [← hh₂]; exact Heap.get?_push_of_some _ (hs₁.extBut b o hb e)
  show wpAny _ _ (Builtin.Dict_items.ownedTupleIsFree (.ref it) >>= _) _ _ ⟨h₂, g, dr, tk, os⟩
  rw [hz₁]
  clear hh₂ he₁ hs₁ hT₁ hz₁ h₁
  refine wpAny_bind ?_
  unfold Builtin.Dict_items.ownedTupleIsFree
  refine wpAny_bind (wpAny_field he₂ rfl (x := .none) rfl (wpAny_pure ?_))
  simp only [if_true]
  refine wpAny_bind (wpAny_field he₂ rfl (x := ok) rfl (wpAny_bind (wpAny_field he₂ rfl (x := ov) rfl ?_)))
  refine wpAny_bind (wpAny_setField_rec he₂ (by simp) fun h₃ he₃ hs₃ => ?_)
  replace hs₃ : Heap.SameBut it h₂ h₃ := hs₃
  replace he₃ : IsItemIter h₃ it d (i + 1) es.size ep e.key ov := he₃
  refine wpAny_bind (wpAny_setField_rec he₃ (by simp) fun h₄ he₄ hs₄ => ?_)
  replace hs₄ : Heap.SameBut it h₃ h₄ := hs₄
  replace he₄ : IsItemIter h₄ it d (i + 1) es.size ep e.key e.val := he₄
  refine wpAny_bind (wpAny_setField_rec he₄ (by simp) fun h₅ he₅ hs₅ => ?_)
  replace hs₅ : Heap.SameBut it h₄ h₅ := hs₅
  replace he₅ : IsItemIterOut h₅ it d (i + 1) es.size ep e.key e.val hp.objs.size := he₅
  refine wpAny_bind (wpAny_setField_rec he₅ (by simp) fun h₆ he₆ hs₆ => ?_)
  replace hs₆ : Heap.SameBut it h₅ h₆ := hs₆
  replace he₆ : IsItemIterOut h₆ it d (i + 1) es.size ep e.key e.val hp.objs.size := he₆
  have hs : Heap.SameBut it h₂ h₆ := ((hs₃.trans hs₄).trans hs₅).trans hs₆
  exact wpAny_bind (wpAny_letGo (wpAny_pure (wpAny_pure ⟨_, rfl, wpAny_pure (hQ h₆ he₆ (hs.extBut _ _ (Nat.ne_of_gt hil) ht₂) (hs.1.trans hz₂) fun b o hb e => hs.extBut b o hb (hk₂ b o hb e))⟩)))

theorem raw_items_end {it d : Addr} {i ep : Nat} {es : Array DictEntry} {ok ov : Value} {Q : Option Value → Shared → Prop} (hh : A.handled = none) (hit : IsItemIter s.heap it d i es.size ep ok ov) (hm : DRaw s.heap d es ep) (hx : es.size ≤ i)
    (hQ : ∀ h', Heap.ExtBut it s.heap h' → Q none { s with heap := h' }) : wpAny (model prog w) A (pyNext (.ref it)) Q E s := by
  obtain ⟨od, hod, hcd, hdd⟩ := id hm
  have hT : s.TypeIs (.ref it) "dict_itemiterator" := ⟨_, hit, rfl⟩
  unfold pyNext
  refine wpAny_bind (wpAny_attempt (wpAny_callSpecial?_slot (name := Str.ofString "__next__") hT F.slot_dict_itemiterator_next
    (wpAny_call_entry F.slot_dict_itemiterator_next hT F.entry_dict_itemiterator_next ?_ (F.args_dict_itemiterator_next_1 _))))
  refine wpAny_bind (wpAny_pure (wpAny_bind (wpAny_bind (wpAny_bind (wpAny_typeNameOfWhole_itemiter hT (wpAny_pure ?_))))))
  refine wpAny_bind (wpAny_fieldsOf hit rfl ?_)
  rw [if_pos (show Builtin.Dict_items.ownsTuple "dict_itemiterator" = true by decide)]
  show wpAny _ _ (if (Value.ref d == Value.none) = true then _ else _) _ _ s
  rw [if_neg (show ¬ ((Value.ref d == Value.none) = true) from Bool.false_ne_true)]
  refine wpAny_bind (wpAny_pure (wpAny_bind (wpAny_dictEntries hod hdd ?_)))
  rw [if_neg (by simp)]
  refine wpAny_bind (wpAny_pure (wpAny_bind (wpAny_dictEpoch hod hdd ?_)))
  rw [if_neg (by simp)]
  refine wpAny_pure ?_
  simp only [show ¬ ((i : Int) < 0) from by omega, if_false, Int.toNat_natCast, Array.getElem?_eq_none hx]
  refine wpAny_bind (wpAny_bind (wpAny_typeNameOfWhole_itemiter hT (wpAny_pure ?_)))
  show wpAny _ _ (setField (.ref it) 2 .none >>= _) _ _ s
  refine wpAny_bind (wpAny_setField hit rfl (by simp) ?_)
  refine raw_stop (A := A.in1) (it := it) (h₀ := s.heap) (show A.in1.handled = none from hh) (Heap.SameBut.update ..).extBut fun e h'' he hT => ?_
  exact wpAny_bind (wpAny_isInstance (T := "StopIteration") (b := true) hT isSubtype_stop (wpAny_pure (hQ _ he)))
end Mine
end
-- TSrc
section
open PySem PySem.W PyProof.Rows
set_option Elab.async false
set_option linter.all false
namespace Mine
variable {C : Cx} {n : Nat} {sc : Scope} {Γ Γ' Γ'' : Gam} {env : Env} {Pr : Addr → Obj → Prop} {U m : Addr → Prop} {ad : Str → Option Addr} {s s' s₁ : Shared} {A : Ads}

theorem keyRep {V : View} {k : TKey} {a : Addr} (h : tkObj V k a) : Rep C V (.ref a) (keyD k) := by
  obtain ⟨o, n, t1, t2, t3, h1, h2, h3, h4⟩ := h
  exact .tup h1 h2 h3 (.cons (.str _ _) (.cons (.int _ _) (.cons (.str _ _) .nil))) h4

section
variable {prog : Program} {w : World} {A : Around} {E : Value → Shared → Prop} {s : Shared}
theorem rawKeys (hh : A.handled = none) (I d : Addr) (hne : d ≠ I) (es : Array DictEntry) (ep : Nat) :
    Walks prog w A I [I, d] [I] es.size (fun i v => ∃ e, es[i]? = some e ∧ v = e.key) (fun i h => h.IsKeyIter I d i es.size ep ∧ DRaw h d es ep) where
  sub := fun b hb => by simp at hb; simp [hb]
  frame := fun _ _ _ st hk => ⟨st.1.at fun o e => hk I (by simp) o e, st.2.at fun o e => hk d (by simp) o e⟩
  item := fun i s Q E hi st hQ => by
    refine raw_keys_item st.1 st.2 (e := es[i]) (by simp [hi]) fun h' hit' hs' => ?_
    exact hQ _ h' s.toks ⟨es[i], by simp [hi], rfl⟩ ⟨hit', st.2.at fun o e => hs'.extBut d o hne e⟩ fun b o hb e => hs'.extBut b o (fun h => hb (by simp [h])) e
  done := fun s Q E st hQ => raw_keys_end hh st.1 st.2 (Nat.le_refl _) fun h' he' => hQ h' s.toks fun b o hb e => he' b o (fun h => hb (by simp [h])) e
  self := fun _ _ _ _ st hQ => wpAny_pyIter_keyiter st.1 hQ
theorem rawVals (hh : A.handled = none) (I d : Addr) (hne : d ≠ I) (es : Array DictEntry) (ep : Nat) :
    Walks prog w A I [I, d] [I] es.size (fun i v => ∃ e, es[i]? = some e ∧ v = e.val) (fun i h => h.IsValIter I d i es.size ep ∧ DRaw h d es ep) where
  sub := fun b hb => by simp at hb; simp [hb]
  frame := fun _ _ _ st hk => ⟨st.1.at fun o e => hk I (by simp) o e, st.2.at fun o e => hk d (by simp) o e⟩
  item := fun i s Q E hi st hQ => by
    refine raw_vals_item st.1 st.2 (e := es[i]) (by simp [hi]) fun h' hit' hs' => ?_
    exact hQ _ h' s.toks ⟨es[i], by simp [hi], rfl⟩ ⟨hit', st.2.at fun o e => hs'.extBut d o hne e⟩ fun b o hb e => hs'.extBut b o (fun h => hb (by simp [h])) e
  done := fun s Q E st hQ => raw_vals_end hh st.1 st.2 (Nat.le_refl _) fun h' he' => hQ h' s.toks fun b o hb e => he' b o (fun h => hb (by simp [h])) e
  self := fun _ _ _ _ st hQ => wpAny_pyIter_valiter st.1 hQ
theorem rawItems {elts : List Expr} {kk : Nat} {pos : Pos} (hh : A.handled = none) (I d : Addr) (hne : d ≠ I) (es : Array DictEntry) (ep : Nat) :
    KTurns prog w A (.Tuple elts kk pos) I [I, d] [I] es.size
      (fun i v h => ∃ T e, v = .ref T ∧ es[i]? = some e ∧ h.IsTuple T #[e.key, e.val])
      (fun i v h => ∃ T e ok ov, v = .ref T ∧ es[i]? = some e ∧ h.IsTuple T #[e.key, e.val] ∧ IsItemIterOut h I d (i + 1) es.size ep ok ov T ∧ DRaw h d es ep ∧ T ≠ I)
      (fun i h => (∃ ok ov, IsItemIter h I d i es.size ep ok ov) ∧ DRaw h d es ep) where
  sub := fun b hb => by simp at hb; simp [hb]
  frame := fun i h h' st hk => by
    obtain ⟨⟨ok, ov, he⟩, hm⟩ := st
    exact ⟨⟨ok, ov, hk I (by simp) _ he⟩, hm.at fun o e => hk d (by simp) o e⟩
  item := fun i s Q E hi st hQ => by
    obtain ⟨⟨ok, ov, he⟩, hm⟩ := st
    refine raw_items_item he hm (e := es[i]) (by simp [hi]) fun h' ho hT hsz hk => ?_
    exact hQ (.ref s.heap.objs.size) h' s.toks ⟨_, es[i], _, _, rfl, by simp [hi], ⟨_, hT, rfl, _, rfl⟩, ho, hm.at (fun o e => hk d o hne e), Nat.ne_of_gt (Heap.lt_size he)⟩ fun b o hb e => hk b o (fun h => hb (by simp [h])) e
  go := fun i v s Q E hm hQ => by
    obtain ⟨T, e, ok, ov, rfl, hx, hT, ho, hd, hTI⟩ := hm
    refine wpAny_letOwnedTupleGo_items ho fun h' he hs => ?_
    exact hQ h' ⟨T, e, rfl, hx, hT.at fun o e => hs.extBut T o hTI e⟩ ⟨⟨ok, ov, he⟩, hd.at fun o e => hs.extBut d o hne e⟩ fun b o hb e => hs.extBut b o (fun h => hb (by simp [h])) e
  done := fun s Q E st hQ => by
    obtain ⟨⟨ok, ov, he⟩, hm⟩ := st
    exact raw_items_end hh he hm (Nat.le_refl _) fun h' hx => hQ h' s.toks fun b o hb e => hx b o (fun h => hb (by simp [h])) e

theorem raw_call_items {d : Addr} {es ep} {Q : Value → Shared → Prop} (hd : (d == sysModules) = false) (hm : DRaw s.heap d es ep) (h : Q (.ref s.heap.objs.size) { s with heap := s.heap.push { cls := .type "dict_items", data := .fields #[.ref d] } }) :
    wpAny (model prog w) A (call (.builtin "dict.items") [.ref d]) Q E s := by
  refine wpAny_call_entry PySem.F.slot_dict_items hm.typeIs PySem.F.entry_dict_items ?_ (by unfold argsOk; kernel_rfl)
  unfold Builtin.«dict.items»
  refine wpAny_bind ?_
  unfold Builtin.Dict.noArgs
  refine wpAny_bind (wpAny_notOrdered_dict hm.typeIs (wpAny_pure ?_))
  show wpAny _ _ (Builtin.Dict.showsAll d >>= _) _ _ s
  unfold Builtin.Dict.showsAll
  rw [if_neg (by rw [hd]; exact Bool.false_ne_true)]
  exact wpAny_bind (wpAny_pure (wpAny_bind (wpAny_newObj_type (wpAny_pure ⟨_, rfl, h⟩))))
theorem raw_call_values {d : Addr} {es ep} {Q : Value → Shared → Prop} (hd : (d == sysModules) = false) (hm : DRaw s.heap d es ep) (h : Q (.ref s.heap.objs.size) { s with heap := s.heap.push { cls := .type "dict_values", data := .fields #[.ref d] } }) :
    wpAny (model prog w) A (call (.builtin "dict.values") [.ref d]) Q E s := by
  refine wpAny_call_entry PySem.F.slot_dict_values hm.typeIs PySem.F.entry_dict_values ?_ (by unfold argsOk; kernel_rfl)
  unfold Builtin.«dict.values»
  refine wpAny_bind ?_
  unfold Builtin.Dict.noArgs
  refine wpAny_bind (wpAny_notOrdered_dict hm.typeIs (wpAny_pure ?_))
  show wpAny _ _ (Builtin.Dict.showsAll d >>= _) _ _ s
  unfold Builtin.Dict.showsAll
  rw [if_neg (by rw [hd]; exact Bool.false_ne_true)]
  exact wpAny_bind (wpAny_pure (wpAny_bind (wpAny_newObj_type (wpAny_pure ⟨_, rfl, h⟩))))
end

/-- what a dictT datum says of its entries -/
theorem entsOf {V : View} {o : Obj} {kvs : List (TKey × Value)} {l : List (TKey × D)} (h : tupDict C V o kvs) (e : kvs.map (·.1) = l.map (·.1)) (hr : RepL C V (kvs.map (·.2)) (l.map (·.2))) :
    ∃ (es : Array DictEntry) (ep : Nat), o.ExactDict ∧ o.data = .dict es ep ∧ es.size = l.length ∧ ∀ (i : Nat) (en : DictEntry), es[i]? = some en → ∀ p, l[i]? = some p → Rep C V en.key (keyD p.1) ∧ Rep C V en.val p.2 := by
  obtain ⟨X, es, ep, rfl, h1, h2, h3, h4, h5⟩ := h
  have hl : X.length = l.length := by have := congrArg List.length e; simpa using this
  refine ⟨es, ep, h1, h2, by rw [← Array.length_toList, h3]; simpa using hl, fun i en he p hp => ?_⟩
  rw [← Array.getElem?_toList, h3, List.getElem?_map] at he
  obtain ⟨x, hx, rfl⟩ := Option.map_eq_some_iff.mp he
  have hk : x.1 = p.1 := by
    have h1 := congrArg (fun z => z[i]?) e
    simp [hx, hp] at h1; exact h1
  refine ⟨hk ▸ keyRep (h5 x (List.mem_of_getElem? hx)), ?_⟩
  obtain ⟨d, hd, r⟩ := hr.get' (i := i) (v := x.2.2) (by simp [hx])
  have : d = p.2 := by simp [hp] at hd; exact hd.symm
  exact this ▸ r

theorem Src.keysT {iter target t} {l : List (TKey × D)} (h : Ev C n sc Γ iter (.dictT l)) : Src C n sc Γ iter target t (l.map fun p => keyD p.1) := .mk fun env A Pr U ad s R F => by
  refine wpAny_after (h.run env A Pr U ad s R F) fun x s₁ ⟨st, r⟩ => ?_
  cases r using Rep.caseDictT with
  | @dictT a o kvs hv hd e hr hy =>
    have F₁ := F.step st
    obtain ⟨es, ep, h1, h2, h3, h4⟩ := entsOf hd e hr
    have hm : DRaw s₁.heap a es ep := ⟨o, hv.1, h1, h2⟩
    refine raw_iter hy hm ?_
    generalize hs2 : ({ s₁ with heap := s₁.heap.push { cls := .type "dict_keyiterator", data := .fields #[.ref a, .int 0 0, .int es.size 0, .int ep 0] } } : Shared) = s₂
    have st₂ : Stp C s₁ s₂ := hs2 ▸ Stp.push _ _
    have hne : a ≠ s₁.heap.objs.size := Nat.ne_of_lt (Heap.lt_size hv.1)
    have hI : s₂.heap.get? s₁.heap.objs.size = some { cls := .type "dict_keyiterator", data := .fields #[.ref a, .int 0 0, .int es.size 0, .int ep 0] } := hs2 ▸ Heap.get?_push_size _ rfl
    have ha2 : s₂.heap.get? a = some o := by rw [← hs2]; exact Heap.get?_push_of_some _ hv.1
    have e1 : (l.map fun p => keyD p.1).length = es.size := by simp [h3]
    have W := rawKeys (prog := C.prog) (w := C.w) (A := A) R.1 s₁.heap.objs.size a hne es ep
    rw [← e1] at W hI
    refine Made.ofWalks W F₁.pt st st₂ rfl ⟨⟨_, hI, rfl, rfl⟩, ⟨o, ha2, h1, h2⟩⟩ ?_ ?_ ?_
    · rintro i h ⟨⟨o, ho, hc, hd⟩, _⟩
      exact ⟨o, _, _, ho, hc, hd, by decide, by decide⟩
    · intro b hb hbI
      simp only [List.mem_cons, List.not_mem_nil, or_false] at hb
      rcases hb with rfl | rfl
      · exact absurd rfl hbI
      · exact ⟨hv.2, o, ha2⟩
    · rintro i v ⟨en, he, rfl⟩ d hd'
      simp only [List.getElem?_map, Option.map_eq_some_iff] at hd'
      obtain ⟨p, hp, rfl⟩ := hd'
      exact ⟨(h4 i en he p hp).1, fun _ => ⟨_, rfl⟩⟩

theorem Src.valuesT {o apos pos target} {l : List (TKey × D)} (h : Ev C n sc Γ o (.dictT l))
    (hbase : ∀ env, attributeBase o "values" env (eval o env) = eval o env := by intro _; rfl) (hline : (apos.endLine == pos.line) = true := by rfl) :
    Src C n sc Γ (.Call (.Attribute o "values" apos) [] [] pos) target false (l.map (·.2)) := .mk fun env A Pr U ad s R F => by
  refine wpAny_Call_method (hbase env) rfl hline PySem.F.plainAttrs_dict PySem.F.slot_dict_values PySem.F.type_dict_values (wpAny_after (h.run env A Pr U ad s R F) fun x s₁ ⟨st, r⟩ => ?_)
  cases r using Rep.caseDictT with
  | @dictT a o kvs hv hd e hr hy =>
    have F₁ := F.step st
    obtain ⟨es, ep, h1, h2, h3, h4⟩ := entsOf hd e hr
    have hm : DRaw s₁.heap a es ep := ⟨o, hv.1, h1, h2⟩
    refine ⟨hm.typeIs, fun b hb => by cases hb; exact ⟨o, hv.1, h1.2.1⟩, callWith_method0 (raw_call_values hy hm ?_)⟩
    generalize hs1' : ({ s₁ with heap := s₁.heap.push { cls := .type "dict_values", data := .fields #[.ref a] } } : Shared) = s₁'
    have st' : Stp C s₁ s₁' := hs1' ▸ Stp.push _ _
    have F₁' := F₁.step st'
    have hview0 : s₁'.heap.get? s₁.heap.objs.size = some { cls := .type "dict_values", data := .fields #[.ref a] } := hs1' ▸ Heap.get?_push_size _ rfl
    have hview : s₁'.heap.IsValuesView s₁.heap.objs.size a := ⟨_, hview0, rfl, rfl⟩
    have ha1 : s₁'.heap.get? a = some o := by rw [← hs1']; exact Heap.get?_push_of_some _ hv.1
    have hm' : DRaw s₁'.heap a es ep := ⟨o, ha1, h1, h2⟩
    refine raw_iter_values hview hm' ?_
    generalize hs2 : ({ s₁' with heap := s₁'.heap.push { cls := .type "dict_valueiterator", data := .fields #[.ref a, .int 0 0, .int es.size 0, .int ep 0] } } : Shared) = s₂
    have st₂ : Stp C s₁' s₂ := hs2 ▸ Stp.push _ _
    have hne : a ≠ s₁'.heap.objs.size := Nat.ne_of_lt (Heap.lt_size ha1)
    have hI : s₂.heap.get? s₁'.heap.objs.size = some { cls := .type "dict_valueiterator", data := .fields #[.ref a, .int 0 0, .int es.size 0, .int ep 0] } := hs2 ▸ Heap.get?_push_size _ rfl
    have ha2 : s₂.heap.get? a = some o := by rw [← hs2]; exact Heap.get?_push_of_some _ ha1
    have e1 : (l.map (·.2)).length = es.size := by simp [h3]
    have W := rawVals (prog := C.prog) (w := C.w) (A := A) R.1 s₁'.heap.objs.size a hne es ep
    rw [← e1] at W hI
    refine Made.ofWalks W F₁'.pt (st.trans st') st₂ rfl ⟨⟨_, hI, rfl, rfl⟩, ⟨o, ha2, h1, h2⟩⟩ ?_ ?_ ?_
    · rintro i h ⟨⟨o, ho, hc, hd⟩, _⟩
      exact ⟨o, _, _, ho, hc, hd, by decide, by decide⟩
    · intro b hb hbI
      simp only [List.mem_cons, List.not_mem_nil, or_false] at hb
      rcases hb with rfl | rfl
      · exact absurd rfl hbI
      · exact ⟨hv.2, o, ha2⟩
    · rintro i v ⟨en, he, rfl⟩ d hd'
      simp only [List.getElem?_map, Option.map_eq_some_iff] at hd'
      obtain ⟨p, hp, rfl⟩ := hd'
      exact ⟨(h4 i en he p hp).2.mono (F₁.pt.up st'), fun h => by cases h⟩

theorem Src.itemsT {o apos pos elts tk tpos} {l : List (TKey × D)} (h : Ev C n sc Γ o (.dictT l))
    (hbase : ∀ env, attributeBase o "items" env (eval o env) = eval o env := by intro _; rfl) (hline : (apos.endLine == pos.line) = true := by rfl) :
    Src C n sc Γ (.Call (.Attribute o "items" apos) [] [] pos) (.Tuple elts tk tpos) true (l.map fun p => .tup [keyD p.1, p.2]) := .mk fun env A Pr U ad s R F => by
  refine wpAny_Call_method (hbase env) rfl hline PySem.F.plainAttrs_dict PySem.F.slot_dict_items PySem.F.type_dict_items (wpAny_after (h.run env A Pr U ad s R F) fun x s₁ ⟨st, r⟩ => ?_)
  cases r using Rep.caseDictT with
  | @dictT a o kvs hv hd e hr hy =>
    have F₁ := F.step st
    obtain ⟨es, ep, h1, h2, h3, h4⟩ := entsOf hd e hr
    have hm : DRaw s₁.heap a es ep := ⟨o, hv.1, h1, h2⟩
    refine ⟨hm.typeIs, fun b hb => by cases hb; exact ⟨o, hv.1, h1.2.1⟩, callWith_method0 (raw_call_items hy hm ?_)⟩
    generalize hs1' : ({ s₁ with heap := s₁.heap.push { cls := .type "dict_items", data := .fields #[.ref a] } } : Shared) = s₁'
    have st' : Stp C s₁ s₁' := hs1' ▸ Stp.push _ _
    have F₁' := F₁.step st'
    have hview0 : s₁'.heap.get? s₁.heap.objs.size = some { cls := .type "dict_items", data := .fields #[.ref a] } := hs1' ▸ Heap.get?_push_size _ rfl
    have hview : s₁'.heap.IsItemsView s₁.heap.objs.size a := ⟨_, hview0, rfl, rfl⟩
    have ha1 : s₁'.heap.get? a = some o := by rw [← hs1']; exact Heap.get?_push_of_some _ hv.1
    have hm' : DRaw s₁'.heap a es ep := ⟨o, ha1, h1, h2⟩
    refine raw_iter_items hview hm' ?_
    generalize hs2 : ({ s₁' with heap := s₁'.heap.push { cls := .type "dict_itemiterator", data := .fields #[.none, .bool false, .ref a, .int 0 0, .int es.size 0, .int ep 0, .none, .none] } } : Shared) = s₂
    have st₂ : Stp C s₁' s₂ := hs2 ▸ Stp.push _ _
    have hne : a ≠ s₁'.heap.objs.size := Nat.ne_of_lt (Heap.lt_size ha1)
    have hI : IsItemIter s₂.heap s₁'.heap.objs.size a 0 es.size ep .none .none := hs2 ▸ Heap.get?_push_size _ rfl
    have ha2 : s₂.heap.get? a = some o := by rw [← hs2]; exact Heap.get?_push_of_some _ ha1
    have e1 : (l.map fun p => D.tup [keyD p.1, p.2]).length = es.size := by simp [h3]
    have hnone := fresh_back F₁'.pt (st.trans st')
    have W := rawItems (prog := C.prog) (w := C.w) (elts := elts) (kk := tk) (pos := tpos) (A := A) R.1 s₁'.heap.objs.size a hne es ep
    rw [← e1] at W hI
    refine ⟨(st.trans st').trans st₂, s₁'.heap.objs.size, [s₁'.heap.objs.size, a], [s₁'.heap.objs.size], _, _, _, rfl, ⟨W, ?_, ?_, ?_⟩, ⟨⟨_, _, hI⟩, ⟨o, ha2, h1, h2⟩⟩, ?_, ?_, ?_, ?_⟩
    · rintro i s Q E ⟨⟨ok, ov, he⟩, _⟩ hQ
      exact kcp_self he hQ
    · rintro i h ⟨⟨ok, ov, he⟩, _⟩ b hb
      simp only [List.mem_singleton] at hb; subst hb
      exact ⟨_, he⟩
    · rintro i h ⟨⟨ok, ov, he⟩, _⟩ b hb o' ho' hc
      simp only [List.mem_singleton] at hb; subst hb
      rw [he] at ho'; cases ho'
      have := hc.1; simp at this
    · intro b hb
      simp only [List.mem_singleton] at hb; subst hb; exact hnone
    · intro b hb
      simp only [List.mem_cons, List.not_mem_nil, or_false] at hb
      rcases hb with rfl | rfl
      · exact F₁'.pt.fresh
      · exact hv.2
    · intro b hb
      simp only [List.mem_cons, List.not_mem_nil, or_false] at hb
      rcases hb with rfl | rfl
      · exact ⟨_, hI⟩
      · exact ⟨o, ha2⟩
    · rintro h hk i v ⟨T, en, rfl, he, hT⟩ d hd'
      simp only [List.getElem?_map, Option.map_eq_some_iff] at hd'
      obtain ⟨p, hp, rfl⟩ := hd'
      obtain ⟨k1, k2⟩ := h4 i en he p hp
      have up : ∀ b o', vw s₁.heap (mu U sc env ad) b o' → vw s₂.heap (mu U sc env ad) b o' ∧ b ∉ [s₁'.heap.objs.size] := fun b o' q =>
        ⟨F₁'.pt.up st₂ b o' (F₁.pt.up st' b o' q), fun e => by
          simp only [List.mem_singleton] at e
          have h1 := Heap.lt_size (F₁.pt.up st' b o' q).1
          rw [e] at h1
          exact Nat.lt_irrefl _ h1⟩
      exact ⟨T, _, _, rfl, rfl, hT, .cons (k1.mono up) (.cons (k2.mono up) .nil)⟩
end Mine
end
-- TDict
section
open PySem PySem.W PyProof.Rows
set_option Elab.async false
set_option linter.all false
namespace Mine
variable {C : Cx} {n : Nat} {sc : Scope} {Γ Γ' Γ'' : Gam} {env : Env} {Pr : Addr → Obj → Prop} {U m : Addr → Prop} {ad : Str → Option Addr} {s s' s₁ : Shared} {A : Ads}

theorem keyObj {V : View} {k : TKey} {v : Value} (h : Rep C V v (keyD k)) : ∃ a, v = .ref a ∧ tkObj V k a := by
  unfold keyD at h
  cases h using Rep.caseTup with
  | @tup a o vs q hv hc hd hr hx =>
    refine ⟨a, rfl, o, q, ?_⟩
    generalize hl : vs.toList = l at hr
    cases hr using RepL.caseCons with
    | cons r1 hr => cases r1 using Rep.caseStr with
      | str t1 => cases hr using RepL.caseCons with
        | cons r2 hr => cases r2 using Rep.caseInt with
          | int t2 => cases hr using RepL.caseCons with
            | cons r3 hr => cases r3 using Rep.caseStr with
              | str t3 => cases hr using RepL.caseNil with
                | nil =>
                  refine ⟨t1, t2, t3, hv, hc, ?_, hx⟩
                  rw [hd]
                  congr 1
                  exact Array.toList_inj.mp hl

theorem roomT {A : Around} (R : Room A n) : (TK C).room A := R.units
theorem roomT1 {A : Around} (R : Room A n) : (TK C).room A.in1 := by
  have h1 := R.2.2
  show A.in1.units < cLine
  have h2 : A.in1.units ≤ A.units + 200 := by simp
  have h3 : cLine = 9900 := by rfl
  lia

namespace V
theorem inT {k : TKey} {l : List (TKey × D)} : VOp2 C n (compareOp .In) (keyD k) (.dictT l) (.bool (decide (k ∈ l.map (·.1)))) := by
  refine .mk ?_; rintro A m s va vb R p ra rb
  obtain ⟨a, rfl, hk⟩ := keyObj ra
  cases rb using Rep.caseDictT with
  | @dictT d o kvs hv hd e hr hy =>
    obtain ⟨X, es, ep, rfl, h1, h2, h3, h4, h5⟩ := hd
    have H := toH hv.1 h1 h2 h3 h4 h5
    refine wpAny_in_heap (knd := TK C) (roomT1 R) (tk_is hk) hy H ?_
    have : (atKey (X.map KX) (mixK k)).isSome = decide (k ∈ l.map (·.1)) := by
      rw [atKey_KX, ← e, Option.isSome_map, Bool.eq_iff_iff, List.find?_isSome]
      simp only [decide_eq_true_eq, List.mem_map]
      constructor
      · rintro ⟨x, hx, rfl⟩; exact ⟨_, ⟨x, hx, rfl⟩, rfl⟩
      · rintro ⟨_, ⟨x, hx, rfl⟩, rfl⟩; exact ⟨x, hx, rfl⟩
    rw [this]; exact ⟨Stp.tok _, .bool _⟩
theorem itemDT {v i : Expr} {l : List (TKey × D)} {k : TKey} {d : D} (hx : (l.find? fun p => p.1 = k).map (·.2) = some d) (hs : ∀ o j, subscripted i false o j = operate [o, j] (getItem o j) := by intro _ _; rfl) :
    VOp2 C n (subscriptTail v i) (.dictT l) (keyD k) d := by
  refine .mk ?_; rintro A m s va vb R p ra rb
  obtain ⟨a, rfl, hk⟩ := keyObj rb
  cases ra using Rep.caseDictT with
  | @dictT d' o kvs hv hd e hr hy =>
    obtain ⟨w, hw, rw'⟩ := find_rep e hr hx
    obtain ⟨X, es, ep, rfl, h1, h2, h3, h4, h5⟩ := hd
    have H := toH hv.1 h1 h2 h3 h4 h5
    have hT : s.TypeIs (.ref d') "dict" := H.typeIs
    obtain ⟨y, hy1, hy2⟩ : ∃ y : TEnt, X.find? (fun x => x.1 = k) = some y ∧ y.2.2 = w := by
      rw [List.find?_map, Option.map_map] at hw
      obtain ⟨y, q1, q2⟩ := Option.map_eq_some_iff.mp hw
      exact ⟨y, q1, q2⟩
    subst hy2
    exact tail_any hT slot_dict_getitem.lookup (wpAny_getItem_heap (knd := TK C) (roomT1 R) (tk_is hk) H (p := y.2) (by rw [atKey_KX, hy1]; rfl) ⟨Stp.tok _, rw'⟩) (hs _ _)
end V

/-- a store under a tuple key -/
theorem setT {A : Around} {E : Value → Shared → Prop} {d : Addr} {o : Obj} {kvs : List (TKey × Value)} {k : TKey} {kv v : Value} {Q : Unit → Shared → Prop} (R : Room A n) (ho : s.heap.get? d = some o) (hd : tupDict C (vw s.heap m) o kvs) (hk : Rep C (vw s.heap m) kv (keyD k)) (hmd : m d) (hlen : kvs.length ≤ 100000)
    (hQ : ∀ h' tk o', h'.get? d = some o' → tupDict C (vw h' m) o' (putT kvs k v) → Heap.SameBut d s.heap h' → Q () { s with heap := h', toks := tk }) :
    wpAny (model C.prog C.w) A (dictSet d kv v) Q E s ∧ wpAny (model C.prog C.w) A (PySem.setItem (.ref d) kv v) Q E s := by
  obtain ⟨a, rfl, hkk⟩ := keyObj hk
  clear hk
  obtain ⟨X, es, ep, rfl, h1, h2, h3, h4, h5⟩ := hd
  have H := toH ho h1 h2 h3 h4 h5
  have fin : ∀ h' tk, h'.DictOfH (TK C) d (storedH (X.map KX) (mixK k) a v) → Heap.SameBut d s.heap h' → Q () { s with heap := h', toks := tk } := fun h' tk H' hs => by
    rw [storedH_KX] at H'
    have up : ∀ b o, vw s.heap m b o → vw h' m b o := fun b o ⟨q1, q2⟩ => ⟨(hs.2 b fun e => q2 (e ▸ hmd)).trans q1, q2⟩
    obtain ⟨o', ho', ht'⟩ := fromH (V := vw h' m) H' fun x hx => by
      unfold putX at hx
      split at hx
      · obtain ⟨y, hy, rfl⟩ := List.mem_map.mp hx
        have := (h5 y hy).mono up
        by_cases hyk : y.1 = k
        · simpa [hyk] using this
        · simpa [hyk] using this
      · rcases List.mem_append.mp hx with hx | hx
        · exact (h5 x hx).mono up
        · simp at hx; subst hx; exact hkk.mono up
    rw [putX_kvs] at ht'
    exact hQ h' tk o' ho' ht' hs
  have hz : (X.map KX).length ≤ sizeLine := by simp at hlen ⊢; rw [sizeLine_eq]; lia
  exact ⟨wpAny_dictSet_heap (knd := TK C) (hsz := hz) (roomT R) (tk_is hkk) H fun h' H' hs => fin h' _ H' hs, wpAny_setItem_heap (knd := TK C) (hsz := hz) (roomT1 R) (tk_is hkk) H fun h' H' hs => fin h' _ H' hs⟩
theorem FSa.mutateT (F : FSa C sc env Pr U Γ ad s) {x : Str} {l l' : List (TKey × D)} {a : Addr} {o' : Obj} {kvs' : List (TKey × Value)} {h' : Heap} {tk : Nat} (hx : Γ.lookup x = some (.ownT l)) (ha : ad x = some a) (hg : h'.get? a = some o') (hs : Heap.SameBut a s.heap h')
    (ht : tupDict C (vw h' (mu U sc env ad)) o' kvs') (he : kvs'.map (·.1) = l'.map (·.1)) (hr : RepL C (vw s.heap (mu U sc env ad)) (kvs'.map (·.2)) (l'.map (·.2))) : FSa C sc env Pr U ((x, .ownT l') :: Γ) ad { s with heap := h', toks := tk } := by
  obtain ⟨v₀, hv₀, a₀, o₀, kvs₀, rfl, ha₀, hg₀, ht₀, _, _, hy₀⟩ := F.vars x _ hx
  have hf₀ : ∀ vs, o₀.data ≠ .fields vs := fun vs e => by
    obtain ⟨X, es, ep, _, _, q, _⟩ := ht₀; rw [q] at e; cases e
  rw [ha] at ha₀; cases ha₀
  exact F.mutateG (sl' := .ownT l') hx ha hg₀ hf₀ hs rfl fun v ⟨a1, _, _, e, h1, _⟩ hup => ⟨a, o', kvs', by rw [e, Option.some.inj (h1.symm.trans ha)], ha, hg, ht, he, hr.mono hup, hy₀⟩
theorem getT {A : Around} {E : Value → Shared → Prop} {d : Addr} {o : Obj} {kvs : List (TKey × Value)} {l : List (TKey × D)} {k : TKey} {dd : D} {kv : Value} {Q : Value → Shared → Prop} (R : Room A n) (ho : s.heap.get? d = some o) (hd : tupDict C (vw s.heap m) o kvs) (e : kvs.map (·.1) = l.map (·.1)) (hr : RepL C (vw s.heap m) (kvs.map (·.2)) (l.map (·.2))) (hk : Rep C (vw s.heap m) kv (keyD k))
    (hx : (l.find? fun p => p.1 = k).map (·.2) = some dd) (hQ : ∀ v tk, Rep C (vw s.heap m) v dd → Q v { s with toks := tk }) : wpAny (model C.prog C.w) A (getItem (.ref d) kv) Q E s := by
  obtain ⟨a, rfl, hkk⟩ := keyObj hk
  obtain ⟨w, hw, rw'⟩ := find_rep e hr hx
  obtain ⟨X, es, ep, rfl, h1, h2, h3, h4, h5⟩ := hd
  have H := toH ho h1 h2 h3 h4 h5
  obtain ⟨y, hy1, hy2⟩ : ∃ y : TEnt, X.find? (fun x => x.1 = k) = some y ∧ y.2.2 = w := by
    rw [List.find?_map, Option.map_map] at hw
    obtain ⟨y, q1, q2⟩ := Option.map_eq_some_iff.mp hw
    exact ⟨y, q1, q2⟩
  subst hy2
  exact wpAny_getItem_heap (knd := TK C) (roomT1 R) (tk_is hkk) H (p := y.2) (by rw [atKey_KX, hy1]; rfl) (hQ _ _ rw')

/-- x[k] = e, the dict owned -/
theorem Ex1.setItemT {x px i spos e pos l k d} (hx : Γ.lookup x = some (.ownT l)) (he : Ev C n sc Γ e d) (hi : Ev C n sc Γ i (keyD k)) (hlen : l.length ≤ 1000) (hd : (x == ("__debug__" : Str)) = false := by decide)
    (hs : ∀ env, swapsWith e (some (.Subscript (.Name x px) i spos)) pos.line env = pure false := by intro _; rfl) :
    Ex1 C n sc Γ (.Assign [.Subscript (.Name x px) i spos] e pos) ((x, .ownT (putT l k d)) :: Γ) := .mk fun env A Pr U ad s R F => by
  refine wpAny_Assign_Subscript (wpAny_after (he.run env A Pr U ad s R F) fun v s₁ ⟨st₁, r₁⟩ => ?_) (hs env)
  have F₁ := F.step st₁
  obtain ⟨w, hv, a, o, kvs, rfl, ha, hg, ht, hk, hr, hy⟩ := F₁.vars x _ hx
  refine wpAny_Name (loadVar F₁.ev hv (wpAny_after (hi.run env A Pr U ad s₁ R F₁) fun iv s₂ ⟨st₂, r₂⟩ => ?_)) hd
  have F₂ := F₁.step st₂
  have hf : Foot sc env ad a := .inr (.inr ⟨x, ha⟩)
  have fn := F.footNe hf
  have hg₂ := st₂.keep _ _ fn.1 fn.2 hg
  have hl : kvs.length = l.length := by simpa using congrArg List.length hk
  refine (setT R hg₂ (ht.mono (F₁.pt.up st₂)) r₂ (.inr hf) (by lia) fun h' tk o' ho' ht' hs' => ?_).2
  exact ⟨rfl, ad, F₂.mutateT hx ha ho' hs' ht' (putT_keys hk _ _ _) (putT_rep hk (hr.mono (F₁.pt.up st₂)) (r₁.mono (F₁.pt.up st₂)))⟩

/-- x[k] op= e, the dict owned -/
theorem Ex1.augItemT {x px i spos op e pos l k a₀ b d} (hx : Γ.lookup x = some (.ownT l)) (hi : Ev C n sc Γ i (keyD k)) (he : Ev C n sc Γ e b) (hop : VOp2 C n (inplaceOp op) a₀ b d) (hk0 : (l.find? fun p => p.1 = k).map (·.2) = some a₀) (hlen : l.length ≤ 1000) (hd : (x == ("__debug__" : Str)) = false := by decide)
    (hau : ∀ ov iv new, augStore i ov iv new = (do holding [new, ov, iv] (PySem.setItem ov iv new); release [new, ov, iv] []; pure .next) := by intro _ _ _; rfl) :
    Ex1 C n sc Γ (.AugAssign (.Subscript (.Name x px) i spos) op e pos) ((x, .ownT (putT l k d)) :: Γ) := .mk fun env A Pr U ad s R F => by
  obtain ⟨w, hv, a, o, kvs, rfl, ha, hg, ht, hk, hr, hy⟩ := F.vars x _ hx
  have hf : Foot sc env ad a := .inr (.inr ⟨x, ha⟩)
  have fn := F.footNe hf
  have hl : kvs.length = l.length := by simpa using congrArg List.length hk
  refine wpAny_AugAssign_SubscriptAny (wpAny_Name (loadVar F.ev hv (wpAny_after (hi.run env A Pr U ad s R F) fun iv s₁ ⟨st₁, r₁⟩ => ?_)) hd) hau
  have F₁ := F.step st₁
  have hg₁ := st₁.keep _ _ fn.1 fn.2 hg
  refine getT R hg₁ (ht.mono (F.pt.up st₁)) hk (hr.mono (F.pt.up st₁)) r₁ hk0 fun y tk ry => ?_
  have st₁' : Stp C s₁ { s₁ with toks := tk } := Stp.tok tk
  refine wpAny_after (he.run env A Pr U ad _ R (F₁.step st₁')) fun ev s₂ ⟨st₂, r₂⟩ => ?_
  have F₂ := (F₁.step st₁').step st₂
  have u12 : ∀ a o, vw s₁.heap (mu U sc env ad) a o → vw s₂.heap (mu U sc env ad) a o := fun a o q => (F₁.step st₁').pt.up st₂ a o (F₁.pt.up st₁' a o q)
  refine wpAny_after (hop.run A _ s₂ y ev R F₂.pt (ry.mono u12) r₂) fun nv s₃ ⟨st₃, r₃⟩ => ?_
  have F₃ := F₂.step st₃
  have hg₃ := st₃.keep _ _ fn.1 fn.2 (st₂.keep _ _ fn.1 fn.2 (st₁'.keep _ _ fn.1 fn.2 hg₁))
  have u03 : ∀ a o, vw s.heap (mu U sc env ad) a o → vw s₃.heap (mu U sc env ad) a o := fun a o q => F₂.pt.up st₃ a o (u12 a o (F.pt.up st₁ a o q))
  refine (setT R hg₃ (ht.mono u03) ((r₁.mono u12).mono (F₂.pt.up st₃)) (.inr hf) (by lia) fun h' tk o' ho' ht' hs' => ?_).2
  exact ⟨rfl, ad, F₃.mutateT hx ha ho' hs' ht' (putT_keys hk _ _ _) (putT_rep hk (hr.mono u03) r₃)⟩

/-- x = {} -/
theorem Ex1.ownDict {x px dpos pos} (hx : sc.names.lookup x = some .local ∨ sc.names.lookup x = some .cell := by first | exact Or.inl rfl | exact Or.inr rfl)
    (hs : ∀ env, swapsWith (.Dict [] [] dpos) (some (.Name x px)) pos.line env = pure false := by intro _; rfl) : Ex1 C n sc Γ (.Assign [.Name x px] (.Dict [] [] dpos) pos) ((x, .ownT []) :: Γ) := .mk fun env A Pr U ad s R F => by
  refine wpAny_Assign_Name (wpAny_Dict_empty ?_) (hs env)
  have hns := notSys F.gs
  generalize hs2 : ({ s with heap := s.heap.push { cls := .type "dict", data := .dict #[] } } : Shared) = s₂
  have st₂ : Stp C s s₂ := hs2 ▸ Stp.push _ _
  have F₂ := F.step st₂
  have hnew : s₂.heap.get? s.heap.objs.size = some { cls := .type "dict", data := .dict #[] } := hs2 ▸ Heap.get?_push_size _ rfl
  have hold := new_none s
  refine wpAny_mono (store F₂ _ hx) (fun _ s₃ ⟨X, hS⟩ => ⟨rfl, upd ad x (some s.heap.objs.size), ?_⟩) fun _ _ h => h
  obtain ⟨X0, hX0, hsame⟩ := hS.same
  have hne : s.heap.objs.size ≠ X0 := by
    rintro e
    have := hS.hX X0 (by rw [hX0])
    rcases this with h | ⟨y, hy, hc⟩
    · obtain ⟨m, o, _, _, ho, _⟩ := F.ns
      rw [← h, ← e, hold] at ho; cases ho
    · obtain ⟨o, ho⟩ := F.cdom y _ hc
      rw [← e, hold] at ho; cases ho
  have st₃ : StpX C X s s₃ := st₂.x.trans hS.st
  have hadx : ∀ a, some s.heap.objs.size = some a → s.heap.get? a = none := fun a h => by cases h; exact hold
  have hother : ∀ y w, y ≠ x → Var env s.heap y w → Var env s₃.heap y w := fun y w hy hv => hS.other y w hy (hv.keep fun a o _ e => by
    rw [← hs2]; exact Heap.get?_push_of_some _ e)
  have hXF : ∀ a, X a → Foot sc env ad a := fun a h => (hS.hX a h).elim .inl fun h => .inr (.inl h)
  exact F.rebind st₃ hS.hX hS.ns hS.cell hS.var hother hadx
    ⟨_, _, [], rfl, by simp [upd], (hsame.2 _ hne).trans hnew, ⟨[], #[], 0, rfl, ⟨rfl, rfl, rfl⟩, rfl, rfl, List.nodup_nil, fun _ h => by cases h⟩, rfl, .nil, hns⟩ rfl
end Mine
end
-- TComp
section
open PySem PySem.W PyProof.Rows
set_option Elab.async false
set_option linter.all false
namespace Mine
variable {C : Cx} {n : Nat} {sc : Scope} {Γ Γ' Γ'' : Gam} {env : Env} {Pr : Addr → Obj → Prop} {U m : Addr → Prop} {ad : Str → Option Addr} {s s' s₁ : Shared} {A : Ads}

noncomputable def pairEmit (k v : Expr) : Value → Env → Sem Unit := fun acc env => do
  let kv ← eval k env
  let vv ← holding [kv] (eval v env)
  match acc with
  | .ref d => do
    standAt { k.pos with endLine := v.pos.endLine, endCol := v.pos.endCol }
    holding [kv, vv] (dictSet d kv vv)
  | _ => unsupported "internal:dictcomp"

theorem pairD_inj : ∀ {ps ps' : List (TKey × D)}, ps.map pairD = ps'.map pairD → ps = ps' := fun h => List.map_inj_right (fun x y e => by
  obtain ⟨⟨a1, a2, a3⟩, d⟩ := x
  obtain ⟨⟨b1, b2, b3⟩, d'⟩ := y
  cases e; rfl) |>.mp h

theorem putAll_len {α : Type} : ∀ (ps l : List (TKey × α)), (putAll l ps).length ≤ l.length + ps.length
  | [], l => by simp [putAll]
  | p :: ps, l => by
    have := putAll_len ps (putT l p.1 p.2)
    have h2 : (putT l p.1 p.2).length ≤ l.length + 1 := by unfold putT; split <;> simp
    simp only [putAll, List.foldl_cons, List.length_cons] at this ⊢
    lia

theorem Emit.pair {k v key d} (hk : Ev C n sc Γ k (keyD key)) (hv : Ev C n sc Γ v d) : Emit C n sc Γ (pairEmit k v) [pairD (key, d)] true := .mk fun env A Pr U ad s acc out0 R F K L hlen => by
  unfold pairEmit
  refine wpAny_bind (wpAny_after (hk.run env A Pr U ad s R F) fun kv s₁ ⟨st₁, r₁⟩ => wpAny_bind (wpAny_holding (wpAny_after (hv.run env A Pr U ad s₁ R (F.step st₁)) fun vv s₂ ⟨st₂, r₂⟩ => ?_)))
  have F₁ := F.step st₁
  have F₂ := F₁.step st₂
  obtain ⟨o, h1, kvs, ps, rfl, ht, he, hr⟩ := (L.step F K.nb K.nh st₁).step F₁ K.nb K.nh st₂
  refine wpAny_bind (wpAny_standAt (wpAny_holding ?_))
  have hl : kvs.length ≤ 100000 := by
    have h2 := congrArg List.length he
    have h3 := putAll_len ps []
    simp at h2 h3 hlen; lia
  refine (setT R h1 ht (r₁.mono (F₁.pt.up st₂)) (.inl K.u) hl fun h' tk o' ho' ht' hs => ⟨ad, ?_, o', ho', putT kvs key vv, ps ++ [(key, d)], ?_, ht', ?_, ?_⟩).1
  · have hk : ∀ b o, b ∉ [acc] → s₂.heap.get? b = some o → h'.get? b = some o := fun b o hb e => (hs.2 b (fun q => hb (by simp [q]))).trans e
    refine F₂.moved (wr := [acc]) (fun _ q => q) F₂.gs.ub F₂.gs.uh (fun b hb => by simp at hb; subst hb; exact K.u) hk (fun b hb _ => by simp at hb; subst hb; exact ⟨_, ho'⟩)
      ⟨by simpa using Ne.symm K.nb, by simpa using Ne.symm K.nh, by simpa using Ne.symm K.ng, by simpa using Ne.symm K.ns⟩ (fun a o q => hk a o (fun hb => by simp at hb; subst hb; exact K.pr o q) (F₂.pr a o q)) (fun a ha => (F₂.foot a ha).1) F₂.prD
      (fun x c hc => by simpa using K.cell x c hc) (by simpa using K.loc) rfl rfl ?_
    exact C.tabMono _ _ fun a o ha e => hk a o (fun hb => by
      simp at hb; subst hb
      rcases ha with ⟨_, ws, hw⟩ | ha | ha
      · rw [h1] at e; cases e
        obtain ⟨X, es, ep, _, _, q, _⟩ := ht; rw [q] at hw; cases hw
      · exact K.nh ha
      · exact K.nb ha) e
  · simp
  · have : putAll [] (ps ++ [(key, d)]) = putT (putAll [] ps) key d := by simp [putAll]
    rw [this]; exact putT_keys he _ _ _
  · have : putAll [] (ps ++ [(key, d)]) = putT (putAll [] ps) key d := by simp [putAll]
    rw [this]
    have up : ∀ b o, vw s₂.heap (mu U sc env ad) b o → vw h' (mu U sc env ad) b o := fun b o ⟨q1, q2⟩ => ⟨(hs.2 b fun e => q2 (.inl (e ▸ K.u))).trans q1, q2⟩
    exact (putT_rep he hr r₂).mono up

theorem codeAny_compStart_dict {A : Around} {R : Result → Shared → Prop} {kx vx target iter ifs rest scope pos it acc} {prog : Program} {w : World}
    (h0 : codeAny (model prog w) A (.compLoop (.DictComp kx vx (⟨target, iter, ifs, 0⟩ :: rest) scope pos) 0 it acc env) R s)
    (h : wpAny (model prog w) A (pyIter it) (fun it' s' => codeAny (model prog w) A (.compLoop (.DictComp kx vx (⟨target, iter, ifs, 0⟩ :: rest) scope pos) 0 it' acc env) R s')
      (notedBy (model prog w) A env fun x s' => R (.error x) s') s) :
    codeAny (model prog w) A (.compStart (.DictComp kx vx (⟨target, iter, ifs, 0⟩ :: rest) scope pos) 0 it acc env) R s := by
  refine codeAny_of_tree ?_
  show wpAny _ _ ((compStart (.DictComp kx vx (⟨target, iter, ifs, 0⟩ :: rest) scope pos) 0 it acc env).onRaise (fun x => do noteFrame x env; standAt theWindowsPlace)) _ _ s
  refine wpAny_notedAt ?_
  unfold compStart
  show wpAny _ _ (ask >>= _) _ _ s
  refine wpAny_bind (wpAny_askSetting (wpAny_ite ?_))
  split
  · exact wpAny_bind (wpAny_pure (wpAny_pure (And.intro rfl h0)))
  · exact wpAny_bind (wpAny_rule (wpAny_bind (wpAny_standAt (wpAny_bind (wpAny_mono h (fun it' s' h' => wpAny_pure (And.intro rfl h')) fun _ _ x => x)))))

/-- {k: v for x in iter if c} -/
theorem Ev.dcT {α : Type} {kx vx iter scope pos x px c} (xs : List α) (g : α → D) (key : α → TKey) (o : α → D) (b : α → Bool) (Γc : Gam) (hsrc : Src C n sc Γ iter (.Name x px) false (xs.map g))
    (hΓ : ∀ p ∈ Γc, scope.names.lookup p.1 = some .free ∧ Γ.lookup p.1 = some p.2 ∧ p.2.isOwn = false) (hc : ∀ a ∈ xs, Tst C n scope ((x, .d (g a)) :: Γc) c (b a))
    (hk : ∀ a ∈ xs, b a = true → Ev C n scope ((x, .d (g a)) :: Γc) kx (keyD (key a))) (hv : ∀ a ∈ xs, b a = true → Ev C n scope ((x, .d (g a)) :: Γc) vx (o a))
    (hlen : xs.length ≤ 100000 := by first | decide | simp)
    (hx : scope.names.lookup x = some .local ∨ scope.names.lookup x = some .cell := by first | exact Or.inl rfl | exact Or.inr rfl)
    (scp : CompSc sc scope := by exact ⟨rfl, by decide, by decide, by decide⟩)
    (hfold : ∀ env x, foldedSetIterable iter env x = pure x := by intro _ _; rfl)
    (hden : ∀ (it acc : Value) (env : Env), (model C.prog C.w).den (.compLoop (.DictComp kx vx [⟨.Name x px, iter, [c], 0⟩] scope pos) 0 it acc env) = (turnTree iter.pos (.Name x px) [c] it env (pairEmit kx vx acc env) (.compLoop (.DictComp kx vx [⟨.Name x px, iter, [c], 0⟩] scope pos) 0 it acc env)).onRaise (fun x => do noteFrame x env; theTreesLotGoes x) := by intro _ _ _; rfl) :
    Ev C n sc Γ (.DictComp kx vx [⟨.Name x px, iter, [c], 0⟩] scope pos) (.dictT (putAll [] ((xs.filter b).map fun a => (key a, o a)))) := .mk fun env A Pr U ad s R F => by
  have h : LCg C n sc Γ (.DictComp kx vx [⟨.Name x px, iter, [c], 0⟩] scope pos) (.Name x px) iter [c] scope ((xs.filter b).map fun a => pairD (key a, o a)) true := by
    refine ⟨scp, ⟨α, xs, g, fun a => [pairD (key a, o a)], b, false, Γc, fun a => (x, .d (g a)) :: Γc, pairEmit kx vx, hsrc, okFree hΓ, fun a _ => As.name hx, fun a ha => Tsts.one (hc a ha), fun a ha hb => Emit.pair (hk a ha hb) (hv a ha hb), fun a _ y sl hy => ?_, hden, flatMap_if xs b _⟩, hfold, ?_⟩
    · rw [List.lookup_cons]
      have h1 := (hΓ _ (mem_of_lookup hy)).1
      cases hxy : y == x with
      | false => exact hy
      | true =>
        rw [beq_iff_eq.mp hxy] at h1
        rcases hx with h | h <;> rw [h] at h1 <;> cases h1
    · simpa using Nat.le_trans (List.length_filter_le b xs) hlen
  show wpAny _ A (comprehension (.DictComp kx vx [⟨.Name x px, iter, [c], 0⟩] scope pos) scope env _ newDict false (eval iter env)) _ _ s
  refine comp_runG (use := Option.none) (rest := []) (o0 := { cls := .type "dict", data := .dict #[] }) h rfl (fun A E s Q h => wpAny_newObj_type h) rfl (fun V => ⟨[], [], rfl, ⟨[], #[], 0, rfl, ⟨rfl, rfl, rfl⟩, rfl, rfl, List.nodup_nil, fun _ h => by cases h⟩, rfl, .nil⟩) (fun _ _ _ _ _ _ h1 h2 => codeAny_compStart_dict h1 h2) (fun _ _ _ _ => rfl) R F fun acc Cl s' E => ?_
  obtain ⟨mm, hm⟩ := E.ns
  refine ⟨mm, hm, fun h' hs => ?_⟩
  obtain ⟨oo, h1, kvs, ps, he, ht, hk', hr⟩ := E.out
  have hclb : Cl ≠ builtinsNs ∧ Cl ≠ C.hole := by
    refine ⟨?_, ?_⟩
    · rintro rfl; obtain ⟨o, _, _, e, _⟩ := F.gs.mb; rw [E.clN] at e; cases e
    · rintro rfl; obtain ⟨o, e⟩ := C.holeDom _ F.gs.tab; rw [E.clN] at e; cases e
  have hk2 : ∀ a o, a ≠ Cl → s'.heap.get? a = some o → h'.get? a = some o := fun a o q e => (hs.2 a q).trans e
  have hst : Stp C s { s' with heap := h' } := by
    have : StpX C (· = Cl) s' { s' with heap := h' } := by
      obtain ⟨o, ho, hf⟩ := Ns.notFields hm
      exact StpX.one (tk := s'.toks) ho hf hclb.1 hclb.2 hs
    exact ⟨fun a o q1 q2 e => this.keep a o q1 q2 (fun q => by rw [q, E.clN] at e; cases e) (E.st.keep a o q1 q2 e), fun m q => this.bns m (E.st.bns m q), fun q => this.tab (E.st.tab q), E.st.gens, E.st.os⟩
  have hps : ps = (xs.filter b).map fun a => (key a, o a) := pairD_inj (by rw [← he, List.map_map]; rfl)
  subst hps
  have up : ∀ a o, (vw s'.heap (mu U sc env ad) a o ∧ a ≠ Cl ∧ a ≠ acc) → vw h' (mu U sc env ad) a o := fun a o ⟨⟨q1, q2⟩, q3, q4⟩ => ⟨hk2 a o q3 q1, q2⟩
  refine ⟨hst, Rep.dictT (o := oo) ⟨hk2 _ _ E.ne h1, fun q => ?_⟩ (ht.mono up) hk' (hr.mono up) ?_⟩
  · obtain ⟨o, e⟩ := F.mdom acc q; rw [E.accN] at e; cases e
  · exact E.accS
end Mine
end
-- F6
section
open PySem PySem.W PyProof.Rows
set_option Elab.async false
set_option linter.all false
namespace Mine
variable {C : Cx} {n : Nat} {sc : Scope} {Γ Γ' Γ'' : Gam} {env : Env} {Pr : Addr → Obj → Prop} {U m : Addr → Prop} {ad : Str → Option Addr} {s s' s₁ : Shared} {A : Ads}
/-- callers: keys with counts -/
abbrev Callers := List (TKey × Nat)
noncomputable def dCallers (l : Callers) : D := .dictT (l.map fun p => (p.1, .int (p.2 : Nat)))

theorem ex_cc (L : Lay C A) (l : Callers) : ExT C n (scOf 5) (params ["callers"] [dCallers l]) (bodyOf 5) (.int ((l.map (·.2)).sum : Nat)) := by
  refine ExT.cons (Ex1.assign (d := .int ((0 : Nat) : Int)) (by walk_at "ev")) (ExT.cons (Ex1.fold (H := false) (l.map (·.2)) (fun (x : Nat) => .int (x : Int)) (fun a x => a + x) 0 (fun (a : Nat) => (Str.ofString "nc", Slot.d (.int (a : Int))) :: params ["callers"] [dCallers l])
    (fun a x => (Str.ofString "calls", Slot.d (.int (x : Int))) :: (Str.ofString "nc", Slot.d (.int (a : Int))) :: params ["callers"] [dCallers l]) (fun _ => True) trivial (Src.cast (Src.valuesT (Ev.name rfl)) (by simp)) (fun _ _ _ _ => trivial) (fun _ _ _ _ => As.name) ?_) (ExT.ret (Ev.cast (Ev.name rfl) ?_)))
  · intro a x _ _
    exact ExN.sub (ExN.ofEx1 (Ex1.aug rfl (Ev.name rfl) V.iaddN)) (subG (allCons rfl (allCons rfl allNil)))
  · rw [List.sum_eq_foldl]
theorem c_cc (L : Lay C A) (l : Callers) : VCall C (n+1) (.ref A.cc) [dCallers l] (.int ((l.map (·.2)).sum : Nat)) := VCall.ofDef L.cc (ex_cc L l)

theorem ex_isnt (L : Lay C A) (x : Nat) : ExT C n (scOf 58) (params ["x"] [.int (x : Int)]) (bodyOf 58) (.bool (decide (256 ≤ x))) := by
  obtain ⟨t, ht⟩ := L.nt
  refine ExT.ret (Ev.cast (Ev.cmp (Ev.name rfl) (Ev.globInt rfl ht) V.ge) ?_)
  congr 1; rw [decide_eq_decide]; omega
theorem c_isnt (L : Lay C A) (x : Nat) : VCall C (n+1) (.ref A.isnt) [.int (x : Int)] (.bool (decide (256 ≤ x))) := VCall.ofDef L.isnt (ex_isnt L x)
theorem ex_iseof (L : Lay C A) (x : Nat) : ExT C n (scOf 59) (params ["x"] [.int (x : Int)]) (bodyOf 59) (.bool (decide (x = 0))) := by
  obtain ⟨t, ht⟩ := L.em
  refine ExT.ret (Ev.cast (Ev.cmp (Ev.name rfl) (Ev.globInt rfl ht) V.eq) ?_)
  congr 1; rw [Bool.eq_iff_iff]; simp
theorem c_iseof (L : Lay C A) (x : Nat) : VCall C (n+1) (.ref A.iseof) [.int (x : Int)] (.bool (decide (x = 0))) := VCall.ofDef L.iseof (ex_iseof L x)
end Mine
end
-- F7
section
open PySem PySem.W PyProof.Rows
set_option Elab.async false
set_option linter.all false
namespace Mine
variable {C : Cx} {n : Nat} {sc : Scope} {Γ Γ' Γ'' : Gam} {env : Env} {Pr : Addr → Obj → Prop} {U m : Addr → Prop} {ad : Str → Option Addr} {s s' s₁ : Shared} {A : Ads}
noncomputable def cGet (l : Callers) (k : TKey) : Nat := ((l.find? fun p => p.1 = k).map (·.2)).getD 0
noncomputable def addStep (acc : Callers) (p : TKey × Nat) : Callers := if p.1 ∈ acc.map (·.1) then putT acc p.1 (cGet acc p.1 + p.2) else putT acc p.1 p.2
noncomputable def addC (t s : Callers) : Callers := s.foldl addStep (t.foldl (fun acc p => putT acc p.1 p.2) [])

theorem V.isiT {i : Int} : VCall C n (.builtin "isinstance") [.int i, .raw (.type "tuple")] (.bool false) := by
  refine .mk ?_; rintro A m s _ R g rl; obtain ⟨_, _, rfl, ra, rb⟩ := rl.two
  cases ra using Rep.caseInt; cases rb using Rep.caseRaw
  refine call_isinstance (isinstance_false_int (by decide) (by kernel_rfl) (by rw [isSubtype_type]; kernel_rfl)) ?_
  exact ⟨Stp.tok _, .bool _⟩

noncomputable def lCallers (l : Callers) : List (TKey × D) := l.map fun p => (p.1, .int (p.2 : Nat))
theorem lC_keys (l : Callers) : (lCallers l).map (·.1) = l.map (·.1) := by simp [lCallers]
theorem lC_put (l : Callers) (k : TKey) (v : Nat) : putT (lCallers l) k (.int (v : Nat)) = lCallers (putT l k v) := by
  unfold putT
  rw [lC_keys]
  split
  · simp only [lCallers, List.map_map]
    refine List.map_congr_left fun x _ => ?_
    simp only [Function.comp]; split <;> rfl
  · simp [lCallers]
theorem lC_find (l : Callers) (k : TKey) (h : k ∈ l.map (·.1)) : ((lCallers l).find? fun p => p.1 = k).map (·.2) = some (.int (cGet l k : Nat)) := by
  unfold lCallers cGet
  rw [List.find?_map, Option.map_map]
  have : ((fun p : TKey × D => decide (p.1 = k)) ∘ fun p : TKey × Nat => (p.1, D.int (p.2 : Nat))) = fun p => decide (p.1 = k) := rfl
  rw [this]
  obtain ⟨x, hx, rfl⟩ := List.mem_map.mp h
  cases hf : l.find? fun p => decide (p.1 = x.1) with
  | none => exact absurd (List.find?_eq_none.mp hf x hx) (by simp)
  | some y => rfl
theorem addStep_len (acc : Callers) (p : TKey × Nat) : (addStep acc p).length ≤ acc.length + 1 := by
  have h : ∀ (l : Callers) k v, (putT l k v).length ≤ l.length + 1 := fun l k v => by unfold putT; split <;> simp
  unfold addStep; split <;> exact h _ _ _
theorem putT_len {α : Type} (l : List (TKey × α)) (k : TKey) (v : α) : (putT l k v).length ≤ l.length + 1 := by unfold putT; split <;> simp

theorem Ex1.foldN {α β : Type} {iter target body pos H} (xs : List α) (g : α → D) (step : β → α → β) (b0 : β) (G : β → Gam) (Γt : β → α → Gam) (I : Nat → β → Prop)
    (h0 : I 0 b0) (hsrc : Src C n sc (G b0) iter target H (xs.map g)) (hI : ∀ i b a, i < xs.length → a ∈ xs → I i b → I (i+1) (step b a))
    (has : ∀ i b a, i < xs.length → a ∈ xs → I i b → As C n sc (G b) target H (g a) (Γt b a)) (hbody : ∀ i b a, i < xs.length → a ∈ xs → I i b → ExN C n sc (Γt b a) body (G (step b a)))
    (hs : ∀ env x, foldedSetIterable iter env x = pure x := by intro _ _; rfl) : Ex1 C n sc (G b0) (.For target iter body [] pos) (G (xs.foldl step b0)) := by
  have e : ∀ i a, xs[i]? = some a → xs.take (i+1) = xs.take i ++ [a] := fun i a ha => by rw [List.take_add_one, ha]; rfl
  have hIi : ∀ i, i ≤ xs.length → I i ((xs.take i).foldl step b0) := by
    intro i
    induction i with
    | zero => intro _; simpa using h0
    | succ i ih =>
      intro hi
      have ha : xs[i]? = some xs[i] := List.getElem?_eq_getElem hi
      rw [e i _ ha, List.foldl_append]
      exact hI i _ _ hi (List.getElem_mem hi) (ih (by lia))
  have := Ex1.for (pos := pos) (body := body) hsrc (fun i => G ((xs.take i).foldl step b0)) (fun i => match xs[i]? with | some a => Γt ((xs.take i).foldl step b0) a | Option.none => []) (by simp) ?_ ?_ hs
  · simpa using this
  · intro i d hd
    simp only [List.getElem?_map, Option.map_eq_some_iff] at hd
    obtain ⟨a, ha, rfl⟩ := hd
    have hi := (List.getElem?_eq_some_iff.mp ha).1
    rw [ha]
    exact has i _ a hi (List.mem_of_getElem? ha) (hIi i (by lia))
  · intro i d hd
    simp only [List.getElem?_map, Option.map_eq_some_iff] at hd
    obtain ⟨a, ha, rfl⟩ := hd
    have hi := (List.getElem?_eq_some_iff.mp ha).1
    rw [ha]
    simp only [e i a ha, List.foldl_append, List.foldl_cons, List.foldl_nil]
    exact hbody i _ a hi (List.mem_of_getElem? ha) (hIi i (by lia))

noncomputable def gAC (t s : Callers) (acc : Callers) : Gam := (Str.ofString "new_callers", Slot.ownT (lCallers acc)) :: params ["target", "source"] [dCallers t, dCallers s]
theorem ex_ac (L : Lay C A) (t s : Callers) (ht : t.length ≤ 100) (hs : s.length ≤ 100) : ExT C n (scOf 4) (params ["target", "source"] [dCallers t, dCallers s]) (bodyOf 4) (dCallers (addC t s)) := by
  refine ExT.cons Ex1.ownDict ?_
  have h1 : ∀ acc : Callers, (lCallers acc).length = acc.length := fun acc => by simp [lCallers]
  refine ExT.cons (Ex1.foldN (H := true) (sc := scOf 4) t (fun p => .tup [keyD p.1, .int (p.2 : Nat)]) (fun acc p => putT acc p.1 p.2) [] (gAC t s) (fun acc p => (Str.ofString "caller", Slot.d (.int (p.2 : Nat))) :: (Str.ofString "func", Slot.d (keyD p.1)) :: gAC t s acc) (fun i acc => acc.length ≤ i) (by simp) (Src.cast (Src.itemsT (Ev.name rfl)) (by simp)) ?_ ?_ ?_) ?_
  · intro i acc p _ _ h; have := putT_len acc p.1 p.2; lia
  · intro i acc p _ _ _; exact As.tup (ps := [(Str.ofString "func", _), (Str.ofString "caller", _)])
  · intro i acc p hi _ h
    refine ExN.sub (ExN.ofEx1 (Ex1.setItemT rfl (Ev.name rfl) (Ev.name rfl) (by rw [h1]; lia))) (subG (allCons ?_ (allCons rfl (allCons rfl allNil))))
    rw [← lC_put]; rfl
  have h2 : (t.foldl (fun acc p => putT acc p.1 p.2) ([] : Callers)).length ≤ t.length := by simpa [putAll] using putAll_len t ([] : Callers)
  unfold addC
  generalize t.foldl (fun acc p => putT acc p.1 p.2) ([] : Callers) = acc0 at *
  refine ExT.cons (Ex1.foldN (H := true) (sc := scOf 4) s (fun p => .tup [keyD p.1, .int (p.2 : Nat)]) addStep acc0 (gAC t s) (fun acc p => (Str.ofString "caller", Slot.d (.int (p.2 : Nat))) :: (Str.ofString "func", Slot.d (keyD p.1)) :: gAC t s acc) (fun i acc => acc.length ≤ i + 100) (by lia) (Src.cast (Src.itemsT (Ev.name rfl)) (by simp)) ?_ ?_ ?_) (ExT.retF (Ev.name rfl))
  · intro i acc p _ _ h; have := addStep_len acc p; lia
  · intro i acc p _ _ _; exact As.tup (ps := [(Str.ofString "func", _), (Str.ofString "caller", _)])
  · intro i acc p hi _ h
    have hz : (lCallers acc).length ≤ 1000 := by rw [h1]; lia
    refine ExN.ofEx1 (Ex1.ite (c := decide (p.1 ∈ acc.map (·.1))) (Tst.own (Tst.cast (Tst.cmp (Ev.name rfl) (Ev.name rfl) V.inT) (by rw [lC_keys]))) (fun hc => ?_) (fun hc => ?_))
    · have hc : p.1 ∈ acc.map (·.1) := by simpa using hc
      refine ExN.sub (ExN.ofEx1 (Ex1.ite (Γ' := (Str.ofString "new_callers", Slot.ownT (putT (lCallers acc) p.1 (.int (cGet acc p.1 + p.2 : Nat)))) :: (Str.ofString "caller", Slot.d (.int (p.2 : Nat))) :: (Str.ofString "func", Slot.d (keyD p.1)) :: gAC t s acc) (c := false) (Tst.of (Ev.callB (Ev.glob rfl (L.glob rfl)) (EvL.cons (Ev.name rfl) (EvL.cons (Ev.glob rfl (L.glob rfl)) EvL.nil)) V.isiT)) (fun h => by cases h) (fun _ => ?_))) (subG (allCons ?_ (allCons rfl (allCons rfl allNil))))
      · exact ExN.ofEx1 (Ex1.augItemT rfl (Ev.name rfl) (Ev.name rfl) V.iaddN (lC_find acc p.1 hc) hz)
      · rw [lC_put]; unfold addStep; rw [if_pos hc]; rfl
    · have hc : ¬ p.1 ∈ acc.map (·.1) := by simpa using hc
      refine ExN.sub (ExN.ofEx1 (Ex1.setItemT rfl (Ev.name rfl) (Ev.name rfl) hz)) (subG (allCons ?_ (allCons rfl (allCons rfl allNil))))
      rw [lC_put]; unfold addStep; rw [if_neg hc]; rfl
theorem c_ac (L : Lay C A) (t s : Callers) (ht : t.length ≤ 100) (hs : s.length ≤ 100) : VCall C (n+1) (.ref A.ac) [dCallers t, dCallers s] (dCallers (addC t s)) := VCall.ofDef L.ac (ex_ac L t s ht hs)
end Mine
end
-- F8
section
open PySem PySem.W PyProof.Rows
set_option Elab.async false
set_option linter.all false
namespace Mine
variable {C : Cx} {n : Nat} {sc : Scope} {Γ Γ' Γ'' : Gam} {env : Env} {Pr : Addr → Obj → Prop} {U m : Addr → Prop} {ad : Str → Option Addr} {s s' s₁ : Shared} {A : Ads}
noncomputable def dStats (a b c d : Nat) (l : Callers) : D := .tup [.int (a : Nat), .int (b : Nat), .int (c : Nat), .int (d : Nat), dCallers l]
theorem ex_afs (L : Lay C A) {a b c d : Nat} {l : Callers} {a' b' c' d' : Nat} {l' : Callers} (hl : l.length ≤ 100) (hl' : l'.length ≤ 100) :
    ExT C (n+1) (scOf 3) (params ["target", "source"] [dStats a b c d l, dStats a' b' c' d' l']) (bodyOf 3) (dStats (a' + a) (b' + b) (c' + c) (d' + d) (addC l l')) := by
  refine ExT.cons (Ex1.unpack (ps := [("cc", _), ("nc", _), ("tt", _), ("ct", _), ("callers", _)]) (Ev.name rfl)) ?_
  refine ExT.cons (Ex1.unpack (ps := [("t_cc", _), ("t_nc", _), ("t_tt", _), ("t_ct", _), ("t_callers", _)]) (Ev.name rfl)) ?_
  refine ExT.ret (Ev.tup (EvL.cons (by walk_at "ev") (EvL.cons (by walk_at "ev") (EvL.cons (by walk_at "ev") (EvL.cons (by walk_at "ev") (EvL.cons (Ev.call L.ac (L.glob rfl) (EvL.cons (Ev.name rfl) (EvL.cons (Ev.name rfl) EvL.nil)) (c_ac L l l' hl hl')) EvL.nil))))))
theorem c_afs (L : Lay C A) {a b c d : Nat} {l : Callers} {a' b' c' d' : Nat} {l' : Callers} (hl : l.length ≤ 100) (hl' : l'.length ≤ 100) :
    VCall C (n+2) (.ref A.afs) [dStats a b c d l, dStats a' b' c' d' l'] (dStats (a' + a) (b' + b) (c' + c) (d' + d) (addC l l')) := VCall.ofDef L.afs (ex_afs L hl hl')
end Mine
end
-- TSl
section
open PySem PySem.W PyProof.Rows
set_option Elab.async false
set_option linter.all false
namespace Mine
variable {C : Cx} {n : Nat} {sc : Scope} {Γ Γ' Γ'' : Gam} {env : Env} {Pr : Addr → Obj → Prop} {U m : Addr → Prop} {ad : Str → Option Addr} {s s' s₁ : Shared} {A : Ads}

theorem sliceTo {prog : Program} {w : World} {A : Around} {E : Value → Shared → Prop} {sl : Addr} {b n : Nat} {u : Tok} {Q : Int × Int × Nat → Shared → Prop} (hs : s.heap.IsSliceOf sl .none (.int b u) .none) (hb : b ≤ n) (h : Q (0, 1, b) s) :
    wpAny (model prog w) A (Builtin.Slice.sliceApplied (.ref sl) (pure (n : Int))) Q E s := by
  obtain ⟨os, hos, hcs, hds⟩ := id hs
  have h1 : Builtin.Slice.sliceAdjust Option.none (some (b : Int)) 1 (n : Int) = (0, (b : Int)) := by
    unfold Builtin.Slice.sliceAdjust
    simp only [show ¬ ((1 : Int) < 0) from by lia, show ¬ ((b : Int) < 0) from by lia, if_false]
    congr 1; lia
  have h2 : Builtin.Slice.slicePlaces 0 (b : Int) 1 = b := by
    unfold Builtin.Slice.slicePlaces
    simp only [show (1 : Int) > 0 from by lia, if_true, Int.ediv_one]
    split <;> lia
  unfold Builtin.Slice.sliceApplied Builtin.Slice.sliceFields
  refine wpAny_bind (wpAny_bind (wpAny_field hos hds (x := .none) rfl (wpAny_bind (wpAny_field hos hds (x := .int b u) rfl (wpAny_bind (wpAny_field hos hds (x := .none) rfl (wpAny_pure ?_)))))))
  refine wpAny_bind (slicePart_none ?_)
  show wpAny _ _ (if ((1 : Int) == 0) = true then _ else _) _ _ s
  rw [if_neg (by decide)]
  refine wpAny_bind (slicePart_none (wpAny_bind (slicePart_int (wpAny_bind (wpAny_pure ?_)))))
  show wpAny _ _ (match Builtin.Slice.sliceAdjust Option.none (some (b : Int)) 1 (n : Int) with | (lo, hi) => pure (lo, (1 : Int), Builtin.Slice.slicePlaces lo hi 1)) _ _ s
  rw [h1]
  show wpAny _ _ (pure ((0 : Int), (1 : Int), Builtin.Slice.slicePlaces 0 (b : Int) 1)) _ _ s
  rw [h2]
  exact wpAny_pure h

theorem getTupTo {prog : Program} {w : World} {A : Around} {E : Value → Shared → Prop} {t sl : Addr} {items : Array Value} {b : Nat} {u : Tok} {Q : Value → Shared → Prop} (ht : IsTup s.heap t items) (hs : s.heap.IsSliceOf sl .none (.int b u) .none) (hb : b < items.size) (hz : items.size ≤ 1000)
    (h : Q (.ref s.heap.objs.size) { s with heap := s.heap.push { cls := .type "tuple", data := .seq (items.toList.take b).toArray } }) : wpAny (model prog w) A (getItem (.ref t) (.ref sl)) Q E s := by
  have hok : sizeOk (.seq (items.toList.take b).toArray) := by
    show (items.toList.take b).toArray.size ≤ sizeLine
    rw [List.size_toArray, List.length_take, Array.length_toList, sizeLine_eq]; lia
  obtain ⟨os, hos, hcs, hds⟩ := id hs
  have hTs : s.TypeIs (.ref sl) "slice" := ⟨os, hos, hcs⟩
  have hpick : ((List.range b).filterMap fun (k : Nat) => items[((0 : Int) + (k : Int) * 1).toNat]?).toArray = (items.toList.take b).toArray := by
    have e : (fun (k : Nat) => items[((0 : Int) + (k : Int) * 1).toNat]?) = fun k => items[k]? := by
      funext k
      have : ((0 : Int) + (k : Int) * 1).toNat = k := by lia
      rw [this]
    rw [e]
    have := pick_run items 0 b
    rw [List.filterMap_map] at this
    have e2 : ((fun x => items[x]?) ∘ fun x => 0 + x) = fun k => items[k]? := by funext k; simp
    rw [e2] at this
    rw [this]; simp
  unfold getItem
  try with_reducible refine wpAny_holding ?_
  refine wpAny_bind (wpAny_sequenceKey ht.typeIs (by decide) ?_)
  refine wpAny_bind (wpAny_callSpecial?_slot (name := Str.ofString "__getitem__") ht.typeIs slot_tuple_getitem
    (wpAny_call_entry slot_tuple_getitem ht.typeIs entry_tuple_getitem ?_ (args_tuple_getitem _ _)))
  show wpAny _ _ (Builtin.Tuple.tupleItemsOf (.ref t) >>= _) _ _ s
  refine wpAny_bind (tupleItemsOf_ ht (wpAny_bind (wpAny_typeOf hTs ?_)))
  rw [if_pos (by decide)]
  refine wpAny_bind (sliceTo hs (Nat.le_of_lt hb) ?_)
  show wpAny _ _ (if ((0 : Int) == 0 && (1 : Int) == 1 && b == items.size) = true then _ else _) _ _ s
  have hne : (b == items.size) = false := by simpa using Nat.ne_of_lt hb
  rw [hne, if_neg (by simp), hpick]
  first
    | exact wpAny_bind (m := Builtin.Tuple.tupleExact _) (wpAny_newObj_type (wpAny_pure ⟨_, rfl, wpAny_pure h⟩) hok)
    | exact wpAny_bind (wpAny_bind (m := Builtin.Tuple.tupleExact _) (wpAny_newObj_type (wpAny_pure (wpAny_pure ⟨_, rfl, wpAny_pure h⟩)) hok))
    | exact wpAny_bind (wpAny_bind (m := Builtin.Tuple.tupleExact _) (wpAny_newObj_type (wpAny_pure ⟨_, rfl, wpAny_pure h⟩) hok))

/-- t[:k] of a tuple -/
theorem V.sliceT {v lo hi spos ds} {k : Nat} (hk : k < ds.length) (hlen : ds.length ≤ 1000) : VSlice C n (subscriptTail v (.Slice lo hi Option.none spos)) (.tup ds) Option.none (some (k : Int)) (.tup (ds.take k)) := by
  refine .mk ?_; rintro A m s _ sl vl vu R g ra hs pl pu
  cases pl
  cases pu with
  | int _ tu =>
  cases ra using Rep.caseTup with
  | @tup a o vs q hv hc hd hr _ =>
    have e : vs.size = ds.length := by rw [← Array.length_toList, hr.length]
    have hl : IsTup s.heap a vs := ⟨o, hv.1, hc, q, hd⟩
    refine tail_any (T := "tuple") (ops := [.ref sl, .ref a]) hl.typeIs slot_tuple_getitem.lookup (getTupTo hl hs (by lia) (by lia) ?_) rfl
    exact ⟨Stp.push _ _, .tup (g.new _) rfl rfl (by simpa using (hr.take k).mono (g.old _)) ⟨rfl, rfl⟩⟩
end Mine
end
-- TDisp
section
open PySem PySem.W PyProof.Rows
set_option Elab.async false
set_option linter.all false
namespace Mine
variable {C : Cx} {n : Nat} {sc : Scope} {Γ Γ' Γ'' : Gam} {env : Env} {Pr : Addr → Obj → Prop} {U m : Addr → Prop} {ad : Str → Option Addr} {s s' s₁ : Shared} {A : Ads}

/-- {k: v} with a tuple for key -/
theorem Ev.dictT1 {k v pos key d} (hk : Ev C n sc Γ k (keyD key)) (hv : Ev C n sc Γ v d) : Ev C n sc Γ (.Dict [some k] [v] pos) (.dictT [(key, d)]) := .mk fun env A Pr U ad s R F => by
  refine dict_run (EvPr.cons hk hv EvPr.nil) rfl rfl (by simp) (by simp) R F fun dd s₁ vs s₂ hns hdn hnew hd0 hnb hnh hdm st₁ st₂ hd2 r₁ r₂ => ?_
  obtain ⟨kv, vv, rfl⟩ : ∃ kv vv, vs = [(kv, vv)] := by
    have := r₁.length
    rw [List.length_map] at this
    obtain ⟨⟨kv, vv⟩, e⟩ := List.length_eq_one_iff.mp this
    exact ⟨kv, vv, e⟩
  cases r₁ with | cons rk _ =>
  cases r₂ using RepL.caseCons with | cons rv _ =>
  unfold storeAll
  rw [List.forIn_cons]
  have up : ∀ a o, (vw s₂.heap (mu U sc env ad) a o ∧ a ≠ dd) → vw s₂.heap (fun a => mu U sc env ad a ∨ a = dd) a o := fun a o ⟨⟨q1, q2⟩, q3⟩ => ⟨q1, fun h => h.elim q2 q3⟩
  refine wpAny_bind (wpAny_bind (setT (m := fun a => mu U sc env ad a ∨ a = dd) R hd2 (kvs := []) ⟨[], #[], 0, rfl, ⟨rfl, rfl, rfl⟩, rfl, rfl, List.nodup_nil, fun _ h => by cases h⟩ (rk.mono up) (.inr rfl) (by simp) fun h' tk o' ho' ht' hs => ?_).1)
  refine wpAny_pure ?_
  show wpAny _ _ (forIn ([] : List (Value × Value)) PUnit.unit _) _ _ _
  rw [List.forIn_nil]
  refine wpAny_pure ⟨Stp.ofNew F.gs (st₁.trans st₂) hd0 hd2 (fun vs e => by cases e) hs, .dictT (o := o') (kvs := putT [] key vv) ⟨ho', hdm⟩ (ht'.mono fun a o ⟨q1, q2⟩ => ⟨q1, fun h => q2 (.inl h)⟩) rfl ?_ hns⟩
  refine .cons (rv.mono fun a o ⟨⟨q1, q2⟩, q3⟩ => ⟨(hs.2 a q3).trans q1, q2⟩) .nil
end Mine
end
-- TNe
section
open PySem PySem.W PyProof.Rows
set_option Elab.async false
set_option linter.all false
namespace Mine
variable {C : Cx} {n : Nat} {sc : Scope} {Γ Γ' Γ'' : Gam} {env : Env} {Pr : Addr → Obj → Prop} {U m : Addr → Prop} {ad : Str → Option Addr} {s s' s₁ : Shared} {A : Ads}

theorem rep_int {V : View} {v : Value} {i : Int} (h : Rep C V v (.int i)) : ∃ t, v = .int i t := by cases h using Rep.caseInt; exact ⟨_, rfl⟩

theorem key_unique {α β : Type} : ∀ {Y : List (α × β)}, (Y.map (·.1)).Nodup → ∀ {y z : α × β}, y ∈ Y → z ∈ Y → z.1 = y.1 → z = y := fun {Y} => by
  induction Y with
  | nil => exact fun _ _ _ hy => absurd hy List.not_mem_nil
  | cons x Y ih =>
    intro hn y z hy hz e
    rw [List.map_cons, List.nodup_cons] at hn
    have h1 : ∀ w : α × β, w ∈ Y → w.1 ≠ x.1 := fun w hw he => hn.1 (he ▸ List.mem_map_of_mem (f := (·.1)) hw)
    rcases List.mem_cons.mp hy with hy | hy
    · rcases List.mem_cons.mp hz with hz | hz
      · rw [hy, hz]
      · exact absurd (hy ▸ e) (h1 z hz)
    · rcases List.mem_cons.mp hz with hz | hz
      · exact absurd (hz ▸ e.symm) (h1 y hy)
      · exact ih hn.2 hy hz e

/-- two dicts with the same pairs, ints for values -/
theorem samePairsT {A : Around} {E : Value → Shared → Prop} {nm : String} {a b : Addr} {oa ob : Obj} {X Y : List TEnt} {es es' : Array DictEntry} {ep ep' : Nat} {Q : Bool → Shared → Prop} (hu : A.units < cLine) (ha : (a == sysModules) = false) (hb : (b == sysModules) = false)
    (hoa : s.heap.get? a = some oa) (hob : s.heap.get? b = some ob) (hda : oa.data = .dict es ep) (hdb : ob.data = .dict es' ep')
    (ea : es.toList = X.map (fun x => ⟨tkHash C x.1, .ref x.2.1, x.2.2⟩)) (eb : es'.toList = Y.map (fun x => ⟨tkHash C x.1, .ref x.2.1, x.2.2⟩)) (kx : ∀ x ∈ X, tkObj (vw s.heap m) x.1 x.2.1) (ky : ∀ x ∈ Y, tkObj (vw s.heap m) x.1 x.2.1) (ny : (Y.map (·.1)).Nodup)
    (hlen : X.length = Y.length) (hsame : ∀ x ∈ X, ∃ y ∈ Y, y.1 = x.1 ∧ ∃ i t t', x.2.2 = .int i t ∧ y.2.2 = .int i t') (h : Q true s) : wpAny (model C.prog C.w) A (Builtin.Dict.samePairs nm a b) Q E s := by
  have hsa : es.size = X.length := by rw [← Array.length_toList, ea, List.length_map]
  have hsb : es'.size = Y.length := by rw [← Array.length_toList, eb, List.length_map]
  unfold Builtin.Dict.samePairs Builtin.Dict.showsAll
  rw [if_neg (show ¬ (a == sysModules) = true by rw [ha]; exact Bool.false_ne_true), if_neg (show ¬ (b == sysModules) = true by rw [hb]; exact Bool.false_ne_true)]
  refine wpAny_bind (wpAny_pure (wpAny_bind (wpAny_pure (wpAny_bind (wpAny_dictEntries hoa hda ?_)))))
  dsimp only
  refine wpAny_bind (wpAny_dictEntries hob hdb ?_)
  have hsz : es.size = es'.size := by lia
  rw [if_neg (by rw [hsz]; simp)]
  refine wpAny_bind (wpAny_dictEpoch hoa hda (wpAny_bind ?_))
  rw [Std.Legacy.Range.forIn_eq_forIn_range']
  simp only [Std.Legacy.Range.size, Nat.sub_zero, Nat.add_sub_cancel, Nat.div_one]
  refine wpAny_forIn_list _ (fun rest q s' => s' = s ∧ q = (none, ()) ∧ ∃ i, rest = List.range' i (es.size - i) ∧ i ≤ es.size) _ ?_ ?_ _ _ ⟨rfl, rfl, 0, by simp, Nat.zero_le _⟩
  · rintro x rest q s' ⟨rfl, rfl, i, hr, hi⟩
    have hlt : i < es.size := by
      rcases Nat.lt_or_ge i es.size with h | h
      · exact h
      · rw [Nat.sub_eq_zero_of_le h] at hr; simp at hr
    obtain ⟨rfl, hrest⟩ : x = i ∧ rest = List.range' (i + 1) (es.size - (i + 1)) := by
      have e : es.size - i = (es.size - (i + 1)) + 1 := by lia
      rw [e, List.range'_succ] at hr
      injection hr with h1 h2
      exact ⟨h1, h2⟩
    refine wpAny_bind (wpAny_dictEntries hoa hda ?_)
    have hxl : x < X.length := by lia
    have hen : es[x]? = some ⟨tkHash C X[x].1, .ref X[x].2.1, X[x].2.2⟩ := by
      rw [← Array.getElem?_toList, ea, List.getElem?_map, List.getElem?_eq_getElem hxl]; rfl
    rw [hen]
    have hm := List.getElem_mem hxl
    obtain ⟨y, hy, hk, iv, t, t', hv, hv'⟩ := hsame _ hm
    show wpAny _ _ (holding [Value.ref X[x].2.1, X[x].2.2] _ >>= _) _ _ _
    refine wpAny_bind (wpAny_holding (wpAny_bind (wpAny_dictFind_heap (knd := TK C) (k := mixK X[x].1) (xs := Y.map KX) hu (tk_is (kx _ hm)) hob hdb ?_ ?_ ?_ ?_ ?_)))
    · rw [eb, List.map_map]; rfl
    · intro z hz
      obtain ⟨w, hw, rfl⟩ := List.mem_map.mp hz
      exact tk_is (ky w hw)
    · rw [List.map_map]
      have := nodup_mixK ny
      rwa [List.map_map] at this
    · intro hnone
      obtain ⟨j, hj, hjy⟩ := List.getElem_of_mem hy
      refine absurd ?_ (hnone j (KX y).2)
      rw [List.getElem?_map, List.getElem?_eq_getElem hj, hjy, ← hk]; rfl
    · intro j p hj
      rw [List.getElem?_map] at hj
      obtain ⟨z, hz, hze⟩ := Option.map_eq_some_iff.mp hj
      have hzk : z.1 = X[x].1 := mixK_inj (by have := congrArg Prod.fst hze; exact this)
      have hzy : z = y := by
        exact key_unique ny hy (List.mem_of_getElem? hz) (hzk.trans hk.symm)
      subst hzy
      refine wpAny_bind (wpAny_dictEntries hob hdb ?_)
      have hen' : es'[j]? = some ⟨tkHash C z.1, .ref z.2.1, z.2.2⟩ := by
        rw [← Array.getElem?_toList, eb, List.getElem?_map, hz]; rfl
      rw [hen']
      dsimp only
      rw [hv, hv']
      refine wpAny_holding (wpAny_eqBool_int ?_)
      simp only [beq_self_eq_true]
      show wpAny _ _ (if (!true) = true then _ else _) _ _ _
      rw [if_neg (by decide)]
      refine wpAny_bind (wpAny_dictEpoch hoa hda ?_)
      rw [if_neg (by simp)]
      exact wpAny_pure ⟨rfl, rfl, x + 1, hrest, hlt⟩
  · rintro q s' ⟨rfl, rfl, i, hr, hi⟩
    exact wpAny_pure h

theorem V.neT {l l' : List (TKey × Int)} (hlen : l.length = l'.length) (hs : ∀ p ∈ l, p ∈ l') : VOp2 C n (compareOp .NotEq) (.dictT (l.map fun p => (p.1, .int p.2))) (.dictT (l'.map fun p => (p.1, .int p.2))) (.bool false) := by
  refine .mk ?_; rintro A m s va vb R g ra rb
  cases ra using Rep.caseDictT with
  | @dictT a oa ka hva hda ea hra hya =>
  cases rb using Rep.caseDictT with
  | @dictT b ob kb hvb hdb eb hrb hyb =>
    obtain ⟨X, es, ep, rfl, x1, x2, x3, x4, x5⟩ := hda
    obtain ⟨Y, es', ep', rfl, y1, y2, y3, y4, y5⟩ := hdb
    have hXl : X.length = l.length := by simpa using congrArg List.length ea
    have hYl : Y.length = l'.length := by simpa using congrArg List.length eb
    have hu : A.in1.units < cLine := roomT1 (C := C) R
    have hTa : s.TypeIs (.ref a) "dict" := ⟨oa, hva.1, x1.1⟩
    have hTb : s.TypeIs (.ref b) "dict" := ⟨ob, hvb.1, y1.1⟩
    have at_ : ∀ {Z : List TEnt} {q : List (TKey × Int)}, (Z.map fun x => (x.1, x.2.2)).map (·.1) = (q.map fun p => (p.1, D.int p.2)).map (·.1) → RepL C (vw s.heap m) ((Z.map fun x => (x.1, x.2.2)).map (·.2)) ((q.map fun p => (p.1, D.int p.2)).map (·.2)) →
        ∀ (i : Nat) (z : TEnt) (p : TKey × Int), Z[i]? = some z → q[i]? = some p → z.1 = p.1 ∧ ∃ t, z.2.2 = .int p.2 t := by
      intro Z q e hr i z p hz hp
      have h1 := congrArg (fun w => w[i]?) e
      simp [hz, hp] at h1
      obtain ⟨v, hv, r⟩ := hr.get (i := i) (d := .int p.2) (by simp [hp])
      simp [hz] at hv
      subst hv
      exact ⟨h1, rep_int r⟩
    refine wpAny_richCompare_same_room (op := .NotEq) hTa hTb PySem.F.slot_dict_ne (wpAny_call_entry PySem.F.slot_dict_ne hTa PySem.F.entry_dict_ne ?_ (PySem.F.args_dict_ne_2 _ _)) R.units
    show wpAny _ _ (Builtin.Dict.dictSlotArgs "__ne__" ⟨[.ref a, .ref b], []⟩ >>= _) _ _ s
    refine wpAny_bind ?_
    unfold Builtin.Dict.dictSlotArgs
    refine wpAny_bind (wpAny_notOrdered_dict hTa (wpAny_pure ?_))
    refine wpAny_bind (wpAny_isInstance (T := "dict") hTb PySem.F.sub_dict_dict ?_)
    simp only [Bool.not_true, Bool.false_eq_true, if_false]
    refine wpAny_bind (wpAny_pure (wpAny_bind (wpAny_pure ?_)))
    refine wpAny_bind (samePairsT (C := C) (m := m) hu hya hyb hva.1 hvb.1 x2 y2 x3 y3 x5 y5 y4 (by lia) ?_ ?_)
    · intro x hx
      obtain ⟨i, hi, rfl⟩ := List.getElem_of_mem hx
      have hil : i < l.length := by lia
      obtain ⟨k1, t, k2⟩ := at_ ea hra i X[i] l[i] (List.getElem?_eq_getElem hi) (List.getElem?_eq_getElem hil)
      obtain ⟨j, hj, hjl⟩ := List.getElem_of_mem (hs l[i] (List.getElem_mem hil))
      have hjY : j < Y.length := by lia
      obtain ⟨k1', t', k2'⟩ := at_ eb hrb j Y[j] l'[j] (List.getElem?_eq_getElem hjY) (List.getElem?_eq_getElem hj)
      exact ⟨Y[j], List.getElem_mem hjY, by rw [k1', k1, hjl], l[i].2, t, t', k2, by rw [k2', hjl]⟩
    · refine wpAny_pure ⟨_, rfl, ?_, ?_⟩
      · exact fun x => nomatch x
      · exact ⟨Stp.refl _ _, .bool false⟩
end Mine
end
-- H1
section
open PySem PySem.W PyProof.Rows
set_option Elab.async false
set_option linter.all false
set_option maxRecDepth 100000
namespace Mine
variable {C : Cx} {n : Nat} {sc : Scope} {Γ Γ' Γ'' : Gam} {env : Env} {Pr : Addr → Obj → Prop} {U m : Addr → Prop} {ad : Str → Option Addr} {s s' s₁ : Shared} {A : Ads}

theorem slot_search : PySem.Slot "re.Pattern" "search" "re.Pattern.search" :=
  .of (owner := "re.Pattern") (n := "search") (by rw [typeLookup_type, builtinLookup_eq_fast]; kernel_rfl) (by decide +kernel) (by decide +kernel) (by decide +kernel)
    (by first | exact .inl (by decide +kernel) | exact .inr (by decide +kernel)) (by rw [isSubtype_type]; kernel_rfl)
theorem type_search : typeOf (.builtin "re.Pattern.search") = pure (.type "method_descriptor") := by show builtinType _ = _; rw [builtinType_eq_fast]; kernel_rfl
theorem entry_search : entryFor table "re.Pattern.search" = some Builtin.«re.Pattern.search» := entryFor_of_tree (by kernel_rfl)
theorem args_search (a b : Value) : argsOk "re.Pattern.search" ⟨[a, b], []⟩ := by unfold argsOk; kernel_rfl
theorem plainAttrs_pattern : PlainAttrs "re.Pattern" :=
  ⟨⟨"object.__getattribute__", by rw [typeLookup_type, builtinLookup_eq_fast]; kernel_rfl, by decide +kernel⟩, by rw [typeLookup_type, builtinLookup_eq_fast]; kernel_rfl⟩

/-- the search finds nothing -/
noncomputable def finds0 (code : Array Nat) (x : Str) : Bool := match ((Sre.forSearch code x.cps 0 0 x.cps.size false).runFor 4).outcome with
  | some .failed => true
  | _ => false

open Builtin.Re in
theorem drive_one (k : Nat) (m : Sre.M) (h : (m.runFor 4).outcome = some .failed) : reDrive (k + 1) m = pure (m.runFor 4) := by
  unfold reDrive
  simp only [reTurnSteps, h, Option.isSome_some, if_true]
open Builtin.Re in
theorem run_none {M : Model} {A : Around} {E : Value → Shared → Prop} {Q : Option Sre.M → Shared → Prop} {m : Sre.M} (h : (m.runFor 4).outcome = some .failed) (hq : Q none s) : wpAny M A (reRunToEnd m) Q E s := by
  unfold reRunToEnd
  have e : reDrive (2 ^ 64) m = pure (m.runFor 4) := drive_one 18446744073709551615 m h
  rw [e]
  refine wpAny_bind (wpAny_pure ?_)
  have loop : ∀ (l : List Nat) (Q' : PUnit → Shared → Prop), Q' ⟨⟩ s → wpAny M A (forIn l PUnit.unit fun i _ => (if (m.runFor 4).seen.has i = true then (do rule (Sre.names.getD i ""); pure (ForInStep.yield PUnit.unit)) else pure (ForInStep.yield PUnit.unit) : Sem (ForInStep PUnit))) Q' E s := by
    intro l
    induction l with
    | nil => intro Q' hq; exact wpAny_pure hq
    | cons i l ih =>
      intro Q' hq
      rw [List.forIn_cons]
      refine wpAny_bind ?_
      by_cases hi : (m.runFor 4).seen.has i = true
      · rw [if_pos hi]
        exact wpAny_bind (wpAny_rule (wpAny_pure (ih Q' hq)))
      · rw [if_neg hi]
        exact wpAny_pure (ih Q' hq)
  refine wpAny_bind (loop _ _ ?_)
  rw [h]
  exact wpAny_pure hq

theorem named_search (v : Value) : Builtin.Re.reNamed "re.Pattern.search" "search" ["string", "pos", "endpos"] 1 [v] [] = pure [some v, Option.none, Option.none] := by
  kernel_rfl

open Builtin.Re in
theorem V.search {a : Addr} {code : Array Nat} {x : Str} (H : PatOK C a code) (hf : finds0 code x = true) (hx : x.cps.size ≤ 100000) : VCall C n (.builtin "re.Pattern.search") [.raw (.ref a), .str x] .none := by
  refine .mk ?_; rintro A m s _ R g rl; obtain ⟨_, _, rfl, ra, rb⟩ := rl.two
  cases ra using Rep.caseRaw
  cases rb using Rep.caseStr with
  | str t =>
  obtain ⟨o, vs, ca, oc, xs, k, h1, h2, h3, h4, h5, h6, h7, h8, h9, h10⟩ := H
  have b1 := g.base _ _ h1
  have b2 := g.base _ _ h5
  refine wpAny_call (codeAny_call_builtin slot_search.plain entry_search (slot_search.check _ _ _ _ _ _ _ _ ⟨o, b1, h2⟩ (args_search _ _) ?_))
  unfold Builtin.«re.Pattern.search»
  refine wpAny_bind ?_
  unfold reTarget
  dsimp only
  rw [named_search]
  refine wpAny_bind (wpAny_pure ?_)
  dsimp only
  refine wpAny_bind (wpAny_pure (wpAny_bind (wpAny_pure (wpAny_bind (wpAny_fieldsOf b1 h4 ?_)))))
  refine wpAny_bind (wpAny_bind (wpAny_pure (wpAny_pure ?_)))
  dsimp only
  rw [h8]
  simp only [show ((0:Nat) == 0) = true from rfl, show ((0:Nat) == 1) = false from rfl, Bool.and_false, Bool.false_and, Bool.false_eq_true, if_false]
  refine wpAny_bind (wpAny_pure ?_)
  rw [h7]
  refine wpAny_bind (wpAny_bind (wpAny_seqItems b2 h6 (wpAny_pure (wpAny_pure ?_))))
  dsimp only [Option.getD_some]
  rw [h10, h9]
  have el : min (((2 : Int) ^ 63 - 1)).toNat x.cps.size = x.cps.size := by
    apply Nat.min_eq_right
    have : ((2 : Int) ^ 63 - 1).toNat = 9223372036854775807 := by decide
    lia
  rw [el, show min (Int.toNat 0) x.cps.size = 0 by simp]
  have hff : ((Sre.forSearch code x.cps 0 0 x.cps.size false).runFor 4).outcome = some .failed := by
    unfold finds0 at hf
    split at hf
    · assumption
    · cases hf
  unfold reAnswer
  exact wpAny_bind (run_none hff (wpAny_pure ⟨Stp.refl _ _, .none⟩))

/-- a method of a built-in type, with what stands at the top -/
theorem Ev.meth1G {o name apos pos e x y d id T} (ho : Ev C n sc Γ o x) (he : Ev C n sc Γ e y) (slot : PySem.Slot T name id) (hty : typeOf (.builtin id) = pure (.type "method_descriptor")) (hpa : PlainAttrs T)
    (hT : ∀ (s : Shared) m v, GS C m s → Rep C (vw s.heap m) v x → s.TypeIs v T ∧ ∀ b, v = .ref b → ∃ ob, s.heap.get? b = some ob ∧ ob.dict = Option.none)
    (h : VCall C n (.builtin id) [x, y] d)
    (hbase : ∀ env, attributeBase o name env (eval o env) = eval o env := by intro _; rfl)
    (hse : ∀ env, starEach [e] env = (false, eval e env) :: starEach [] env := by intro _; rfl) (hline : (apos.endLine == pos.line) = true := by rfl) :
    Ev C n sc Γ (.Call (.Attribute o name apos) [e] [] pos) d := .mk fun env A Pr U ad s R F => by
  refine wpAny_Call_method (hbase env) (by rw [hse]; rfl) hline hpa slot hty (wpAny_after (ho.run env A Pr U ad s R F) fun v s₁ ⟨st, r⟩ => ?_)
  obtain ⟨h1, h2⟩ := hT _ _ _ (F.step st).pt r
  refine ⟨h1, h2, callWith_method1 (wpAny_after ((EvL.cons he EvL.nil hse).run env A Pr U ad s₁ pos R (F.step st)) fun vs s₂ ⟨st₂, r₂⟩ => ?_) (hse env) rfl⟩
  exact wpAny_after (h.run A _ s₂ (v :: vs) R ((F.step st).step st₂).pt (.cons (r.mono ((F.step st).pt.up st₂)) r₂)) fun _ _ h' => (h'.after st₂).after st
theorem Ev.search {o apos pos e a code x} (ho : Ev C n sc Γ o (.raw (.ref a))) (he : Ev C n sc Γ e (.str x)) (H : PatOK C a code) (hf : finds0 code x = true) (hx : x.cps.size ≤ 100000)
    (hbase : ∀ env, attributeBase o "search" env (eval o env) = eval o env := by intro _; rfl)
    (hse : ∀ env, starEach [e] env = (false, eval e env) :: starEach [] env := by intro _; rfl) (hline : (apos.endLine == pos.line) = true := by rfl) :
    Ev C n sc Γ (.Call (.Attribute o "search" apos) [e] [] pos) .none :=
  Ev.meth1G ho he slot_search type_search plainAttrs_pattern (fun s m v g r => by
    cases r using Rep.caseRaw
    obtain ⟨o, vs, ca, oc, xs, k, h1, h2, h3, _⟩ := H
    exact ⟨⟨o, g.base _ _ h1, h2⟩, fun b e => by cases e; exact ⟨o, g.base _ _ h1, h3⟩⟩) (V.search H hf hx) hbase hse hline

theorem lowerG {x : Str} (hx : x.cps.size ≤ 1000) : VCall C n (.builtin "str.lower") [.str x] (.str (Txt.lower x)) := by
  refine .mk ?_; rintro A m s _ R g rl; obtain ⟨_, rfl, ra⟩ := rl.one
  cases ra using Rep.caseStr
  exact SCL.lower (by show x.cps.size ≤ _; lia) fun _ => resStr
theorem Ev.lower {o apos pos x} (ho : Ev C n sc Γ o (.str x)) (hx : x.cps.size ≤ 1000)
    (hbase : ∀ env, attributeBase o "lower" env (eval o env) = eval o env := by intro _; rfl) (hline : (apos.endLine == pos.line) = true := by rfl) :
    Ev C n sc Γ (.Call (.Attribute o "lower" apos) [] [] pos) (.str (Txt.lower x)) :=
  Ev.meth0 ho PySem.F.slot_str_lower PySem.F.type_str_lower PySem.F.plainAttrs_str isStr (lowerG hx) hbase hline

/-- None as a test -/
theorem Tst.none {e} (h : Ev C n sc Γ e .none) (he : ∀ env whole, isTrue e env whole = (do let v ← whole; standAt e.pos; holding [v] (truthy v)) := by intro _ _; rfl) : Tst C n sc Γ e false := .mk fun env A Pr U ad s R F =>
  isTrue_plain (wpAny_after (h.run env A Pr U ad s R F) fun v s₁ ⟨st, r⟩ => by cases r using Rep.caseNone; exact PyProof.Rows.truthy_none ⟨st, rfl⟩) (he _ _)
theorem V.typeStr {x : Str} : VCall C n (.type "type") [.str x] (.raw (.type "str")) := by
  refine .mk ?_; rintro A m s _ R g rl; obtain ⟨_, rfl, ra⟩ := rl.one
  cases ra using Rep.caseStr
  exact call_type_of (Tx := "str") rfl (by decide +kernel) ⟨Stp.refl _ _, .raw _⟩
theorem V.typeList {ds : List D} : VCall C n (.type "type") [.list ds] (.raw (.type "list")) := by
  refine .mk ?_; rintro A m s _ R g rl; obtain ⟨_, rfl, ra⟩ := rl.one
  cases ra using Rep.caseList with
  | list hv hc hd hr _ => exact call_type_of (Tx := "list") ⟨_, hv.1, hc⟩ (by decide +kernel) ⟨Stp.refl _ _, .raw _⟩
theorem V.isType {T : String} (h : PySem.plainIs (.type T) (.type T) = true := by rfl) : VOp2 C n (compareOp .Is) (.raw (.type T)) (.raw (.type T)) (.bool true) := by
  refine .mk ?_; rintro A m s _ _ R p ra rb; cases ra using Rep.caseRaw; cases rb using Rep.caseRaw
  exact wpAny_is_self h ⟨Stp.refl _ _, .bool _⟩
theorem V.isNotType {T : String} (h : PySem.plainIs (.type T) (.type T) = true := by rfl) : VOp2 C n (compareOp .IsNot) (.raw (.type T)) (.raw (.type T)) (.bool false) := by
  refine .mk ?_; rintro A m s _ _ R p ra rb; cases ra using Rep.caseRaw; cases rb using Rep.caseRaw
  exact wpAny_isNot_self h ⟨Stp.refl _ _, .bool _⟩
theorem V.isNotNoneL {ds : List D} : VOp2 C n (compareOp .IsNot) (.list ds) .none (.bool true) := by
  refine .mk ?_; rintro A m s _ _ R p ra rb; cases rb using Rep.caseNone
  cases ra using Rep.caseList with
  | list hv hc hd hr _ => exact isnot_none_ne (by intro x; cases x) ⟨Stp.refl _ _, .bool _⟩
end Mine
end
-- H2
section
open PySem PySem.W PyProof.Rows
set_option Elab.async false
set_option linter.all false
set_option maxRecDepth 100000
namespace Mine
variable {C : Cx} {n : Nat} {sc : Scope} {Γ Γ' Γ'' : Gam} {env : Env} {Pr : Addr → Obj → Prop} {U m : Addr → Prop} {ad : Str → Option Addr} {s s' s₁ : Shared} {A : Ads}

theorem codeAny_call_cellsB {prog : Program} {w : World} {A : Around} {R : Result → Shared → Prop} {a : Addr} {o : Obj} {fd : FuncData} {body : List Stmt} {args : Args} {binds : List (Str × Value)}
    (hroom : A.depth < recursionLimit) (ho : s.heap.get? a = some o) (hdata : o.data = .func fd) (hlim : s.heap.NoLimit) (hcd : s.heap.CodeRec fd.code fd.qualname)
    (hbody : fd.body = .stmts body) (hbind : BindsTo s fd args binds) (hclo : fd.closure = [])
    (hkind : ∀ x ∈ binds, fd.scope.names.lookup x.1 = some .local ∨ (fd.scope.names.lookup x.1 = some .cell ∧ ((cellsFrom (s.heap.objs.size + 1) fd.scope.names []).lookup x.1).isSome = true))
    (h : ∀ s₁, InCallC s (callEnvC fd s.heap.objs.size a).locals (bindL (callEnvC fd s.heap.objs.size a).kindOf binds fun _ => none) (callEnvC fd s.heap.objs.size a).cells
        (bindC (callEnvC fd s.heap.objs.size a).kindOf binds fun _ => none) s₁ →
      wpAny (model prog w) (A.deeper (callEnvC fd s.heap.objs.size a)) (execs body (callEnvC fd s.heap.objs.size a)) (fun f s' => R (.ok (.ret (match f with | .ret v => v | _ => .none))) s')
        (fun e s' => wpAny (model prog w) (A.deeper (callEnvC fd s.heap.objs.size a)) (leaving (callEnvC fd s.heap.objs.size a) e) (fun _ s'' => R (.error e) s'') (fun e' s'' => R (.error e') s'') s') s₁)
    (hco : fd.scope.isCoroutine = false) (hgen : fd.scope.isGenerator = false) (hk : fd.scope.kind = .function) :
    codeAny (model prog w) A (.call (.ref a) args) R s := by
  refine codeAny_call_function hroom ho hdata hco hgen hbody hcd ?_
  refine hbind _ _ _ _ ?_
  rw [hclo]
  refine wpAny_newFunctionEnv_cells hk hkind fun env he s' x => ?_
  subst he
  exact ⟨hlim.keeps x.toInCall.keep, codeAny_func (h s' x)⟩

/-- a call of a def with keywords -/
structure VKCall (C : Cx) (n : Nat) (f : Value) (ds : List D) (kws : List Str) (kds : List D) (d : D) : Prop where
  run : ∀ A m s vs ks, Room A n → GS C m s → RepL C (vw s.heap m) vs ds → RepL C (vw s.heap m) ks kds → wpAny (model C.prog C.w) A (call f vs (kws.zip ks)) (Res C m s d) noE s
theorem VKCall.le {n' f ds kws kds d} (h : VKCall C n f ds kws kds d) (hn : n ≤ n') : VKCall C n' f ds kws kds d := .mk fun A m s vs ks R => h.run A m s vs ks (R.le hn)

theorem VKCall.fn {fa : Addr} {body : List Stmt} {xs : List Str} {nv : Nat} {kws : List Str} {extra : List Value} {ds kds eds : List D} {d : D} (H : DefB C body sc fa xs nv kws extra) (hx : ExT C n sc (params xs (ds ++ kds ++ eds)) body d)
    (hds : ds.length = nv) (hk : kds.length = kws.length) (he : ∀ V : View, RepL C V extra eds) (hlen : xs.length = nv + kws.length + extra.length := by rfl) (hn : xs.Nodup := by decide)
    (hxs : ∀ x ∈ xs, sc.names.lookup x = some .local ∨ sc.names.lookup x = some .cell := by decide) : VKCall C (n+1) (.ref fa) ds kws kds d := .mk fun A m s vs ks R g hr hkr => by
  obtain ⟨fd, I, rfl, hb⟩ := H
  have hrr : RepL C (vw s.heap m) (vs ++ ks ++ extra) (ds ++ kds ++ eds) := (hr.append hkr).append (he _)
  have l1 := hr.length
  have l2 := hkr.length
  have l3 := (he (vw s.heap m)).length
  have hl : xs.length = (vs ++ ks ++ extra).length := by simp; lia
  obtain ⟨o, ho, hd⟩ := I.obj
  have hkd : (xs.zip (vs ++ ks ++ extra)).map (·.1) = xs := by rw [List.map_fst_zip]; lia
  refine wpAny_call (codeAny_call_cellsB (o := o) (fd := fd) (body := body) (binds := xs.zip (vs ++ ks ++ extra)) R.depth (g.base _ _ ho) hd g.lim ?_ I.body (hb m s g vs ks (by lia) (by lia)) I.clo ?_ (fun s₁ x => ?_) I.cor I.gen I.kind)
  · exact I.codeAt g
  · intro p hp
    have hpx : p.1 ∈ xs := by rw [← hkd]; exact List.mem_map_of_mem hp
    rcases hxs p.1 hpx with h | h
    · exact .inl h
    · exact .inr ⟨h, cellsFrom_some fd.scope.names (s.heap.objs.size + 1) [] p.1 (.inl (mem_of_lookup h))⟩
  · have F := entry I.toFnHd hn hxs hl g hrr x
    refine wpAny_mono (hx.run _ _ _ _ _ _ (R.deeper _) F) (fun f s' q => ?_) fun _ _ h => h.elim
    obtain ⟨v, rfl, hv⟩ := q.val
    exact ⟨Stp.ofGS g q.gs fun a o h1 h2 e => q.pr a o ⟨e, h1, h2⟩, hv⟩

/-- keyword arguments -/
structure EvK (C : Cx) (n : Nat) (sc : Scope) (Γ : Gam) (kws : List Keyword) (ks : List Str) (ds : List D) : Prop where
  run : ∀ env A Pr U ad s pos, Room A n → FSa C sc env Pr U Γ ad s → wpAny (model C.prog C.w) A (evalAll ((backToKw pos (keywordEach kws env)).map (·.2))) (ResL C (mu U sc env ad) s ds) noE s
theorem EvK.nil : EvK C n sc Γ [] [] [] := .mk fun _ _ _ _ _ _ _ _ _ => kwAll_nil ⟨Stp.refl _ _, .nil⟩
theorem EvK.cons {name v p kws ks d ds} (h : Ev C n sc Γ v d) (hs : EvK C n sc Γ kws ks ds) : EvK C n sc Γ (⟨some name, v, p⟩ :: kws) (name :: ks) (d :: ds) := .mk fun env A Pr U ad s pos R F =>
  kwAll_cons (wpAny_after (h.run env A Pr U ad s R F) fun v s₁ ⟨st₁, r₁⟩ => wpAny_after (hs.run env A Pr U ad s₁ pos R (F.step st₁)) fun vs s₂ ⟨st₂, r₂⟩ =>
    ⟨st₁.trans st₂, .cons (r₁.mono ((F.step st₁).pt.up st₂)) r₂⟩)

theorem HdrOK.isIn {K} (H : HdrOK C A K) (g : GS C m s) : K.In s.heap := fun a o e => g.base _ _ (H.inb a o e)
theorem hdrInst {K : Frag} (H : HdrOK C A K) {v : Value} {d : D} (r : Rep C (vw s.heap m) v (.hdr d)) : ∃ x da hsh tk k w, v = .ref x ∧ InstAt s.heap x (instObj A.hdr da) A.hdr (some (dictOf [⟨hsh, .str "_headers" tk, w⟩] k)) ∧ Rep C (vw s.heap m) w d := by
  cases r using Rep.caseHdr with
  | hdr h1 h2 h3 h4 =>
    rw [H.mg] at h2
    cases h2
    exact ⟨_, _, _, _, _, _, rfl, ⟨h1.1, rfl, rfl, h3.1⟩, h4⟩
theorem notField {name : Str} {hsh : Int} {tk : Tok} {w : Value} {k : Nat} (h : ((Value.str "_headers" tk).isStr name) = false) : shadowIn (some (dictOf [⟨hsh, .str "_headers" tk, w⟩] k)) name = some false := by
  show (getL name [⟨hsh, .str "_headers" tk, w⟩]).map _ = _
  unfold getL
  rw [List.find?_cons]
  simp only [h]
  rfl

/-- a method of a table of headers -/
theorem Ev.methH {K : Frag} (H : HdrOK C A K) {o name apos pos e es kws d ds ks kds r} {f : Addr} (ho : Ev C n sc Γ o (.hdr d)) (ha : EvL C n sc Γ (e :: es) ds) (hk : EvK C n sc Γ kws ks kds) (h : VKCall C n (.ref f) (.hdr d :: ds) ks kds r)
    (hf : findIn K (.ref A.hdr) name = some (some (.ref f))) (hm : f ∈ [A.hInit, A.hConv, A.hGet, A.hGetAll, A.hItems]) (hname : ∀ tk, ((Value.str "_headers" tk).isStr name) = false := by intro tk; rfl)
    (hks : ∀ env, (backToKw pos (keywordEach kws env)).filterMap (·.1) = ks := by intro _; rfl) (hall : ∀ env, (backToKw pos (keywordEach kws env)).all (·.1.isSome) = true := by intro _; rfl)
    (hplain : ∀ env, ((backTo pos (starEach (e :: es) env)).any (·.1) || (backToKw pos (keywordEach kws env)).any (·.1.isNone)) = false := by intro _; rfl)
    (hse : ∀ env, starEach (e :: es) env = (false, eval e env) :: starEach es env := by intro _; rfl)
    {pl : Env → Sem Bool}
    (he : ∀ env, eval (.Call (.Attribute o name apos) (e :: es) kws pos) env = (do
      let ov ← eval o env
      standAt apos.atName
      let (f, first) ← holding [ov] (getMethod ov name (pl env))
      callWith pos f first (backTo pos (starEach (e :: es) env)) (backToKw pos (keywordEach kws env))) := by intro _; rfl) :
    Ev C n sc Γ (.Call (.Attribute o name apos) (e :: es) kws pos) r := .mk fun env A₁ Pr U ad s R F => by
  refine methodCall_KW (pl := pl env) (wpAny_after (ho.run env A₁ Pr U ad s R F) fun v s₁ ⟨st, rv⟩ => ?_) (he env)
  have F₁ := F.step st
  obtain ⟨x, da, hsh, tk, k, w, rfl, I, rw'⟩ := hdrInst H rv
  have X := H.isIn F₁.gs
  have fk := H.fns f hm
  refine method_fn X I (plainGet_of H.getat).1 (plainGet_of H.getat).2 hf (beq_iff_eq.mp fk.1) (notField (hname tk)) ?_
  refine callWith_KW (h₀ := s₁.heap) X fk.2 (hall env) (wpAny_after (ha.run env A₁ Pr U ad s₁ pos R F₁) fun vs s₂ ⟨st₂, r₂⟩ => wpAny_after (hk.run env A₁ Pr U ad s₂ pos R (F₁.step st₂)) fun kvs s₃ ⟨st₃, r₃⟩ => ?_) (hplain env) (hse env)
  have F₃ := (F₁.step st₂).step st₃
  refine ⟨H.isIn F₃.gs, ?_⟩
  rw [hks]
  exact wpAny_after (h.run A₁ _ s₃ (.ref x :: vs) kvs R F₃.pt (.cons ((rv.mono (F₁.pt.up st₂)).mono ((F₁.step st₂).pt.up st₃)) (r₂.mono ((F₁.step st₂).pt.up st₃))) r₃) fun _ _ h' => ((h'.after st₃).after st₂).after st
theorem Ev.methH0 {K : Frag} (H : HdrOK C A K) {o name apos pos d r} {f : Addr} (ho : Ev C n sc Γ o (.hdr d)) (h : VKCall C n (.ref f) [.hdr d] [] [] r)
    (hf : findIn K (.ref A.hdr) name = some (some (.ref f))) (hm : f ∈ [A.hInit, A.hConv, A.hGet, A.hGetAll, A.hItems]) (hname : ∀ tk, ((Value.str "_headers" tk).isStr name) = false := by intro tk; rfl)
    {pl : Env → Sem Bool}
    (he : ∀ env, eval (.Call (.Attribute o name apos) [] [] pos) env = (do
      let ov ← eval o env
      standAt apos.atName
      let (f, first) ← holding [ov] (getMethod ov name (pl env))
      callWith pos f first (backTo pos (starEach [] env)) (backToKw pos (keywordEach [] env))) := by intro _; rfl) :
    Ev C n sc Γ (.Call (.Attribute o name apos) [] [] pos) r := .mk fun env A₁ Pr U ad s R F => by
  refine methodCall_KW (pl := pl env) (wpAny_after (ho.run env A₁ Pr U ad s R F) fun v s₁ ⟨st, rv⟩ => ?_) (he env)
  have F₁ := F.step st
  obtain ⟨x, da, hsh, tk, k, w, rfl, I, rw'⟩ := hdrInst H rv
  have X := H.isIn F₁.gs
  have fk := H.fns f hm
  refine method_fn X I (plainGet_of H.getat).1 (plainGet_of H.getat).2 hf (beq_iff_eq.mp fk.1) (notField (hname tk)) ?_
  refine callWith_KW0 (h₀ := s₁.heap) X fk.2 rfl (kwAll_nil ?_) rfl
  refine ⟨X, ?_⟩
  exact wpAny_after (h.run A₁ _ s₁ [.ref x] [] R F₁.pt (.cons rv .nil) .nil) fun _ _ h' => h'.after st

/-- self._headers -/
theorem Ev.field {K : Frag} (H : HdrOK C A K) {x xp pos ds} (ho : Ev C n sc Γ (.Name x xp) (.hdr (.list ds))) : Ev C n sc Γ (.Attribute (.Name x xp) "_headers" pos) (.list ds) := .mk fun env A₁ Pr U ad s R F => by
  refine Attribute_Name_ (wpAny_after (ho.run env A₁ Pr U ad s R F) fun v s₁ ⟨st, rv⟩ => ?_)
  have F₁ := F.step st
  obtain ⟨x, da, hsh, tk, k, w, rfl, I, rw'⟩ := hdrInst H rv
  have X := H.isIn F₁.gs
  have hl : lookIn "_headers" (dictOf [⟨hsh, .str "_headers" tk, w⟩] k) = some (some w) := by
    rw [lookIn_dict]
    unfold getL
    rw [List.find?_cons]
    rfl
  have hw : handedIn w = true := by cases rw' using Rep.caseList; rfl
  exact get_value X I (plainGet_of H.getat).1 (findObj_own H.has H.field rfl hl) hw ⟨st.trans (Stp.tok _), rw'⟩
end Mine
end
-- ForR
section
open PySem PySem.W PyProof.Rows
set_option Elab.async false
set_option linter.all false
namespace Mine
variable {C : Cx} {n : Nat} {sc : Scope} {Γ Γ' Γ'' : Gam} {env : Env} {Pr : Addr → Obj → Prop} {U m : Addr → Prop} {ad : Str → Option Addr} {s s' s₁ : Shared}

/-- a loop that returns at its turn j -/
theorem ExT.forRet {iter target body pos H ss dr} {ds : List D} (hsrc : Src C n sc Γ iter target H ds) (Γs Γt : Nat → Gam) (h0 : Γs 0 = Γ) (j : Nat) (hj : j < ds.length)
    (has : ∀ i d, i ≤ j → ds[i]? = some d → As C n sc (Γs i) target H d (Γt i)) (hbody : ∀ i d, i < j → ds[i]? = some d → ExN C n sc (Γt i) body (Γs (i+1))) (hret : ExT C n sc (Γt j) body dr)
    (hs : ∀ env x, foldedSetIterable iter env x = pure x := by intro _ _; rfl) : ExT C n sc Γ (.For target iter body [] pos :: ss) dr := .mk fun env A Pr U ad s R F => by
  subst h0
  refine wpAny_execs_cons (wpAny_For (wpAny_after (hsrc.run env A Pr U ad s R F) fun x s₁ h₁ => wpAny_after h₁ fun it s₂ h₂ => ?_) (hs env))
  exact loop_core True (dr := dr) Γs (fun i b => b = i ∧ i ≤ j) (fun b _ => Γt b) 0 R F h₂ ⟨rfl, Nat.zero_le _⟩ (fun i b d hd e => e.1 ▸ has i d e.2 hd) (fun i b d hd e Pr U ad s F => by
    obtain ⟨rfl, hi⟩ := e
    by_cases hij : b < j
    · exact wpAny_after ((hbody b d hij hd).run env A Pr U ad s R F) fun f s' ⟨e, ad', F'⟩ => .inl ⟨e, b + 1, ad', ⟨rfl, hij⟩, F'⟩
    · obtain rfl : b = j := Nat.le_antisymm hi (Nat.le_of_not_lt hij)
      exact wpAny_after (hret.run env A Pr U ad s R F) fun f s' q => .inr ⟨trivial, q⟩) (fun _ v s' q => q) fun b ad' s' e F' => absurd e.2 (Nat.not_le_of_lt hj)
end Mine
end
-- H3
section
open PySem PySem.W PyProof.Rows
set_option Elab.async false
set_option linter.all false
set_option maxRecDepth 100000
namespace Mine
variable {C : Cx} {n : Nat} {sc : Scope} {Γ Γ' Γ'' : Gam} {env : Env} {Pr : Addr → Obj → Prop} {U m : Addr → Prop} {ad : Str → Option Addr} {s s' s₁ : Shared} {A : Ads}
/-- a text that both patterns let pass -/
noncomputable def Fine (x : Str) : Prop := x.cps.size ≤ 1000 ∧ finds0 nameCode x = true ∧ finds0 valueCode x = true

theorem Tst.boolName {x pos b} (h : Γ.lookup x = some (.d (.bool b))) (hd : (x == ("__debug__" : Str)) = false := by decide) : Tst C n sc Γ (.Name x pos) b := Tst.of (Ev.name h hd)

theorem ex_conv (L : Lay C A) {sf : D} {x : Str} {b : Bool} (hx : Fine x) : ExT C n (mSc 1) (params ["self", "value", "name"] [sf, .str x, .bool b]) (mBody 1) (.str x) := by
  refine ExT.ite (c := true) (Tst.cmp (Ev.callT (Ev.glob rfl (L.glob rfl)) (EvL.cons (Ev.name rfl) EvL.nil) V.typeStr) (Ev.glob rfl (L.glob rfl)) V.isType) (fun _ => ?_) (fun h => by cases h)
  refine ExT.cons (Ex1.assign (d := .raw (.ref (if b then A.nre else A.vre))) (Ev.ifexp (c := b) (Tst.boolName rfl) (fun h => ?_) (fun h => ?_))) ?_
  · subst h; exact Ev.glob rfl (L.glob rfl)
  · subst h; exact Ev.glob rfl (L.glob rfl)
  refine ExT.ite (c := false) (Tst.none ?_) (fun h => by cases h) (fun _ => ExT.ret (Ev.name rfl))
  cases b
  · exact Ev.search (Ev.name rfl) (Ev.name rfl) L.vpat hx.2.2 (by have := hx.1; lia)
  · exact Ev.search (Ev.name rfl) (Ev.name rfl) L.npat hx.2.1 (by have := hx.1; lia)

theorem repNil {V : View} : RepL C V [] [] := .nil
theorem repNone {V : View} : RepL C V [.none] [.none] := .cons .none .nil
theorem c_conv (L : Lay C A) {K : Frag} (H : HdrOK C A K) {sf : D} {x : Str} {b : Bool} (hx : Fine x) : VKCall C (n+1) (.ref A.hConv) [sf, .str x] ["name"] [.bool b] (.str x) :=
  VKCall.fn (eds := []) H.dConv (ex_conv L hx) rfl rfl (fun _ => .nil)

theorem sub_cons {Γ0 Γ1 : Gam} {k : Str} {v : Slot} (h : Γ0.lookup k = none) (h1 : ∀ x sl, Γ0.lookup x = some sl → Γ1.lookup x = some sl) : ∀ x sl, Γ0.lookup x = some sl → ((k, v) :: Γ1).lookup x = some sl := fun x sl e => by
  rw [List.lookup_cons]
  cases hxk : x == k with
  | false => exact h1 x sl e
  | true => rw [beq_iff_eq.mp hxk, h] at e; cases e
/-- a table of headers -/
abbrev Hs := List (Str × Str)
noncomputable def hsD (l : Hs) : D := .list (l.map fun p => .tup [.str p.1, .str p.2])
noncomputable def hdrD (l : Hs) : D := .hdr (hsD l)

theorem ex_getAll (L : Lay C A) {K : Frag} (H : HdrOK C A K) {l : Hs} {x : Str} (hll : l.length ≤ 1000) (hx : Fine (Txt.lower x)) (hx0 : x.cps.size ≤ 1000) (hl : ∀ p ∈ l, p.1.cps.size ≤ 1000) :
    ExT C (n+1) (mSc 7) (params ["self", "name"] [hdrD l, .str x]) (mBody 7) (.list ((l.filter fun p => Txt.lower p.1 == Txt.lower x).map fun p => .str p.2)) := by
  refine ExT.cons (Ex1.assign (d := .str (Txt.lower x)) (Ev.methH H (Ev.name rfl) (EvL.cons (Ev.lower (Ev.name rfl) hx0) EvL.nil) (EvK.cons Ev.bool EvK.nil) (c_conv L H hx) H.conv (by simp))) ?_
  refine ExT.ret (Ev.lc (LC.filN l (fun p => .tup [.str p.1, .str p.2]) (fun p => .str p.2) (fun p => Txt.lower p.1 == Txt.lower x) [(Str.ofString "name", Slot.d (.str (Txt.lower x)))] (Src.list (Ev.field H (Ev.name rfl))) (allCons ⟨rfl, rfl, rfl⟩ allNil) ?_ ?_ (hlen := by lia)))
  · intro p hp
    exact Tst.cmp (Ev.lower (Ev.cast (by walk_at "ev") (by rfl)) (hl p hp)) (Ev.name rfl) V.eqs
  · intro p hp _
    exact Ev.cast (by walk_at "ev") (by rfl)
theorem c_getAll (L : Lay C A) {K : Frag} (H : HdrOK C A K) {l : Hs} {x : Str} (hll : l.length ≤ 1000) (hx : Fine (Txt.lower x)) (hx0 : x.cps.size ≤ 1000) (hl : ∀ p ∈ l, p.1.cps.size ≤ 1000) :
    VKCall C (n+2) (.ref A.hGetAll) [hdrD l, .str x] [] [] (.list ((l.filter fun p => Txt.lower p.1 == Txt.lower x).map fun p => .str p.2)) :=
  VKCall.fn (eds := []) H.dGetAll (ex_getAll L H hll hx hx0 hl) rfl rfl (fun _ => .nil)

theorem ex_get (L : Lay C A) {K : Frag} (H : HdrOK C A K) {l : Hs} {x : Str} {j : Nat} {p : Str × Str} (hj : l[j]? = some p) (hp : Txt.lower p.1 = Txt.lower x) (hb : ∀ i q, i < j → l[i]? = some q → Txt.lower q.1 ≠ Txt.lower x) (hx : Fine (Txt.lower x)) (hx0 : x.cps.size ≤ 1000) (hl : ∀ p ∈ l, p.1.cps.size ≤ 1000) :
    ExT C (n+1) (mSc 8) (params ["self", "name", "default"] [hdrD l, .str x, .none]) (mBody 8) (.str p.2) := by
  refine ExT.cons (Ex1.assign (d := .str (Txt.lower x)) (Ev.methH H (Ev.name rfl) (EvL.cons (Ev.lower (Ev.name rfl) hx0) EvL.nil) (EvK.cons Ev.bool EvK.nil) (c_conv L H hx) H.conv (by simp))) ?_
  have hjl : j < l.length := (List.getElem?_eq_some_iff.mp hj).1
  let Γ0 : Gam := (Str.ofString "name", Slot.d (.str (Txt.lower x))) :: params ["self", "name", "default"] [hdrD l, .str x, .none]
  have e : ∀ (i : Nat) (d : D), (l.map fun (p : Str × Str) => D.tup [.str p.1, .str p.2])[i]? = some d → ∃ q : Str × Str, l[i]? = some q ∧ d = D.tup [.str q.1, .str q.2] := by
    intro i d hd
    simp only [List.getElem?_map, Option.map_eq_some_iff] at hd
    obtain ⟨q, h1, h2⟩ := hd
    exact ⟨q, h1, h2.symm⟩
  refine ExT.forRet (H := true) (ds := l.map fun p => .tup [.str p.1, .str p.2]) (Src.list (Ev.field H (Ev.name rfl)) ?_) (fun _ => Γ0) (fun i => (Str.ofString "v", Slot.d (.str (l[i]?.getD default).2)) :: (Str.ofString "k", Slot.d (.str (l[i]?.getD default).1)) :: Γ0) rfl j (by simpa using hjl) ?_ ?_ ?_
  · intro d hd _; simp at hd; obtain ⟨_, _, _, rfl⟩ := hd; exact ⟨_, rfl⟩
  · intro i d hi hd
    obtain ⟨q, hq, rfl⟩ := e i d hd
    rw [hq]
    exact As.tup (ps := [(Str.ofString "k", _), (Str.ofString "v", _)])
  · intro i d hi hd
    obtain ⟨q, hq, rfl⟩ := e i d hd
    rw [hq]
    refine ExN.sub (ExN.ofEx1 (Ex1.ite (Γ' := (Str.ofString "v", Slot.d (.str q.2)) :: (Str.ofString "k", Slot.d (.str q.1)) :: Γ0) (c := false) (Tst.cast (Tst.cmp (Ev.lower (Ev.name rfl) (hl q (List.mem_of_getElem? hq))) (Ev.name rfl) V.eqs) ?_) (fun h => by cases h) (fun _ => ExN.nil))) (sub_cons rfl (sub_cons rfl fun _ _ h => h))
    simpa using hb i q hi hq
  · rw [hj]
    refine ExT.ite (c := true) (Tst.cast (Tst.cmp (Ev.lower (Ev.name rfl) (hl p (List.mem_of_getElem? hj))) (Ev.name rfl) V.eqs) (by simpa using hp)) (fun _ => ExT.ret (Ev.name rfl)) (fun h => by cases h)
theorem c_get (L : Lay C A) {K : Frag} (H : HdrOK C A K) {l : Hs} {x : Str} {j : Nat} {p : Str × Str} (hj : l[j]? = some p) (hp : Txt.lower p.1 = Txt.lower x) (hb : ∀ i q, i < j → l[i]? = some q → Txt.lower q.1 ≠ Txt.lower x) (hx : Fine (Txt.lower x)) (hx0 : x.cps.size ≤ 1000) (hl : ∀ p ∈ l, p.1.cps.size ≤ 1000) :
    VKCall C (n+2) (.ref A.hGet) [hdrD l, .str x] [] [] (.str p.2) :=
  VKCall.fn (eds := [.none]) H.dGet (ex_get L H hj hp hb hx hx0 hl) rfl rfl (fun _ => .cons .none .nil)

theorem ex_items (L : Lay C A) {K : Frag} (H : HdrOK C A K) {l : Hs} (hl : l.length ≤ 1000) : ExT C n (mSc 11) (params ["self"] [hdrD l]) (mBody 11) (hsD l) := by
  refine ExT.ret (Ev.cast (Ev.slice (Ev.field H (Ev.name rfl)) EvO.none EvO.none (V.sliceL (by simp; lia))) ?_)
  simp only [hsD, kms_lo, kms_hi, List.drop_zero, Nat.sub_zero]
  rw [List.take_of_length_le (by simp)]
theorem c_items (L : Lay C A) {K : Frag} (H : HdrOK C A K) {l : Hs} (hl : l.length ≤ 1000) : VKCall C (n+1) (.ref A.hItems) [hdrD l] [] [] (hsD l) :=
  VKCall.fn (eds := []) H.dItems (ex_items L H hl) rfl rfl (fun _ => .nil)
end Mine
end
-- H4
section
open PySem PySem.W PyProof.Rows
set_option Elab.async false
set_option linter.all false
set_option maxRecDepth 100000
namespace Mine
variable {C : Cx} {n : Nat} {sc : Scope} {Γ Γ' Γ'' : Gam} {env : Env} {Pr : Addr → Obj → Prop} {U m : Addr → Prop} {ad : Str → Option Addr} {s s' s₁ : Shared} {A : Ads}
theorem Ex1.exprS {e pos x} (h : Ev C n sc Γ e (.str x)) (hs : ∀ env : Env, swapsWith e Option.none pos.line env = pure false := by intro _; rfl) : Ex1 C n sc Γ (.Expr e pos) Γ := .mk fun env A Pr U ad s R F =>
  wpAny_Expr (wpAny_after (h.run env A Pr U ad s R F) fun v s₁ ⟨st, r⟩ => by cases r using Rep.caseStr; exact ⟨rfl, ad, F.step st⟩) (interactive_fn F.ev) (hs env)

theorem FSa.reslot (F : FSa C sc env Pr U Γ ad s) {x : Str} {d d' : D} (hx : Γ.lookup x = some (.d d)) (h : ∀ v, Rep C (vw s.heap (mu U sc env ad)) v d → Rep C (vw s.heap (mu U sc env ad)) v d') : FSa C sc env Pr U ((x, .d d') :: Γ) ad s := by
  refine { F with vars := fun y sl hy => ?_, own := fun y a hy => ?_ }
  · rw [List.lookup_cons] at hy
    by_cases hxy : y = x
    · subst hxy
      simp only [beq_self_eq_true, Option.some.injEq] at hy
      subst hy
      obtain ⟨v, hv, hs⟩ := F.vars y _ hx
      exact ⟨v, hv, h v hs⟩
    · have : (y == x) = false := by simpa using hxy
      rw [this] at hy
      exact F.vars y sl hy
  · obtain ⟨h1, h2, h3, sl, h4, h5⟩ := F.own y a hy
    refine ⟨h1, h2, h3, sl, ?_, h5⟩
    rw [List.lookup_cons]
    by_cases hxy : y = x
    · subst hxy
      rw [hx] at h4; cases h4; cases h5
    · have : (y == x) = false := by simpa using hxy
      rw [this]; exact h4

/-- self._headers = v, the object new -/
theorem setField {K : Frag} (H : HdrOK C A K) (g : GS C m s) {x dx : Addr} {v : Value} {A₁ : Around} {Q : Unit → Shared → Prop} (hx : s.heap.get? x = some (instObj A.hdr dx)) (hdx : s.heap.get? dx = some emptyDict) (hb : dx ≠ builtinsNs) (hg : dx ≠ mainGlobals)
    (h : ∀ h' hsh tk k tk', h'.get? dx = some (dictOf [⟨hsh, .str "_headers" tk, v⟩] k) → (∀ a o, a ≠ dx → s.heap.get? a = some o → h'.get? a = some o) → Q () { s with heap := h', toks := tk' }) :
    wpAny (model C.prog C.w) A₁ (setAttr (.ref x) "_headers" v) Q noE s := by
  have run : ∀ (L : Addr) (mm : Str → Option Value) (news : List (Addr × Obj)), dx ≠ L → s.heap.Ns L mm → Fr {} L s.heap mm → News {} L s.heap news → (∀ a o, a ≠ L → s.heap.get? a = some o → (a, o) ∈ news) →
      wpAny (model C.prog C.w) A₁ (setAttr (.ref x) "_headers" v) (fun _ s' => ∃ h' hsh tk k tk', s' = { s with heap := h', toks := tk' } ∧ h'.get? dx = some (dictOf [⟨hsh, .str "_headers" tk, v⟩] k) ∧ ∀ a o, a ≠ dx → a ≠ L → s.heap.get? a = some o → h'.get? a = some o) noE s := by
    intro L mm news hb hL F N hall
    have N' : News {} L s.heap ([] ++ (dx, emptyDict) :: news.filter fun p => p.1 != dx) := by
      intro p hp
      rcases List.mem_cons.mp hp with rfl | hp
      · exact N _ (hall _ _ hb hdx)
      · exact N p (List.mem_filter.mp hp).1
    have X := H.isIn g
    have I : InstAt s.heap x (instObj A.hdr dx) A.hdr (some emptyDict) := ⟨hx, rfl, rfl, hdx⟩
    refine set_plain X I H.setat (osa_dict (s := { s with toks := s.toks + 1 }) F N' X I rfl H.over (by unfold takerIn; rw [H.field]; rfl) H.has rfl (fun p hp => by cases hp) (fun p hp => by simpa using (List.mem_filter.mp hp).2)
      (putName_dict _ _ _ _ [] 0) rfl (by simp [putL]) fun h' F' N'' => ?_)
    exact ⟨h', PyData.keyHash C.w.params "_headers", (s.toks + 1), (putN "_headers" [] 0), (s.toks + 1 + 1), rfl, (N'' (dx, _) (List.Mem.head _)).1, fun a o h1 h2 e => (N'' (a, o) (by simp [h1, hall a o h2 e])).1⟩
  obtain ⟨n1, F1, N1, a1⟩ := allNews g.mb
  obtain ⟨n2, F2, N2, a2⟩ := allNews g.mg
  refine wpAny_mono (wpAny_both (run builtinsNs _ n1 hb g.mb F1 N1 a1) (run mainGlobals _ n2 hg g.mg F2 N2 a2)) (fun _ s' q => ?_) fun _ _ h => h.1
  obtain ⟨⟨h', hsh, tk, k, tk', rfl, q1, q2⟩, ⟨h'', _, _, _, _, e, _, q3⟩⟩ := q
  have e : h' = h'' := congrArg Shared.heap e
  subst e
  exact h h' hsh tk k tk' q1 fun a o h1 h2 => by
    by_cases hab : a = builtinsNs
    · exact q3 a o h1 (by rw [hab]; decide) h2
    · exact q2 a o h1 hab h2

theorem Room.make {A : Around} {n : Nat} (h : Room A (n+1)) (a : Addr) (rest : List Value) (kw) : Room (A.under (.builtin "type.__call__" ⟨.ref a :: rest, kw⟩)) n := by
  have hw : (Code.builtin "type.__call__" ⟨.ref a :: rest, kw⟩).weight = 1 := rfl
  have hc : (Code.builtin "type.__call__" ⟨.ref a :: rest, kw⟩).cUnits = 1 := rfl
  refine ⟨h.1, ?_, ?_⟩
  · have := h.2.1; simp only [Around.under, hw]; lia
  · have := h.2.2; simp only [Around.under, hc]; lia

/-- the pairs of a table: all their texts pass -/
noncomputable def FineHs (l : Hs) : Prop := ∀ p ∈ l, Fine p.1 ∧ Fine p.2

theorem stmts_init : ∃ s1 s2 s3 s4, mBody 0 = [s1, s2, s3, s4] := ⟨_, _, _, _, rfl⟩
noncomputable def gInit (sf : D) (l : Hs) : Gam := (Str.ofString "headers", Slot.d (hsD l)) :: params ["self", "headers"] [sf, hsD l]
theorem init1 {sf : D} {l : Hs} : Ex1 C n (mSc 0) (params ["self", "headers"] [sf, hsD l]) ((mBody 0).getD 0 default) (gInit sf l) :=
  Ex1.assign (Ev.ifexp (c := true) (Tst.cmp (Ev.name rfl) Ev.none V.isNotNoneL) (fun _ => Ev.name rfl) (fun h => by cases h))
theorem init2 (L : Lay C A) {sf : D} {l : Hs} : Ex1 C n (mSc 0) (gInit sf l) ((mBody 0).getD 1 default) (gInit sf l) :=
  Ex1.ite (c := false) (Tst.cmp (Ev.callT (Ev.glob rfl (L.glob rfl)) (EvL.cons (Ev.name rfl) EvL.nil) V.typeList) (Ev.glob rfl (L.glob rfl)) V.isNotType) (fun h => by cases h) (fun _ => ExN.nil)
theorem init4 (L : Lay C A) {K : Frag} (H : HdrOK C A K) {sf : D} {l : Hs} (hl : FineHs l) :
    Ex1 C (n+1) (mSc 0) ((Str.ofString "self", Slot.d (hdrD l)) :: gInit sf l) ((mBody 0).getD 3 default) ((Str.ofString "self", Slot.d (hdrD l)) :: gInit sf l) := by
  refine Ex1.ite (c := true) (Tst.of Ev.bool) (fun _ => ExN.ofEx1 ?_) (fun h => by cases h)
  let Γ0 : Gam := (Str.ofString "self", Slot.d (hdrD l)) :: gInit sf l
  refine Ex1.fold (H := true) l (fun p => D.tup [.str p.1, .str p.2]) (fun b _ => b) () (fun _ => Γ0) (fun _ p => (Str.ofString "v", Slot.d (.str p.2)) :: (Str.ofString "k", Slot.d (.str p.1)) :: Γ0) (fun _ => True) trivial (Src.list (Ev.name rfl) ?_) (fun _ _ _ _ => trivial) ?_ ?_
  · intro d hd _; simp at hd; obtain ⟨_, _, _, rfl⟩ := hd; exact ⟨_, rfl⟩
  · intro _ p _ _; exact As.tup (ps := [(Str.ofString "k", _), (Str.ofString "v", _)])
  · intro _ p hp _
    refine ExN.sub (ExN.cons (Ex1.exprS (Ev.methH H (Ev.name rfl) (EvL.cons (Ev.name rfl) EvL.nil) (EvK.cons Ev.bool EvK.nil) (c_conv L H (hl p hp).1) H.conv (by simp))) (ExN.cons (Ex1.exprS (Ev.methH H (Ev.name rfl) (EvL.cons (Ev.name rfl) EvL.nil) (EvK.cons Ev.bool EvK.nil) (c_conv L H (hl p hp).2) H.conv (by simp))) ExN.nil)) (sub_cons rfl (sub_cons rfl fun _ _ h => h))
end Mine
end
-- H5
section
open PySem PySem.W PyProof.Rows
set_option Elab.async false
set_option linter.all false
set_option maxRecDepth 100000
namespace Mine
variable {C : Cx} {n : Nat} {sc : Scope} {Γ Γ' Γ'' : Gam} {env : Env} {Pr : Addr → Obj → Prop} {U m : Addr → Prop} {ad : Str → Option Addr} {s s' s₁ : Shared} {A : Ads}

theorem stmt3 : (mBody 0).getD 2 default = .Assign [.Attribute (.Name "self" ⟨93, 8, 93, 12⟩) "_headers" ⟨93, 8, 93, 21⟩] (.Name "headers" ⟨93, 24, 93, 31⟩) ⟨93, 8, 93, 31⟩ := rfl

theorem new_none' (s : Shared) {a : Addr} (h : s.heap.objs.size ≤ a) : s.heap.get? a = none := by
  cases e : s.heap.get? a with
  | none => rfl
  | some o' => exact absurd (Heap.lt_size e) (Nat.not_lt.mpr h)

/-- one object among U has changed, U gets smaller -/
theorem FSa.moved1 (F : FSa C sc env Pr U Γ ad s) {d : Addr} {U2 : Addr → Prop} {h' : Heap} {tk : Nat} (hU2 : ∀ a, U2 a → U a) (ub : U2 builtinsNs) (uh : U2 C.hole) (hd : U d) (hdb : d ≠ builtinsNs) (hdh : d ≠ C.hole) (hd2 : ¬ U2 d)
    (hk : ∀ a o, a ≠ d → a ≠ builtinsNs → s.heap.get? a = some o → h'.get? a = some o) (hkb : ∀ o, s.heap.get? builtinsNs = some o → h'.get? builtinsNs = some o) (hns : h'.Ns builtinsNs C.mb) (hdd : ∃ o, s.heap.get? d = some o ∧ ∀ vs, o.data ≠ .fields vs) (hdc : ∀ x c, env.cells.lookup x = some c → c ≠ d)
    (hdm : d ≠ mainGlobals) (hds : d ≠ cStatics) : FSa C sc env (fun _ _ => False) U2 Γ ad { s with heap := h', toks := tk } := by
  have hf : ∀ a, Foot sc env ad a → a ≠ d := fun a ha e => (F.foot a ha).2.2.2.2 (e ▸ hd)
  have hup : ∀ a o, vw s.heap (mu U sc env ad) a o → vw h' (mu U2 sc env ad) a o := fun a o ⟨h1, h2⟩ =>
    ⟨hk a o (fun e => h2 (.inl (e ▸ hd))) (fun e => h2 (.inl (e ▸ F.gs.ub))) h1, fun h => h2 (h.imp (hU2 a) id)⟩
  have fk : ∀ a o, Foot sc env ad a → s.heap.get? a = some o → h'.get? a = some o := fun a o h e => hk a o (hf a h) (F.footNe h).1 e
  have hbd : ∀ a o, C.base a o → a ≠ d := fun a o hb e => F.gs.ubase a o hb (e ▸ hd)
  have hbb : ∀ a o, C.base a o → a ≠ builtinsNs := fun a o hb e => F.gs.ubase a o hb (e ▸ F.gs.ub)
  have mk : mainGlobals ≠ builtinsNs := by decide
  have sk : cStatics ≠ builtinsNs := by decide
  refine ⟨⟨?_, hns, ?_, F.gs.gens, F.gs.os, ?_, ?_, ub, uh, ?_, fun a o hb h => F.gs.ubase a o hb (hU2 a h)⟩, F.ev, fun _ _ h => h.elim, fun a ha => ⟨fun _ h => h, (F.foot a ha).2.1, (F.foot a ha).2.2.1, (F.foot a ha).2.2.2.1, fun h => (F.foot a ha).2.2.2.2 (hU2 a h)⟩, fun _ _ h => h.elim, ?_, ?_, F.free, F.apart, F.nl, ?_, ?_, F.own⟩
  · exact F.gs.mg.at' fun o e => hk _ o (Ne.symm hdm) mk e
  · obtain ⟨mc, h, q⟩ := F.gs.lim
    exact ⟨mc, h.at' fun o e => hk _ o (Ne.symm hds) sk e, q⟩
  · refine C.tabMono _ _ (fun a o ha e => ?_) F.gs.tab
    by_cases hab : a = builtinsNs
    · subst hab; exact hkb o e
    · refine hk a o (fun hb => ?_) hab e
      subst hb
      rcases ha with ⟨_, vs, hv⟩ | ha | ha
      · obtain ⟨o', ho, hf⟩ := hdd
        rw [e] at ho; cases ho; exact hf vs hv
      · exact hdh ha
      · exact hab ha
  · intro a ha
    by_cases hb : a = builtinsNs
    · subst hb; obtain ⟨o, _, _, e, _⟩ := hns; exact ⟨o, e⟩
    · obtain ⟨o, e⟩ := F.gs.udom a (hU2 a ha)
      exact ⟨o, hk a o (fun e => hd2 (e ▸ ha)) hb e⟩
  · intro a o hb
    exact hk a o (hbd a o hb) (hbb a o hb) (F.gs.base a o hb)
  · obtain ⟨m, hm⟩ := F.ns
    exact ⟨m, hm.at' fun o e => fk _ o (.inl rfl) e⟩
  · intro x hx
    obtain ⟨h1, c, v, hc, o, ho, hd⟩ := F.cell x hx
    exact ⟨h1, c, v, hc, o, fk _ _ (.inr (.inl ⟨x, hx, hc⟩)) ho, hd⟩
  · intro x c hc
    obtain ⟨o, e⟩ := F.cdom x c hc
    exact ⟨o, hk _ _ (hdc x c hc) (F.nl x c hc).2.1 e⟩
  · intro x sl hx
    obtain ⟨v, hv, hs⟩ := F.vars x sl hx
    refine ⟨v, hv.keep fun a o ha e => ?_, ?_⟩
    · rcases ha with rfl | ⟨y, hy⟩
      · exact fk _ _ (.inl rfl) e
      · exact hk _ _ (hdc y a hy) (F.nl y a hy).2.1 e
    · exact hs.map hup (fun _ e => e) (fun a o h1 h2 => fk a _ (.inr (.inr ⟨x, h1⟩)) h2)

theorem c_make (L : Lay C A) {K : Frag} (H : HdrOK C A K) {l : Hs} (hl : FineHs l) : VCall C (n+3) (.ref A.hdr) [hsD l] (hdrD l) := .mk fun A₁ m s vs R g hr => by
  obtain ⟨v, rfl, hv⟩ : ∃ v, vs = [v] ∧ Rep C (vw s.heap m) v (hsD l) := by
    cases hr using RepL.caseCons with
    | cons a b => cases b using RepL.caseNil; exact ⟨_, rfl, a⟩
  obtain ⟨hp, gn, dr, tk, os⟩ := s
  have X := H.isIn g
  refine wpAny_call (make_core (makes_of X H.makes) (looks_findIn X H.init) (fun self => bind_fn X self (beq_iff_eq.mp (H.fns _ (by simp)).1)) (.inl rfl) ?_)
  generalize hx : hp.objs.size + 1 = x
  generalize hdx : hp.objs.size = dx at *
  generalize hs2 : (⟨(hp.push emptyDict).push (instObj A.hdr dx), gn, dr, tk, os⟩ : Shared) = s₂
  have k2 : ∀ b o, hp.get? b = some o → s₂.heap.get? b = some o := fun b o e => by rw [← hs2]; exact Heap.get?_push_of_some _ (Heap.get?_push_of_some _ e)
  have st₂ : Stp C ⟨hp, gn, dr, tk, os⟩ s₂ := by rw [← hs2]; exact Stp.all (s := ⟨hp, gn, dr, tk, os⟩) (tk := tk) fun b o e => Heap.get?_push_of_some _ (Heap.get?_push_of_some _ e)
  have ox : s₂.heap.get? x = some (instObj A.hdr dx) := by
    rw [← hs2, ← hx]
    have h1 : ((hp.push emptyDict).push (instObj A.hdr dx)).get? (hp.push emptyDict).objs.size = some (instObj A.hdr dx) := Heap.get?_push_size _ rfl
    rw [Heap.size_push, hdx] at h1
    exact h1
  have od : s₂.heap.get? dx = some emptyDict := by
    rw [← hs2, ← hdx]; exact Heap.get?_push_of_some _ (Heap.get?_push_size _ rfl)
  have nx : hp.get? x = none := new_none' ⟨hp, gn, dr, tk, os⟩ (by show hp.objs.size ≤ x; lia)
  have nd : hp.get? dx = none := new_none' ⟨hp, gn, dr, tk, os⟩ (by show hp.objs.size ≤ dx; lia)
  have hne : x ≠ dx := by intro e; have : x = dx + 1 := by rw [← hx]
                          exact absurd (e.symm.trans this) (Nat.ne_of_lt (Nat.lt_succ_self _))
  have mx : ¬ m x := g.fresh' nx
  have md : ¬ m dx := g.fresh' nd
  have g₂ : GS C m s₂ := g.step st₂
  let m' : Addr → Prop := fun a => m a ∨ a = x ∨ a = dx
  have g' : GS C m' s₂ := { g₂ with
    udom := fun a h => by
      rcases h with h | rfl | rfl
      · exact g₂.udom a h
      · exact ⟨_, ox⟩
      · exact ⟨_, od⟩
    ub := .inl g₂.ub
    uh := .inl g₂.uh
    ubase := fun a o hb h => by
      rcases h with h | rfl | rfl
      · exact g₂.ubase a o hb h
      · have := g.base _ _ hb; rw [show (Shared.heap ⟨hp, gn, dr, tk, os⟩) = hp from rfl, nx] at this; cases this
      · have := g.base _ _ hb; rw [show (Shared.heap ⟨hp, gn, dr, tk, os⟩) = hp from rfl, nd] at this; cases this }
  have hv' : Rep C (vw s₂.heap m') v (hsD l) := hv.mono fun b o ⟨q1, q2⟩ => ⟨k2 b o q1, by
    rintro (h | rfl | rfl)
    · exact q2 h
    · rw [show (Shared.heap ⟨hp, gn, dr, tk, os⟩) = hp from rfl, nx] at q1; cases q1
    · rw [show (Shared.heap ⟨hp, gn, dr, tk, os⟩) = hp from rfl, nd] at q1; cases q1⟩
  obtain ⟨fd, I, hsc, hb⟩ := H.dInit
  have R' := R.make A.hdr [v] []
  obtain ⟨o, ho, hd⟩ := I.obj
  have hkd : ((["self", "headers"] : List Str).zip [.ref x, v]).map (·.1) = (["self", "headers"] : List Str) := rfl
  have hxs : ∀ y ∈ (["self", "headers"] : List Str), fd.scope.names.lookup y = some .local ∨ fd.scope.names.lookup y = some .cell := by rw [hsc]; decide
  have hbind := hb m' s₂ g' [.ref x, v] [] rfl rfl
  refine codeAny_call_cellsB (o := o) (fd := fd) (binds := (["self", "headers"] : List Str).zip [.ref x, v]) R'.depth (g'.base _ _ ho) hd g'.lim ?_ I.body hbind I.clo ?_ (fun s₃ xc => ?_) I.cor I.gen I.kind
  · exact I.codeAt g'
  · intro p hp
    have hpx : p.1 ∈ (["self", "headers"] : List Str) := by rw [← hkd]; exact List.mem_map_of_mem hp
    rcases hxs p.1 hpx with h | h
    · exact .inl h
    · exact .inr ⟨h, cellsFrom_some fd.scope.names (s₂.heap.objs.size + 1) [] p.1 (.inl (mem_of_lookup h))⟩
  have F := entry I.toFnHd (xs := ["self", "headers"]) (ds := [.raw (.ref x), hsD l]) (vs := [.ref x, v]) (by decide) hxs rfl g' (.cons (.raw _) (.cons hv' .nil)) xc
  have R₁ := R'.deeper (callEnvC fd s₂.heap.objs.size A.hInit)
  have hcs : ∀ y c, (callEnvC fd s₂.heap.objs.size A.hInit).cells.lookup y = some c → c ≠ dx := fun y c hc e => by
    have h1 : s₂.heap.objs.size < c := xc.above y c (mem_of_lookup hc)
    exact absurd (e ▸ h1 : s₂.heap.objs.size < dx) (Nat.not_lt.mpr (Nat.le_of_lt (Heap.lt_size od)))
  generalize A₁.under _ = A₂ at R' R₁ ⊢
  generalize callEnvC fd s₂.heap.objs.size A.hInit = env at F R₁ hcs ⊢
  generalize A₂.deeper env = A₃ at R₁ ⊢
  rw [hsc] at F
  obtain ⟨t1, t2, t3, t4, hbody⟩ := stmts_init
  have i1 := init1 (C := C) (n := n+1) (sf := .raw (.ref x)) (l := l)
  have i2 := init2 (n := n+1) L (sf := .raw (.ref x)) (l := l)
  have i3 := stmt3
  have i4 := init4 (n := n) L H (sf := .raw (.ref x)) hl
  rw [hbody] at i1 i2 i3 i4 ⊢
  simp only [List.getD_cons_zero, List.getD_cons_succ] at i1 i2 i3 i4
  subst i3
  refine wpAny_execs_cons (wpAny_mono (i1.run _ _ _ _ _ _ R₁ F) (fun f s₄ q => ?_) fun _ _ h => h.elim)
  obtain ⟨rfl, ad₁, F₁⟩ := q
  refine wpAny_execs_cons (wpAny_mono (i2.run _ _ _ _ _ _ R₁ F₁) (fun f s₅ q => ?_) fun _ _ h => h.elim)
  obtain ⟨rfl, ad₂, F₂⟩ := q
  have ox5 : s₅.heap.get? x = some (instObj A.hdr dx) := F₂.pr x _ ⟨ox, fun e => mx (e ▸ g.ub), fun e => mx (e ▸ g.uh)⟩
  have od5 : s₅.heap.get? dx = some emptyDict := F₂.pr dx _ ⟨od, fun e => md (e ▸ g.ub), fun e => md (e ▸ g.uh)⟩
  have nf : ∀ ad a, Foot (mSc 0) env ad a → FSa C (mSc 0) env (entryP C s₂.heap) m' (gInit (.raw (.ref x)) l) ad s₅ → s₂.heap.get? a = none := fun ad a ha F => by
    cases e : s₂.heap.get? a with
    | none => rfl
    | some o => exact absurd ⟨e, F.footNe ha⟩ ((F.foot a ha).1 o)
  refine wpAny_execs_cons (plainObj_wpAny_Assign_Attribute (wpAny_mono ((Ev.name (C := C) (n := n) (d := hsD l) (by rfl)).run _ _ _ _ _ _ (R₁.le (by lia)) F₂) (fun w s₆ q => ?_) fun _ _ h => h.elim) rfl)
  obtain ⟨st₆, hw⟩ := q
  have F₃ := F₂.step st₆
  refine wpAny_mono ((Ev.name (C := C) (n := n) (d := .raw (.ref x)) (by rfl)).run _ _ _ _ _ _ (R₁.le (by lia)) F₃) (fun w' s₇ q => ?_) fun _ _ h => h.elim
  obtain ⟨st₇, hw'⟩ := q
  cases hw' using Rep.caseRaw
  have F₄ := F₃.step st₇
  have hw := hw.mono (F₃.pt.up st₇)
  have nb : x ≠ builtinsNs ∧ x ≠ C.hole := ⟨fun e => mx (e ▸ g.ub), fun e => mx (e ▸ g.uh)⟩
  have nb' : dx ≠ builtinsNs ∧ dx ≠ C.hole := ⟨fun e => md (e ▸ g.ub), fun e => md (e ▸ g.uh)⟩
  have ox7 := st₇.keep _ _ nb.1 nb.2 (st₆.keep _ _ nb.1 nb.2 ox5)
  have od7 := st₇.keep _ _ nb'.1 nb'.2 (st₆.keep _ _ nb'.1 nb'.2 od5)
  have dG : dx ≠ mainGlobals := by
    rintro rfl
    obtain ⟨o, _, _, q, _⟩ := g.mg
    rw [show (Shared.heap ⟨hp, gn, dr, tk, os⟩) = hp from rfl, nd] at q; cases q
  refine wpAny_mono (setField H F₄.gs ox7 od7 nb'.1 dG fun h' hsh tk' k tks hd' hka => (?_ : wpAny _ _ _ _ _ _)) (fun _ _ h => h) fun _ _ h => h.elim
  have hk' : ∀ a o, a ≠ dx → a ≠ builtinsNs → s₇.heap.get? a = some o → h'.get? a = some o := fun a o h _ e => hka a o h e
  have hns' : h'.Ns builtinsNs C.mb := F₄.gs.mb.at' fun o e => hka _ o (Ne.symm nb'.1) e
  have e7 : ({ s₇ with heap := h', toks := tks } : Shared).heap = h' := rfl
  have F₅ : FSa C (mSc 0) env (fun _ _ => False) m (gInit (.raw (.ref x)) l) ad₂ { s₇ with heap := h', toks := tks } := by
    refine F₄.moved1 (fun a h => .inl h) g.ub g.uh (.inr (.inr rfl)) nb'.1 nb'.2 md hk' (fun o e => hka _ o (Ne.symm nb'.1) e) hns' ⟨_, od7, fun vs e => by cases e⟩ ?_ ?_ ?_
    · intro y c hc e
      exact hcs y c hc e
    · rintro rfl
      obtain ⟨o, _, _, q, _⟩ := g.mg
      rw [show (Shared.heap ⟨hp, gn, dr, tk, os⟩) = hp from rfl, nd] at q; cases q
    · rintro rfl
      obtain ⟨_, ⟨o, _, _, q, _⟩, _⟩ := g.lim
      rw [show (Shared.heap ⟨hp, gn, dr, tk, os⟩) = hp from rfl, nd] at q; cases q
  have ox8 : h'.get? x = some (instObj A.hdr dx) := hk' x _ hne nb.1 ox7
  have nfx : ¬ Foot (mSc 0) env ad₂ x := fun h => by have := nf _ _ h F₂; rw [ox] at this; cases this
  have nfd : ¬ Foot (mSc 0) env ad₂ dx := fun h => by have := nf _ _ h F₂; rw [od] at this; cases this
  have hw8 : Rep C (vw h' (mu m (mSc 0) env ad₂)) w (hsD l) := hw.mono fun b o ⟨q1, q2⟩ => ⟨hk' b o (fun e => q2 (.inl (.inr (.inr e)))) (fun e => q2 (.inl (.inl (e ▸ g.ub)))) q1, fun q => q2 (q.imp .inl id)⟩
  have hself : Rep C (vw h' (mu m (mSc 0) env ad₂)) (.ref x) (hdrD l) := .hdr ⟨ox8, fun q => q.elim mx nfx⟩ H.mg ⟨hd', fun q => q.elim md nfd⟩ hw8
  have F₆ := (F₅.reslot (x := "self") (d := .raw (.ref x)) (d' := hdrD l) (by rfl) fun v r => by cases r; exact hself).reguard
  have nf8 : ∀ a o, hp.get? a = some o → ¬ Foot (mSc 0) env ad₂ a := fun a o e h => by have := nf _ _ h F₂; rw [k2 a o e] at this; cases this
  refine wpAny_execs_cons (wpAny_mono (i4.run _ _ _ _ _ _ R₁ F₆) (fun f s₉ q => ?_) fun _ _ h => h.elim)
  obtain ⟨rfl, ad₃, F₇⟩ := q
  refine wpAny_execs_nil ⟨rfl, ?_⟩
  have old : ∀ a o, a ≠ builtinsNs → a ≠ C.hole → hp.get? a = some o → s₉.heap.get? a = some o := fun a o h1 h2 e =>
    F₇.pr a o ⟨hk' a o (fun q => by rw [q, nd] at e; cases e) h1 (st₇.keep _ _ h1 h2 (st₆.keep _ _ h1 h2 (F₂.pr a o ⟨k2 a o e, h1, h2⟩))), nf8 a o e, h1, h2⟩
  refine ⟨Stp.ofGS g F₇.gs old, ?_⟩
  refine hself.mono fun b o ⟨q1, q2⟩ => ⟨F₇.pr b o ⟨q1, fun hf => q2 (.inr hf), fun e => q2 (.inl (e ▸ g.ub)), fun e => q2 (.inl (e ▸ g.uh))⟩, fun hm => q2 (.inl hm)⟩
end Mine
end
-- Lam
section
open PySem PySem.W PyProof.Rows
set_option Elab.async false
set_option linter.all false
set_option maxRecDepth 100000
namespace Mine
variable {C : Cx} {n : Nat} {sc : Scope} {Γ Γ' Γ'' : Gam} {env : Env} {Pr : Addr → Obj → Prop} {U m : Addr → Prop} {ad : Str → Option Addr} {s s' s₁ : Shared} {A : Ads}


theorem Rep.cx {C C2 : Cx} {V : View} (e1 : C2.prog = C.prog) (e2 : C2.w = C.w) (e3 : C2.mg = C.mg) {v d} (r : Rep C V v d) : Rep C2 V v d :=
  Rep.rec (motive_1 := fun v d _ => Rep C2 V v d) (motive_2 := fun vs ds _ => RepL C2 V vs ds) .none .bool .int .str (fun a b c _ e x => .tup a b c x e) (fun a b c _ e x => .list a b c x e)
    (fun a b c _ e x => .dictS a (by rw [e1, e2]; exact b) c x e) (fun a b c _ e x => .dictI a (by rw [e1, e2]; exact b) c x e) (fun a b c _ e x => .dictT a (by unfold tupDict tkHash at *; rw [e2]; exact b) c x e) (fun a b c _ x => .hdr a (by rw [e3]; exact b) c x) .raw .nil (fun _ _ x y => .cons x y) r

/-- what is left behind a lambda -/
noncomputable def LamMade (C : Cx) (params : Arguments) (body : Expr) (scope : Scope) (pos : Pos) (s : Shared) (v : Value) (s' : Shared) : Prop :=
  ∃ f c' oc vs t ctv pm, v = .ref f ∧ Stp C s s' ∧ s'.heap.get? f = some (kla_obj "<lambda>" lamQual params body scope [] pm c' ctv) ∧ s'.heap.get? c' = some oc ∧ isCode oc ∧ oc.data = .fields vs ∧ vs[1]? = some (.str lamQual t) ∧
    s'.heap.get? C.hole = some (tabObj #[rawInt pos.line, rawInt pos.col, .ref c'])

theorem lam_tail {M : Model} {A : Around} {E : Value → Shared → Prop} {name qual : Str} {params : Arguments} {body : Expr} {scope : Scope} {env : Env} {c P : Addr} {pos : Pos} {firstLine : Nat} {mg : Str → Option Value} {Q : Value → Shared → Prop}
    (hcl : closureFor scope env = pure []) (hge0 : env.globals = mainGlobals) (hg : s.heap.Ns mainGlobals mg) (hcode : env.code = .ref c) (C : CodeHd s.heap c P) (hP : s.heap.get? P = some (tabObj #[])) (hgP : mainGlobals ≠ P) (hb : s.heap.BuiltinsAt mg P)
    (h : ∀ c' oc vs t h' tk, Heap.ExtBut P s.heap h' → s.heap.objs.size ≤ c' → h'.get? c' = some oc → isCode oc → oc.data = .fields vs → vs[1]? = some (.str qual t) → h'.get? P = some (tabObj #[rawInt pos.line, rawInt pos.col, .ref c']) →
      Q (.ref h'.objs.size) { s with heap := h'.push (kla_obj name qual params body scope [] ((mg "__name__").getD .none) c' .none), toks := tk }) :
    wpAny M A (makeFunction name qual params (.expr body) scope env [] [] [] pos firstLine) Q E s := by
  rw [makeFunction_eq]
  simp only [List.zip_nil_right, List.filterMap_nil, List.isEmpty_nil, if_true, pure_bind]
  obtain ⟨bm, ob, hbm, hne0, _, hneP, hbo, hcls, hdict, hdata⟩ := hb
  unfold makeTail
  rw [hcl, hge0]
  refine wpAny_bind (wpAny_pure ?_)
  simp only [List.isEmpty_nil, if_true]
  refine wpAny_bind (wpAny_pure ?_)
  refine wpAny_bind (wpAny_functionCodeX hcode (C.code hP trivial) (C.tab hP) rfl fun c' h' tk hx hge hlt _ hrec htb hnew => ?_)
  have hg' := hg.extBut hx hgP
  refine wpAny_bind (wpAny_builtinsFor hg' hbm hne0 (hx _ _ hneP hbo) hcls hdict hdata ?_)
  refine wpAny_bind (wpAny_nsGet hg' ?_)
  obtain ⟨c₂, oc, vs, t, e2, hoc, hd, hv⟩ := hrec
  cases e2
  obtain ⟨P', _, _, ⟨o₃, vs₃, e3, k3, d3, _⟩, _⟩ := hnew
  rw [hoc] at e3; cases e3
  exact wpAny_bind (wpAny_pure (wpAny_newObj_type (h c' oc vs t h' tk hx hge hoc ⟨k3, vs, hd⟩ hd hv (by simpa using htb.2)) (by size_fits)))
theorem lam_hit {M : Model} {A : Around} {E : Value → Shared → Prop} {name qual : Str} {params : Arguments} {body : Expr} {scope : Scope} {env : Env} {c P c' : Addr} {pos : Pos} {firstLine : Nat} {mg : Str → Option Value} {Q : Value → Shared → Prop}
    (hcl : closureFor scope env = pure []) (hge0 : env.globals = mainGlobals) (hg : s.heap.Ns mainGlobals mg) (hcode : env.code = .ref c) (C : CodeHd s.heap c P) (hP : s.heap.get? P = some (tabObj #[rawInt pos.line, rawInt pos.col, .ref c'])) (hb : s.heap.BuiltinsAt mg P)
    (h : Q (.ref s.heap.objs.size) { s with heap := s.heap.push (kla_obj name qual params body scope [] ((mg "__name__").getD .none) c' .none) }) :
    wpAny M A (makeFunction name qual params (.expr body) scope env [] [] [] pos firstLine) Q E s := by
  rw [makeFunction_eq]
  simp only [List.zip_nil_right, List.filterMap_nil, List.isEmpty_nil, if_true, pure_bind]
  obtain ⟨bm, ob, hbm, hne0, _, hneP, hbo, hcls, hdict, hdata⟩ := hb
  unfold makeTail
  rw [hcl, hge0]
  refine wpAny_bind (wpAny_pure ?_)
  simp only [List.isEmpty_nil, if_true]
  refine wpAny_bind (wpAny_pure ?_)
  refine wpAny_bind (wpAny_functionCode_hit hcode (C.code hP (by exact trivial)) (c' := .ref c') (by simp [codeAmong, rawInt]) ?_)
  refine wpAny_bind (wpAny_builtinsFor hg hbm hne0 hbo hcls hdict hdata ?_)
  refine wpAny_bind (wpAny_nsGet hg ?_)
  exact wpAny_bind (wpAny_pure (wpAny_newObj_type h (by size_fits)))

theorem lam_eval (L : Lay C A) (g : GS C m s) {A₁ : Around} {params : Arguments} {body : Expr} {scope : Scope} {env : Env} {c : Addr} (hcode : env.code = .ref c) {bo : Obj} (hT : ∀ h, C.tab h ↔ (tabSpec C.hole c h ∧ h.get? builtinsNs = some bo)) (hge0 : env.globals = mainGlobals)
    (hq : env.qual ++ "<lambda>" = lamQual) (hcl : closureFor scope env = pure []) (hdef : defaultsOf params env = ([], [])) :
    wpAny (model C.prog C.w) A₁ (eval (.Lambda params body scope lamOf.2.2.2) env) (LamMade C params body scope lamOf.2.2.2 s) noE s := by
  have hb : s.heap.BuiltinsAt C.mg C.hole := by
    obtain ⟨bm, ob, h1, h2, h3, h4, h5, h6⟩ := L.bmod
    exact ⟨bm, ob, h1, fun e => g.ubase _ _ h2 (e ▸ g.ub), h6, fun e => g.ubase _ _ h2 (e ▸ g.uh), g.base _ _ h2, h3, h4, h5⟩
  refine kla_eval hdef ?_
  rw [hq]
  have ht := (hT _).mp g.tab
  obtain ⟨⟨hc, hP⟩, hbo⟩ := ht
  rcases hP with hP | ⟨c', oc, vs, t, hP, hoc, hic, hd, hv⟩
  · refine lam_tail hcl hge0 g.mg hcode hc hP (Ne.symm C.hG) hb fun c' oc vs t h' tk hx hge hoc hic hd hv htb => ?_
    have hk : ∀ b o, b ≠ C.hole → s.heap.get? b = some o → (h'.push (kla_obj "<lambda>" lamQual params body scope [] ((C.mg "__name__").getD .none) c' .none)).get? b = some o := fun b o h1 e => Heap.get?_push_of_some _ (hx b o h1 e)
    refine ⟨_, c', oc, vs, t, _, _, rfl, ⟨fun b o _ h2 e => hk b o h2 e, fun mm hm => hm.at' fun o e => hk _ o (Ne.symm C.hB) e, fun _ => (hT _).mpr ⟨⟨?_, .inr ⟨c', oc, vs, t, Heap.get?_push_of_some _ htb, Heap.get?_push_of_some _ hoc, hic, hd, hv⟩⟩, hk _ _ (Ne.symm C.hB) hbo⟩, rfl, rfl⟩,
      Heap.get?_push_size _ rfl, Heap.get?_push_of_some _ hoc, hic, hd, hv, Heap.get?_push_of_some _ htb⟩
    obtain ⟨o, vs, file, tf, flags, tg, inF, text, tt, e1, e2, e3, e4, e5, e6, e7, e8, e9, e10⟩ := hc
    exact ⟨o, vs, file, tf, flags, tg, inF, text, tt, hk _ _ e10 e1, e2, e3, e4, e5, e6, e7, e8, e9, e10⟩
  · refine lam_hit hcl hge0 g.mg hcode hc hP hb ?_
    exact ⟨_, c', oc, vs, t, _, _, rfl, Stp.all (tk := s.toks) fun b o e => Heap.get?_push_of_some _ e, Heap.get?_push_size _ rfl, Heap.get?_push_of_some _ hoc, hic, hd, hv, Heap.get?_push_of_some _ hP⟩

/-- a def whose body is an expression -/
theorem VCall.fnE {fa : Addr} {fd : FuncData} {body : Expr} {o : Obj} (I : FnHd fd) (ho : C.base fa o) (hd : o.data = .func fd) (hbody : fd.body = .expr body) (hcode : ∃ c oc vs t, fd.code = .ref c ∧ C.base c oc ∧ oc.data = .fields vs ∧ vs[1]? = some (.str fd.qualname t))
    {xs : List Str} {ds : List D} {d : D} (hx : Ev C n fd.scope (params xs ds) body d)
    (hbind : ∀ vs : List Value, xs.length = vs.length → bindArgs fd ⟨vs, []⟩ = pure (xs.zip vs)) (hn : xs.Nodup)
    (hxs : ∀ x ∈ xs, fd.scope.names.lookup x = some .local ∨ fd.scope.names.lookup x = some .cell) (hlen : xs.length = ds.length) : VCall C (n+1) (.ref fa) ds d := .mk fun A m s vs R g hr => by
  have hl : xs.length = vs.length := by rw [hr.length, hlen]
  have hkd : (xs.zip vs).map (·.1) = xs := by rw [List.map_fst_zip]; lia
  refine wpAny_call (kla_callFunE R.depth (g.base _ _ ho) hd I.cor I.gen hbody ?_ ?_)
  · obtain ⟨c, oc, ws, t, e, hb, hdc, hv⟩ := hcode
    exact ⟨c, oc, ws, t, e, g.base _ _ hb, hdc, hv⟩
  · rw [hbind vs hl]
    refine wpAny_pure ?_
    rw [I.clo]
    refine wpAny_newFunctionEnv_cells I.kind ?_ fun env he s₁ x => ?_
    · intro p hp
      have hpx : p.1 ∈ xs := by rw [← hkd]; exact List.mem_map_of_mem hp
      rcases hxs p.1 hpx with h | h
      · exact .inl h
      · exact .inr ⟨h, cellsFrom_some fd.scope.names (s.heap.objs.size + 1) [] p.1 (.inl (mem_of_lookup h))⟩
    · have he' : env = callEnvC fd s.heap.objs.size fa := he
      subst he'
      have F := entry I hn hxs hl g hr x
      refine ⟨F.gs.lim, kla_codeExpr (wpAny_mono (hx.run _ _ _ _ _ _ (R.deeper _) F) (fun v s' q => ?_) fun _ _ h => h.elim)⟩
      obtain ⟨st, rv⟩ := q
      have F' := F.step st
      exact ⟨Stp.ofGS g F'.gs fun a o h1 h2 e => F'.pr a o ⟨e, h1, h2⟩, rv.mono (vw_anti fun _ h => .inl h)⟩
end Mine
end
-- Sort1
section
open PySem PySem.W PyProof.Rows
set_option Elab.async false
set_option linter.all false
set_option maxRecDepth 100000
namespace Mine
variable {C : Cx} {n : Nat} {sc : Scope} {Γ Γ' Γ'' : Gam} {env : Env} {Pr : Addr → Obj → Prop} {U m : Addr → Prop} {ad : Str → Option Addr} {s s' s₁ : Shared} {A : Ads}

inductive A2 {α β : Type} (R : α → β → Prop) : List α → List β → Prop
  | nil : A2 R [] []
  | cons {a b l k} : R a b → A2 R l k → A2 R (a :: l) (b :: k)
theorem A2.perm {α β : Type} {R : α → β → Prop} {l1 l2 : List α} (p : l1.Perm l2) : ∀ {k2 : List β}, A2 R l2 k2 → ∃ k1, k1.Perm k2 ∧ A2 R l1 k1 := by
  induction p with
  | nil => intro k2 h; cases h; exact ⟨[], .refl _, .nil⟩
  | cons x _ ih =>
    intro k2 h
    cases h with
    | cons r h => obtain ⟨k1, p1, h1⟩ := ih h; exact ⟨_ :: k1, p1.cons _, .cons r h1⟩
  | swap x y l =>
    intro k2 h
    cases h with
    | cons r h => cases h with
      | cons r' h => exact ⟨_ :: _ :: _, .swap _ _ _, .cons r' (.cons r h)⟩
  | trans _ _ ih1 ih2 =>
    intro k2 h
    obtain ⟨k1, p1, h1⟩ := ih2 h
    obtain ⟨k0, p0, h0⟩ := ih1 h1
    exact ⟨k0, p0.trans p1, h0⟩
theorem A2.repZip {V : View} : ∀ {kz : List Int} {vs : List Value} {ds : List D}, RepL C V vs ds → A2 (fun (p : Int × Value) (q : Int × D) => p.1 = q.1 ∧ Rep C V p.2 q.2) (kz.zip vs) (kz.zip ds)
  | [], _, _, _ => .nil
  | _ :: _, _, _, .nil => .nil
  | k :: kz, _, _, .cons a b => .cons ⟨rfl, a⟩ (A2.repZip b)
theorem A2.repOut {V : View} {ps : List (Int × Value)} {qs : List (Int × D)} (h : A2 (fun (p : Int × Value) (q : Int × D) => p.1 = q.1 ∧ Rep C V p.2 q.2) ps qs) : RepL C V (ps.map (·.2)) (qs.map (·.2)) ∧ ps.map (·.1) = qs.map (·.1) := by
  induction h with
  | nil => exact ⟨.nil, rfl⟩
  | cons r _ ih => exact ⟨.cons r.2 ih.1, by rw [List.map_cons, List.map_cons, r.1, ih.2]⟩

noncomputable def params' (x : Str) (d : D) : Gam := params [x] [d]
/-- sorted by a key: what comes out -/
noncomputable def SortedBy (kz : List Int) (ds ds' : List D) : Prop := ∃ qs : List (Int × D), qs.Perm (kz.zip ds) ∧ ds' = qs.map (·.2) ∧ (qs.map (·.1)).Pairwise (· ≤ ·)

/-- the context in which a lambda is called -/
noncomputable def lamCx (C : Cx) (T : Heap → Prop) (hT : ∀ h h' : Heap, (∀ o, h.get? builtinsNs = some o → h'.get? builtinsNs = some o) → T h → T h') (ho : Obj) (f : Addr) (fo : Obj) (c' : Addr) (oc : Obj) : Cx :=
  { C with tab := fun h => T h ∧ h.get? C.hole = some ho, base := fun a o => C.base a o ∨ (a = f ∧ o = fo) ∨ (a = c' ∧ o = oc),
           tabMono := fun h h' hk x => ⟨hT h h' (fun o e => hk _ _ (.inr (.inr rfl)) e) x.1, hk _ _ (.inr (.inl rfl)) x.2⟩, holeDom := fun h x => ⟨_, x.2⟩ }

theorem sort_key {f c' : Addr} {oc : Obj} {ps : Array Value} {vs0 : Array Value} {t0 : Tok} {params : Arguments} {body : Expr} {scope : Scope} {ctv pm : Value} {A₁ : Around} {lv : Value} {ds : List D} {kz : List Int}
    (g : GS C m s) (R : Room A₁ (n + 3)) (hl : Rep C (vw s.heap m) lv (.list ds)) (h64 : ds.length < 64) (hk : kz.length = ds.length) (hho : s.heap.get? C.hole = some (tabObj ps))
    (hf : s.heap.get? f = some (kla_obj "<lambda>" lamQual params body scope [] pm c' ctv)) (hoc : s.heap.get? c' = some oc) (hic : isCode oc) (hd0 : oc.data = .fields vs0) (hv0 : vs0[1]? = some (.str lamQual t0))
    {L2 : Addr} {mm2 : Str → Option Value} (hL2 : s.heap.Ns L2 mm2) (mL2 : m L2) (bL2 : ∀ o, ¬ C.base L2 o) (nL2 : L2 ≠ mainGlobals ∧ L2 ≠ cStatics ∧ L2 ≠ builtinsNs ∧ L2 ≠ C.hole)
    (hsc : scope.kind = .function ∧ scope.isGenerator = false ∧ scope.isCoroutine = false ∧ (∀ x ∈ scope.names, x.1 ≠ "__classdict__") ∧ (∀ x ∈ scope.names, x.2 ≠ .free))
    {x : Str} (hx : scope.names.lookup x = some .local ∨ scope.names.lookup x = some .cell)
    (hbind : ∀ v : Value, bindArgs (kla_fn "<lambda>" lamQual params body scope [] pm (.ref c') ctv) ⟨[v], []⟩ = pure [(x, v)])
    (hkey : ∀ C2 : Cx, C2.prog = C.prog → C2.w = C.w → C2.mg = C.mg → C2.mb = C.mb → ∀ (i : Nat) (d : D) (k : Int), ds[i]? = some d → kz[i]? = some k → Ev C2 n scope (params' x d) body (.int k)) :
    wpAny (model C.prog C.w) A₁ (call (.builtin "sorted") [lv] [(Str.ofString "key", .ref f)]) (fun v s' => Stp C s s' ∧ ∃ ds', SortedBy kz ds ds' ∧ Rep C (vw s'.heap m) v (.list ds')) noE s := by
  cases hl with
  | @list a o vs kk _ hv hc hd hr hx2 =>
  have hlist : s.heap.IsList a vs.toList.toArray := ⟨o, hv.1, hc, kk, by simpa using hd⟩
  have hvl : vs.toList.length = ds.length := hr.length
  have ch : c' ≠ C.hole := by
    rintro rfl; rw [hoc] at hho; cases hho; have := hic.1; cases this
  have fh : f ≠ C.hole := by
    rintro rfl; rw [hf] at hho; cases hho
  have fN : ∀ {L : Addr} {mm : Str → Option Value}, s.heap.Ns L mm → f ≠ L := by
    rintro L mm h rfl; obtain ⟨o', es, ep, e, hd', _⟩ := h; rw [hf] at e; cases e; cases hd'
  have cN : ∀ {L : Addr} {mm : Str → Option Value}, s.heap.Ns L mm → c' ≠ L := by
    rintro L mm h rfl; obtain ⟨o', es, ep, e, hd', _⟩ := h; rw [hoc] at e; cases e; rw [hd0] at hd'; cases hd'
  have fb := fN g.mb
  have cb := cN g.mb
  have run : ∀ (T : Heap → Prop) (hT : ∀ h h' : Heap, (∀ o, h.get? builtinsNs = some o → h'.get? builtinsNs = some o) → T h → T h') (L : Addr) (mm : Str → Option Value) (news : List (Addr × Obj)), s.heap.Ns L mm → m L → (∀ o, ¬ C.base L o) → L ≠ mainGlobals → L ≠ cStatics → L ≠ C.hole →
      (∀ h : Heap, h.Ns L mm → (∀ a o, a ≠ L → s.heap.get? a = some o → h.get? a = some o) → h.Ns builtinsNs C.mb ∧ T h) →
      (∀ sa sb : Shared, T sa.heap → T sb.heap → (∀ a o, a ≠ builtinsNs → a ≠ C.hole → sa.heap.get? a = some o → sb.heap.get? a = some o) → (∀ mm, sa.heap.Ns builtinsNs mm → sb.heap.Ns builtinsNs mm) → (sa.heap.Ns L mm → sb.heap.Ns L mm) ∧ ∀ a o, a ≠ L → a ≠ C.hole → sa.heap.get? a = some o → sb.heap.get? a = some o) →
      Fr {} L s.heap mm → News {} L s.heap news → (∀ a o, a ≠ L → s.heap.get? a = some o → (a, o) ∈ news) →
      wpAny (model C.prog C.w) A₁ (call (.builtin "sorted") [.ref a] [(Str.ofString "key", .ref f)]) (fun v s' => MostL L s s' ∧ (Stp C s s' → ∃ ds', SortedBy kz ds ds' ∧ Rep C (vw s'.heap m) v (.list ds'))) noE s := by
    intro T hT L mm news hL mL bL hLg hLs hLh hTm hZ F N hall
    let C2 : Cx := lamCx C T hT (tabObj ps) f (kla_obj "<lambda>" lamQual params body scope [] pm c' ctv) c' oc
    let m2 : Addr → Prop := fun a => m a ∧ a ≠ f ∧ a ≠ c'
    have lam : ∀ (i : Nat) (d : D) (k : Int), ds[i]? = some d → kz[i]? = some k → VCall C2 (n+1) (.ref f) [d] (.int k) := fun i d k h1 h2 => by
      refine VCall.fnE (C := C2) (o := kla_obj "<lambda>" lamQual params body scope [] pm c' ctv) (xs := [x]) (fd := kla_fn "<lambda>" lamQual params body scope [] pm (.ref c') ctv) ⟨rfl, rfl, rfl, hsc.1, hsc.2.1, hsc.2.2.1, hsc.2.2.2.1, hsc.2.2.2.2⟩ (show C2.base _ _ from Or.inr (Or.inl ⟨rfl, rfl⟩)) rfl rfl ⟨c', oc, vs0, t0, rfl, (show C2.base _ _ from Or.inr (Or.inr ⟨rfl, rfl⟩)), hd0, hv0⟩ (hkey C2 rfl rfl rfl rfl i d k h1 h2) ?_ (by simp) ?_ rfl
      · intro vs hvs
        obtain ⟨v, rfl⟩ := List.length_eq_one_iff.mp (hvs.symm : vs.length = 1)
        exact hbind v
      · intro y hy
        simp only [List.mem_singleton] at hy
        subst hy; exact hx
    refine ksk_sorted (kz := kz) F N hlist (b := false) (by lia) (by lia) (ksk_s1 _ _) (fun _ => ksk_l1 _ _) (fun x => ksk_t1 f x) (fun i v k h1 h2 h tk own F' N' => ?_) (fun Da h' tk out c F' N' hlt ho => ?_)
    · have kp : ∀ a o, a ≠ L → s.heap.get? a = some o → h.get? a = some o := fun a o h1 e => (N' _ (List.mem_append_left _ (hall a o h1 e))).1
      obtain ⟨hmb, hTh⟩ := hTm h F'.ns kp
      have g3 : GS C2 m2 { s with heap := h, toks := tk } :=
        { mg := g.mg.at' fun o e => kp _ o (Ne.symm hLg) e, mb := hmb
          lim := by
            obtain ⟨mc, h, q⟩ := g.lim
            exact ⟨mc, h.at' fun o e => kp _ o (Ne.symm hLs) e, q⟩
          gens := g.gens, os := g.os, tab := ⟨hTh, kp _ _ (Ne.symm hLh) hho⟩
          udom := fun a h => by
            by_cases haL : a = L
            · subst haL; obtain ⟨o, _, _, e, _⟩ := F'.ns; exact ⟨o, e⟩
            · obtain ⟨o, e⟩ := g.udom a h.1; exact ⟨o, kp a o haL e⟩
          ub := ⟨g.ub, Ne.symm fb, Ne.symm cb⟩, uh := ⟨g.uh, Ne.symm fh, Ne.symm ch⟩
          base := fun a o h => by
            rcases h with h | ⟨rfl, rfl⟩ | ⟨rfl, rfl⟩
            · exact kp a o (fun e => bL o (e ▸ h)) (g.base a o h)
            · exact kp _ _ (fN hL) hf
            · exact kp _ _ (cN hL) hoc
          ubase := fun a o h hm => by
            rcases h with h | ⟨rfl, rfl⟩ | ⟨rfl, rfl⟩
            · exact g.ubase a o h hm.1
            · exact hm.2.1 rfl
            · exact hm.2.2 rfl }
      obtain ⟨d, hd1, hrd⟩ := hr.get' h1
      have hrd2 : Rep C2 (vw h m2) v d := Rep.mono (fun a o ⟨q1, q2⟩ => ⟨kp a o (fun e => q2 (e ▸ mL)) q1, fun q => q2 q.1⟩) (Rep.cx (C := C) (C2 := C2) rfl rfl rfl hrd)
      refine wpAny_mono ((lam i d k hd1 h2).run A₁.in1.in1 m2 _ [v] ((R.in1).in1.le (by lia)) g3 (.cons hrd2 .nil)) (fun v' s'' q => ?_) fun _ _ h => h.elim
      obtain ⟨st2, rv⟩ := q
      cases rv using Rep.caseInt with
      | int t' =>
      obtain ⟨h2', gn2, dr2, tk2, os2⟩ := s''
      have eg : gn2 = s.gens := st2.gens
      have eo : (os2, dr2) = (s.os, s.drawn) := st2.os
      obtain ⟨rfl, rfl⟩ := Prod.mk.inj eo
      subst eg
      have tab2 := st2.tab g3.tab
      obtain ⟨z1, z2⟩ := hZ { s with heap := h, toks := tk } { s with heap := h2', toks := tk2 } hTh tab2.1 st2.keep st2.bns
      refine ⟨h2', tk2, t', rfl, rfl, ⟨z1 F'.ns, fun b o e => by simp [Heap.get?] at e, Nat.zero_le _⟩, fun p hp => ?_⟩
      have np := N' p hp
      refine ⟨?_, np.2⟩
      by_cases hph : p.1 = C.hole
      · have e1 : h.get? C.hole = some (tabObj ps) := g3.tab.2
        have e2 : h2'.get? C.hole = some (tabObj ps) := tab2.2
        have := np.1
        rw [hph, e1] at this
        rw [hph, e2]; exact this
      · exact z2 _ _ np.2.1 hph np.1
    · refine ⟨.of (tk := tk) hall fun p hp => N' p (List.mem_cons_of_mem _ hp), fun st => ?_⟩
      have nD := N' (Da, seqObj "list" out c) (List.Mem.head _)
      have fresh : s.heap.get? Da = none := by
        cases e : s.heap.get? Da with
        | none => rfl
        | some o => exact absurd (hlt _ (hall Da o nD.2.1 e)) (Nat.lt_irrefl _)
      obtain ⟨qs0, p1, e1, hs⟩ := ho
      obtain ⟨qs, p2, h2⟩ := A2.perm p1 (A2.repZip hr)
      obtain ⟨r1, r2⟩ := h2.repOut
      refine ⟨qs.map (·.2), ⟨qs, p2, rfl, ?_⟩, .list ⟨nD.1, g.fresh' fresh⟩ rfl rfl ?_ ⟨rfl, rfl⟩⟩
      · rw [← r2, List.pairwise_map]
        simpa using hs
      · rw [e1]
        exact r1.mono (g.up st)
  obtain ⟨bo, hbo⟩ : ∃ bo, s.heap.get? builtinsNs = some bo := by obtain ⟨o, _, _, e, _⟩ := g.mb; exact ⟨o, e⟩
  obtain ⟨n1, F1, N1, a1⟩ := allNews g.mb
  obtain ⟨n2, F2, N2, a2⟩ := allNews hL2
  have r1 := run (fun _ => True) (fun _ _ _ h => h) builtinsNs _ n1 g.mb g.ub (fun o h => g.ubase _ _ h g.ub) (by decide) (by decide) (Ne.symm C.hB) (fun h hn _ => ⟨hn, trivial⟩)
    (fun sa sb _ _ hk hb => ⟨fun q => hb _ q, hk⟩) F1 N1 a1
  have r2 := run (fun h => h.get? builtinsNs = some bo) (fun _ _ hk h => hk _ h) L2 _ n2 hL2 mL2 bL2 nL2.1 nL2.2.1 nL2.2.2.2 (fun h hn kp => ⟨g.mb.at' fun o e => kp _ o (Ne.symm nL2.2.2.1) e, kp _ _ (Ne.symm nL2.2.2.1) hbo⟩)
    (fun sa sb ta tb hk hb => ⟨fun q => q.at' fun o e => hk _ o nL2.2.2.1 nL2.2.2.2 e, fun a o _ ha e => by
      by_cases hab : a = builtinsNs
      · subst hab; rw [ta] at e; cases e; exact tb
      · exact hk a o hab ha e⟩) F2 N2 a2
  refine wpAny_mono (wpAny_both r1 r2) (fun v s' q => ?_) fun _ _ h => h.1
  have st : Stp C s s' := MostL.two q.1.1 q.2.1 nL2.2.2.1
  exact ⟨st, q.1.2 st⟩
end Mine
end
-- Rel
section
open PySem PySem.W PyProof.Rows
set_option Elab.async false
set_option linter.all false
namespace Mine
variable {C : Cx} {n : Nat} {sc : Scope} {Γ Γ' Γ'' : Gam} {env : Env} {Pr : Addr → Obj → Prop} {U m : Addr → Prop} {ad : Str → Option Addr} {s s' s₁ : Shared}

/-- a call whose result is told by a predicate -/
structure VCallR (C : Cx) (n : Nat) (f : Value) (ds : List D) (P : D → Prop) : Prop where
  run : ∀ A m s vs, Room A n → GS C m s → RepL C (vw s.heap m) vs ds → wpAny (model C.prog C.w) A (call f vs) (fun v s' => Stp C s s' ∧ ∃ d, P d ∧ Rep C (vw s'.heap m) v d) noE s
theorem VCallR.le {n' f ds P} (h : VCallR C n f ds P) (hn : n ≤ n') : VCallR C n' f ds P := .mk fun A m s vs R => h.run A m s vs (R.le hn)
structure EvR (C : Cx) (n : Nat) (sc : Scope) (Γ : Gam) (e : Expr) (P : D → Prop) : Prop where
  run : ∀ env A Pr U ad s, Room A n → FSa C sc env Pr U Γ ad s → wpAny (model C.prog C.w) A (eval e env) (fun v s' => Stp C s s' ∧ ∃ d, P d ∧ Rep C (vw s'.heap (mu U sc env ad)) v d) noE s
structure ExNR (C : Cx) (n : Nat) (sc : Scope) (Γ : Gam) (ss : List Stmt) (Q : Gam → Prop) : Prop where
  run : ∀ env A Pr U ad s, Room A n → FSa C sc env Pr U Γ ad s → wpAny (model C.prog C.w) A (execs ss env) (fun f s' => f = .next ∧ ∃ Γ' ad', Q Γ' ∧ FSa C sc env Pr U Γ' ad' s') noE s
structure Ex1R (C : Cx) (n : Nat) (sc : Scope) (Γ : Gam) (st : Stmt) (Q : Gam → Prop) : Prop where
  run : ∀ env A Pr U ad s, Room A n → FSa C sc env Pr U Γ ad s → wpAny (model C.prog C.w) A (exec st env) (fun f s' => f = .next ∧ ∃ Γ' ad', Q Γ' ∧ FSa C sc env Pr U Γ' ad' s') noE s
structure ExTR (C : Cx) (n : Nat) (sc : Scope) (Γ : Gam) (ss : List Stmt) (P : D → Prop) : Prop where
  run : ∀ env A Pr U ad s, Room A n → FSa C sc env Pr U Γ ad s → wpAny (model C.prog C.w) A (execs ss env) (fun f s' => ∃ d, P d ∧ Ret C Pr U d f s') noE s

theorem Ex1.r {st} (h : Ex1 C n sc Γ st Γ') : Ex1R C n sc Γ st (· = Γ') := .mk fun env A Pr U ad s R F => wpAny_after (h.run env A Pr U ad s R F) fun f s₁ ⟨e, ad', F'⟩ => ⟨e, _, ad', rfl, F'⟩
theorem ExN.r {ss} (h : ExN C n sc Γ ss Γ') : ExNR C n sc Γ ss (· = Γ') := .mk fun env A Pr U ad s R F => wpAny_after (h.run env A Pr U ad s R F) fun f s₁ ⟨e, ad', F'⟩ => ⟨e, _, ad', rfl, F'⟩
theorem ExNR.cons {st ss} {Q Q' : Gam → Prop} (h : Ex1R C n sc Γ st Q) (hs : ∀ Γ', Q Γ' → ExNR C n sc Γ' ss Q') : ExNR C n sc Γ (st :: ss) Q' := .mk fun env A Pr U ad s R F =>
  wpAny_execs_cons (wpAny_after (h.run env A Pr U ad s R F) fun f s₁ ⟨e, Γ', ad', q, F'⟩ => by subst e; exact (hs Γ' q).run env A Pr U ad' s₁ R F')
theorem ExNR.mono {ss} {Q Q' : Gam → Prop} (h : ExNR C n sc Γ ss Q) (hs : ∀ Γ', Q Γ' → ∃ Γ'', Q' Γ'' ∧ ∀ x sl, Γ''.lookup x = some sl → Γ'.lookup x = some sl) : ExNR C n sc Γ ss Q' := .mk fun env A Pr U ad s R F =>
  wpAny_after (h.run env A Pr U ad s R F) fun f s₁ ⟨e, Γ', ad', q, F'⟩ => by
    obtain ⟨Γ'', q', hsub⟩ := hs Γ' q
    obtain ⟨ad'', F''⟩ := F'.sub hsub
    exact ⟨e, Γ'', ad'', q', F''⟩
theorem ExT.consR {st ss d} {Q : Gam → Prop} (h : Ex1R C n sc Γ st Q) (hs : ∀ Γ', Q Γ' → ExT C n sc Γ' ss d) : ExT C n sc Γ (st :: ss) d := .mk fun env A Pr U ad s R F =>
  wpAny_execs_cons (wpAny_after (h.run env A Pr U ad s R F) fun f s₁ ⟨e, Γ', ad', q, F'⟩ => by subst e; exact (hs Γ' q).run env A Pr U ad' s₁ R F')
theorem ExTR.cons {st ss} {P : D → Prop} (h : Ex1 C n sc Γ st Γ') (hs : ExTR C n sc Γ' ss P) : ExTR C n sc Γ (st :: ss) P := .mk fun env A Pr U ad s R F =>
  wpAny_execs_cons (wpAny_after (h.run env A Pr U ad s R F) fun f s₁ ⟨e, ad', F'⟩ => by subst e; exact hs.run env A Pr U ad' s₁ R F')
theorem ExTR.ret {e pos ss} {P : D → Prop} (h : EvR C n sc Γ e P) : ExTR C n sc Γ (.Return (some e) pos :: ss) P := .mk fun env A Pr U ad s R F =>
  wpAny_execs_cons (wpAny_Return_some (wpAny_after (h.run env A Pr U ad s R F) fun v s₁ ⟨st, d, p, r⟩ =>
    ⟨d, p, (F.step st).gs, (F.step st).pr, v, rfl, r.mono (vw_anti fun _ h => .inl h)⟩))
theorem ExTR.retF {e pos ss} {P : D → Prop} (h : EvR C n sc (Γ.map fun p => (p.1, frz p.2)) e P) : ExTR C n sc Γ (.Return (some e) pos :: ss) P := .mk fun env A Pr U ad s R F =>
  (ExTR.ret h).run env A Pr U _ s R F.freeze
theorem Ex1R.assign {x px e pos} {P : D → Prop} (h : EvR C n sc Γ e P) (hx : sc.names.lookup x = some .local ∨ sc.names.lookup x = some .cell := by first | exact Or.inl rfl | exact Or.inr rfl)
    (hs : ∀ env : Env, EnvOK sc env → swapsWith e (some (.Name x px)) pos.line env = pure false := by intro _ _; rfl) : Ex1R C n sc Γ (.Assign [.Name x px] e pos) (fun Γ' => ∃ d, P d ∧ Γ' = (x, .d d) :: Γ) := .mk fun env A Pr U ad s R F =>
  wpAny_Assign_Name (wpAny_after (h.run env A Pr U ad s R F) fun v s₁ ⟨st, d, p, r⟩ => wpAny_mono (store (F.step st) v hx) (fun _ s₂ ⟨X, hS⟩ => ⟨rfl, _, _, ⟨d, p, rfl⟩, (F.step st).stored hS r⟩) fun _ _ h => h) (hs env F.ev)
theorem Ev.r {e d} (h : Ev C n sc Γ e d) : EvR C n sc Γ e (· = d) := .mk fun env A Pr U ad s R F => wpAny_after (h.run env A Pr U ad s R F) fun v s₁ ⟨st, r⟩ => ⟨st, d, rfl, r⟩
theorem EvR.mono {e} {P P' : D → Prop} (h : EvR C n sc Γ e P) (hp : ∀ d, P d → P' d) : EvR C n sc Γ e P' := .mk fun env A Pr U ad s R F => wpAny_after (h.run env A Pr U ad s R F) fun v s₁ ⟨st, d, p, r⟩ => ⟨st, d, hp d p, r⟩

theorem EvR.callF {f e es pos fa o fd ds} {P : D → Prop} (hf : Ev C n sc Γ f (.raw (.ref fa))) (ha : EvL C n sc Γ (e :: es) ds) (hb : C.base fa o) (hd : o.data = .func fd) (h : VCallR C n (.ref fa) ds P)
    (he : ∀ env, eval (.Call f (e :: es) [] pos) env = (do callWith pos (← eval f env) [] (backTo pos (starEach (e :: es) env)) (backToKw pos (keywordEach [] env))) := by intro _; rfl)
    (hs : ∀ env, starEach (e :: es) env = (false, eval e env) :: starEach es env := by intro _; rfl) : EvR C n sc Γ (.Call f (e :: es) [] pos) P := .mk fun env A Pr U ad s R F =>
  Call_ (wpAny_after (hf.run env A Pr U ad s R F) fun fv s₁ ⟨st₁, r₁⟩ => by
    cases r₁ using Rep.caseRaw
    exact callWith_def (o := o) hd (wpAny_after (ha.run env A Pr U ad s₁ pos R (F.step st₁)) fun vs s₂ ⟨st₂, r₂⟩ =>
      ⟨((F.step st₁).step st₂).gs.base _ _ hb, wpAny_after (h.run A _ s₂ vs R ((F.step st₁).step st₂).pt r₂) fun _ _ h' => ⟨(st₁.trans st₂).trans h'.1, h'.2⟩⟩) (hs env)) (he env)
theorem EvR.call {f fpos e es pos fa o fd ds} {P : D → Prop} (hb : C.base fa o) (hd' : o.data = .func fd) (hv : (C.mg f).or (C.mb f) = some (.ref fa)) (ha : EvL C n sc Γ (e :: es) ds) (h : VCallR C n (.ref fa) ds P)
    (hk : sc.names.lookup f = some .globalImplicit := by rfl) (hd : (f == ("__debug__" : Str)) = false := by decide)
    (he : ∀ env, eval (.Call (.Name f fpos) (e :: es) [] pos) env = (do callWith pos (← eval (.Name f fpos) env) [] (backTo pos (starEach (e :: es) env)) (backToKw pos (keywordEach [] env))) := by intro _; rfl)
    (hs : ∀ env, starEach (e :: es) env = (false, eval e env) :: starEach es env := by intro _; rfl) : EvR C n sc Γ (.Call (.Name f fpos) (e :: es) [] pos) P :=
  EvR.callF (Ev.glob hk hv hd) ha hb hd' h he hs

/-- x = f(.., a pop, ..), told by a predicate -/
theorem Ex1R.callP {x px f e es cpos pos fa o fd ds} {P : D → Prop} (hf : Ev C n sc Γ f (.raw (.ref fa))) (ha : EvLP C n sc Γ (e :: es) ds Γ') (hb : C.base fa o) (hd : o.data = .func fd) (h : VCallR C n (.ref fa) ds P)
    (hx : sc.names.lookup x = some .local ∨ sc.names.lookup x = some .cell := by first | exact Or.inl rfl | exact Or.inr rfl)
    (hs : ∀ env, swapsWith (.Call f (e :: es) [] cpos) (some (.Name x px)) pos.line env = pure false := by intro _; rfl)
    (he : ∀ env, eval (.Call f (e :: es) [] cpos) env = (do callWith cpos (← eval f env) [] (backTo cpos (starEach (e :: es) env)) (backToKw cpos (keywordEach [] env))) := by intro _; rfl)
    (hse : ∀ env, starEach (e :: es) env = (false, eval e env) :: starEach es env := by intro _; rfl) :
    Ex1R C n sc Γ (.Assign [.Name x px] (.Call f (e :: es) [] cpos) pos) (fun Γ'' => ∃ d, P d ∧ Γ'' = (x, .d d) :: Γ') := .mk fun env A Pr U ad s R F => by
  refine wpAny_Assign_Name (Call_ (wpAny_after (hf.run env A Pr U ad s R F) fun fv s₁ ⟨st₁, r₁⟩ => ?_) (he env)) (hs env)
  cases r₁ using Rep.caseRaw
  refine callWith_def (o := o) hd (wpAny_after (ha.run env A Pr U ad s₁ cpos R (F.step st₁)) fun vs s₂ ⟨F₂, r₂, _⟩ =>
    ⟨F₂.gs.base _ _ hb, wpAny_after (h.run A _ s₂ vs R F₂.pt r₂) fun v s₃ ⟨st₃, d, p, r₃⟩ => ?_⟩) (hse env)
  exact wpAny_mono (store (F₂.step st₃) v hx) (fun _ s₄ ⟨X, hS⟩ => ⟨rfl, _, _, ⟨d, p, rfl⟩, (F₂.step st₃).stored hS r₃⟩) fun _ _ h => h

/-- the loop behind its iterator, its state told by a predicate -/
theorem for_made {A : Around} {target body H} {ds : List D} {β : Type} {it : Value} {s₂ : Shared} {R' : Result → Shared → Prop} (G : β → Gam) (I : Nat → β → Prop) (Γt : β → D → Gam) (b0 : β)
    (R : Room A n) (F : FSa C sc env Pr U (G b0) ad s) (h₂ : Made C A (mu U sc env ad) H target ds s it s₂) (hI0 : I 0 b0)
    (has : ∀ i b d, ds[i]? = some d → I i b → As C n sc (G b) target H d (Γt b d)) (hbody : ∀ i b d, ds[i]? = some d → I i b → ExNR C n sc (Γt b d) body (fun Γ' => ∃ b', I (i+1) b' ∧ Γ' = G b'))
    (hR : ∀ b ad' s', I ds.length b → FSa C sc env Pr U (G b) ad' s' → R' (.ok .next) s') : codeAny (model C.prog C.w) A (.forLoop target it body [] env) R' s₂ :=
  loop_core False (dr := .none) G I Γt b0 R F h₂ hI0 has (fun i b d hd hb Pr U ad s F => wpAny_after ((hbody i b d hd hb).run env A Pr U ad s R F) fun f s' ⟨e, Γ', ad', ⟨b', h1, h2⟩, F'⟩ => .inl ⟨e, b', ad', h1, h2 ▸ F'⟩) (fun h => h.elim) hR

theorem Ex1R.for {iter target body pos H} {ds : List D} {β : Type} (G : β → Gam) (I : Nat → β → Prop) (Γt : β → D → Gam) (b0 : β) (hsrc : Src C n sc (G b0) iter target H ds) (hI0 : I 0 b0)
    (has : ∀ i b d, ds[i]? = some d → I i b → As C n sc (G b) target H d (Γt b d)) (hbody : ∀ i b d, ds[i]? = some d → I i b → ExNR C n sc (Γt b d) body (fun Γ' => ∃ b', I (i+1) b' ∧ Γ' = G b'))
    (hs : ∀ env x, foldedSetIterable iter env x = pure x := by intro _ _; rfl) : Ex1R C n sc (G b0) (.For target iter body [] pos) (fun Γ' => ∃ b, I ds.length b ∧ Γ' = G b) := .mk fun env A Pr U ad s R F => by
  refine wpAny_For (wpAny_after (hsrc.run env A Pr U ad s R F) fun x s₁ h₁ => wpAny_after h₁ fun it s₂ h₂ => ?_) (hs env)
  exact for_made G I Γt b0 R F h₂ hI0 has hbody fun b ad' s' hb F' => ⟨rfl, _, ad', ⟨b, hb, rfl⟩, F'⟩
end Mine
end
-- Ops2
section
open PySem PySem.W PyProof.Rows
set_option Elab.async false
set_option linter.all false
namespace Mine
variable {C : Cx} {n : Nat} {sc : Scope} {Γ Γ' Γ'' : Gam} {env : Env} {Pr : Addr → Obj → Prop} {U m : Addr → Prop} {ad : Str → Option Addr} {s s' s₁ : Shared}

theorem Tst.and2 {e1 e2 pos} {b1 b2 : Bool} (h1 : Tst C n sc Γ e1 b1) (h2 : b1 = true → Tst C n sc Γ e2 b2) : Tst C n sc Γ (.BoolOp .And [e1, e2] pos) (b1 && b2) := .mk fun env A Pr U ad s R F =>
  isTrue_and (wpAny_after (h1.run env A Pr U ad s R F) fun c s₁ ⟨st, e⟩ => by
    subst e
    cases c with
    | false => exact ⟨st, rfl⟩
    | true => exact isTrue_and (wpAny_after ((h2 rfl).run env A Pr U ad s₁ R (F.step st)) fun c s₂ ⟨st₂, e⟩ => by
        subst e
        cases c with
        | false => exact ⟨st.trans st₂, rfl⟩
        | true => exact isTrue_and_nil ⟨st.trans st₂, rfl⟩))

namespace V
theorem eqNil {ds : List D} : VOp2 C n (compareOp .Eq) (.list ds) (.list []) (.bool ds.isEmpty) := by
  refine .mk ?_; rintro A m s _ _ R p ra rb
  cases ra using Rep.caseList with
  | @list a o vs k hv hc hd hr _ =>
  cases rb using Rep.caseList with
  | @list a' o' vs' k' hv' hc' hd' hr' _ =>
    have h1 : vs.size = ds.length := by rw [← Array.length_toList, hr.length]
    have h2 : vs'.size = 0 := by rw [← Array.length_toList, hr'.length]; rfl
    by_cases h0 : ds = []
    · subst h0
      have hz : vs.size = 0 := h1
      refine PySem.SeqAt.eq_listAt (e := fun _ => true) ⟨o, hv.1, hc, k, hd⟩ ⟨o', hv'.1, hc', k', hd'⟩ (by omega) R.units (fun j h1 h2 => by omega) ?_
      rw [hz]
      exact ⟨Stp.refl _ _, .bool _⟩
    · have : 0 < ds.length := List.length_pos_iff.mpr h0
      refine PySem.SeqAt.eq_list_lengthsAt ⟨o, hv.1, hc, k, hd⟩ ⟨o', hv'.1, hc', k', hd'⟩ (by simp; omega) R.units ?_
      have e : ds.isEmpty = false := by cases ds <;> simp_all
      rw [e]
      exact ⟨Stp.refl _ _, .bool _⟩
theorem eqInts {xs ys : List Int} : VOp2 C n (compareOp .Eq) (.list (xs.map .int)) (.list (ys.map .int)) (.bool (decide (xs = ys))) := by
  refine .mk ?_; rintro A m s _ _ R p ra rb
  cases ra using Rep.caseList with
  | @list a o vs k hv hc hd hr _ =>
  cases rb using Rep.caseList with
  | @list a' o' vs' k' hv' hc' hd' hr' _ =>
    refine ke_eq_ints (xs := vs.toList) (ys := vs'.toList) ⟨o, hv.1, hc, k, by simpa using hd⟩ ⟨o', hv'.1, hc', k', by simpa using hd'⟩ (repInts hr) (repInts hr') ?_ ⟨Stp.refl _ _, .bool _⟩
    have := R.2.2; show A.units + 64 < 9900; omega
theorem addL {xs ys : List D} (h : xs.length + ys.length ≤ 100000) : VOp2 C n (binaryOp .Add) (.list xs) (.list ys) (.list (xs ++ ys)) := by
  refine .mk ?_; rintro A m s _ _ R g ra rb
  cases ra using Rep.caseList with
  | @list a o vs k hv hc hd hr _ =>
  cases rb using Rep.caseList with
  | @list a' o' vs' k' hv' hc' hd' hr' _ =>
    have h1 : vs.size = xs.length := by rw [← Array.length_toList, hr.length]
    have h2 : vs'.size = ys.length := by rw [← Array.length_toList, hr'.length]
    refine wpAny_mono (twice g (P := fun v s' => Stp C s s' → Rep C (vw s'.heap m) v (.list (xs ++ ys))) fun L mm news _ hL F N hall => ?_) (fun v s' q => ⟨q.1, q.2 q.1⟩) fun _ _ h => h
    refine add_arrays F N ⟨o, hv.1, hc, k, hd⟩ ⟨o', hv'.1, hc', k', hd'⟩ (fun h' F' N' => ?_) (by rw [sizeLine_eq]; omega)
    refine ⟨.of (tk := s.toks) hall fun p hp => N' p (List.mem_cons_of_mem _ hp), fun st => ?_⟩
    exact .list ⟨(N' _ (List.Mem.head _)).1, g.fresh⟩ rfl rfl (by simpa using (hr.mono (g.up st)).append (hr'.mono (g.up st))) ⟨rfl, rfl⟩

noncomputable def pairS (p : Str × Str) : D := .tup [.str p.1, .str p.2]
theorem inPairs {q : Str × Str} {l : List (Str × Str)} : VOp2 C n (compareOp .In) (pairS q) (.list (l.map pairS)) (.bool (decide (q ∈ l))) := by
  refine .mk ?_; rintro A m s _ _ R g ra rb
  have two : ∀ {v : Value} {p : Str × Str}, Rep C (vw s.heap m) v (pairS p) → ∃ a t u, v = .ref a ∧ s.heap.IsTuple a #[.str p.1 t, .str p.2 u] := by
    intro v p h
    cases (show Rep C _ v (.tup [.str p.1, .str p.2]) from h) using Rep.caseTup with
    | @tup a o vs k hv hc hd hr _ =>
      obtain ⟨vs⟩ := vs
      cases hr using RepL.caseCons with
      | cons r1 r2 => cases r2 using RepL.caseCons with
        | cons r2 r3 => cases r3 using RepL.caseNil; cases r1 using Rep.caseStr; cases r2 using Rep.caseStr; exact ⟨a, _, _, rfl, o, hv.1, hc, k, hd⟩
  obtain ⟨a, t, u, rfl, ha⟩ := two ra
  cases rb using Rep.caseList with
  | @list b o vs k hv hc hd hr _ =>
    have hu : A.in1.units < cLine := by have := R.2.2; show A.units + 1 < 9900; omega
    have key : ∀ y, y ∈ vs → ∃ p, p ∈ l ∧ Rep C (vw s.heap m) y (pairS p) := by
      intro y hy
      obtain ⟨i, hi, e⟩ := Array.getElem_of_mem hy
      obtain ⟨d, h1, h2⟩ := hr.get' (i := i) (v := y) (by simp [hi, e])
      rw [List.getElem?_map, Option.map_eq_some_iff] at h1
      obtain ⟨p, h3, rfl⟩ := h1
      exact ⟨p, List.mem_of_getElem? h3, h2⟩
    classical
    have same : ∀ {v : Value} {p : Str × Str}, Rep C (vw s.heap m) v (pairS p) → Rep C (vw s.heap m) v (pairS q) → p = q := by
      intro v p h1 h2
      obtain ⟨a1, t1, u1, rfl, x1⟩ := two h1
      obtain ⟨a2, t2, u2, e2, x2⟩ := two h2
      cases e2
      obtain ⟨o1, e1, _, k1, d1⟩ := x1
      obtain ⟨o2, e2, _, k2, d2⟩ := x2
      rw [e1] at e2; cases e2
      rw [d1] at d2
      injection d2 with d2
      simp at d2
      exact Prod.ext d2.1.1 d2.2.1
    refine PySem.SeqAt.in_listAt (fun y => decide (Rep C (vw s.heap m) y (pairS q))) ⟨o, hv.1, hc, k, hd⟩ (fun y hy => ?_) ?_
    · obtain ⟨p, hp, rp⟩ := key y hy
      have rp' := rp
      obtain ⟨b', t', u', rfl, hb⟩ := two rp
      by_cases hab : b' = a
      · subst hab
        rw [decide_eq_true ra]
        exact PySem.SeqAt.EqAt.same _
      · refine PySem.SeqAt.EqAt.of_refs hab ?_
        have := PySem.SeqAt.RcAt.tuples (A := A.in1) (s := s) (e := fun j => if j = 0 then p.1 == q.1 else p.2 == q.2) hb ha hu (fun j h1 h2 => by
          have h1 : j < 2 := h1
          rcases (show j = 0 ∨ j = 1 by omega) with rfl | rfl
          · exact (eqGives_str p.1 q.1 t' t).at _ _
          · exact (eqGives_str p.2 q.2 u' u).at _ _)
        have e : (((List.range (min (#[Value.str p.1 t', Value.str p.2 u'] : Array Value).size (#[Value.str q.1 t, Value.str q.2 u] : Array Value).size)).all fun j => if j = 0 then p.1 == q.1 else p.2 == q.2) && ((#[Value.str p.1 t', Value.str p.2 u'] : Array Value).size == (#[Value.str q.1 t, Value.str q.2 u] : Array Value).size)) = decide (Rep C (vw s.heap m) (.ref b') (pairS q)) := by
          rw [Bool.eq_iff_iff, decide_eq_true_eq]
          constructor
          · intro h
            have h' : p.1 = q.1 ∧ p.2 = q.2 := by simpa [List.range_succ] using h
            have : p = q := Prod.ext h'.1 h'.2
            subst this; exact rp'
          · intro h
            have := same rp' h
            subst this
            simp [List.range_succ]
        rw [e] at this; exact this
    · have e : (vs.any fun y => decide (Rep C (vw s.heap m) y (pairS q))) = decide (q ∈ l) := by
        rw [Bool.eq_iff_iff, decide_eq_true_eq, Array.any_eq_true]
        constructor
        · rintro ⟨i, hi, h⟩
          simp only [decide_eq_true_eq] at h
          obtain ⟨p, hp, rp⟩ := key _ (Array.getElem_mem hi)
          rw [← same rp h]; exact hp
        · intro hq
          obtain ⟨i, hi, e⟩ := List.getElem_of_mem hq
          obtain ⟨y, h1, h2⟩ := hr.get (i := i) (d := pairS q) (by simp [hi, e])
          have hi2 : i < vs.size := by
            have := (List.getElem?_eq_some_iff.mp h1).1
            simpa using this
          refine ⟨i, hi2, ?_⟩
          simp only [decide_eq_true_eq]
          have : vs[i] = y := by
            have := (List.getElem?_eq_some_iff.mp h1).2
            simpa using this
          rw [this]; exact h2
      rw [e]
      exact ⟨Stp.refl _ _, .bool _⟩

noncomputable def numStr (k : Nat) : Str := Str.ofString (toString (k : Int))
theorem strInt {k : Nat} (h : k < 1000000) : VCall C n (.type "str") [.int (k : Int)] (.str (numStr k)) := by
  refine .mk ?_; rintro A m s _ R g rl; obtain ⟨_, rfl, ra⟩ := rl.one
  cases ra using Rep.caseInt
  refine PySem.P.str_of_int ?_ resStr
  have h1 : ((k : Int)).natAbs = k := rfl
  rw [h1]
  by_cases h0 : k = 0
  · subst h0; decide
  · have := (Nat.log2_lt h0 (k := 20)).mpr (Nat.lt_of_lt_of_le h (by decide))
    omega
theorem intStr {k : Nat} (h : k < 1000000) : VCall C n (.type "int") [.str (numStr k)] (.int (k : Int)) := by
  refine .mk ?_; rintro A m s _ R g rl; obtain ⟨_, rfl, ra⟩ := rl.one
  cases ra using Rep.caseStr
  exact PySem.W.KIN.call_num (by omega) (by omega) resInt

theorem strs_uniq {a b : List Str} (ha : sortedS a = true) (hb : sortedS b = true) (hp : a.Perm b) : a = b := by
  have adj : ∀ (l : List Str) (p : Str), risingS p l = true → (p :: l).Pairwise fun x y => x.cps.toList ≤ y.cps.toList := by
    intro l
    induction l with
    | nil => intro p _; simp
    | cons x r ih =>
      intro p h
      simp only [risingS, Bool.and_eq_true, Bool.not_eq_true'] at h
      have h1 : p.cps.toList ≤ x.cps.toList := by
        rw [ltCps_eq, decide_eq_false_iff_not, List.not_lt] at h
        exact h.1
      have h2 := ih x h.2
      rw [List.pairwise_cons] at h2 ⊢
      refine ⟨?_, List.pairwise_cons.mpr h2⟩
      intro y hy
      rcases List.mem_cons.mp hy with rfl | hy
      · exact h1
      · exact List.le_trans h1 (h2.1 y hy)
  have all : ∀ l : List Str, sortedS l = true → l.Pairwise fun x y => x.cps.toList ≤ y.cps.toList := by
    intro l h
    cases l with
    | nil => simp
    | cons x r => exact adj r x h
  refine List.Perm.eq_of_pairwise (fun x y _ _ h1 h2 => ?_) (all a ha) (all b hb) hp
  have := List.le_antisymm h1 h2
  obtain ⟨x⟩ := x
  obtain ⟨y⟩ := y
  congr 1
  exact Array.toList_inj.mp this
end V

/-- sorted(a) != sorted(b), the same texts in both -/
theorem Tst.sortedNe {f f' e1 e2 p1 p2 pos} {l1 l2 : List Str} (hf : Ev C n sc Γ f (.raw (.builtin "sorted"))) (hf' : Ev C n sc Γ f' (.raw (.builtin "sorted"))) (h1 : Ev C n sc Γ e1 (.list (l1.map .str))) (h2 : Ev C n sc Γ e2 (.list (l2.map .str))) (hp : l1.Perm l2) (hl : l1.length < 64) (hok : ∀ x ∈ l1, PyData.strOk x = true)
    (he : ∀ env, eval (.Call f [e1] [] p1) env = (do callWith p1 (← eval f env) [] (backTo p1 (starEach [e1] env)) (backToKw p1 (keywordEach [] env))) := by intro _; rfl)
    (hs : ∀ env, starEach [e1] env = (false, eval e1 env) :: starEach [] env := by intro _; rfl)
    (he2 : ∀ env, eval (.Call f' [e2] [] p2) env = (do callWith p2 (← eval f' env) [] (backTo p2 (starEach [e2] env)) (backToKw p2 (keywordEach [] env))) := by intro _; rfl)
    (hs2 : ∀ env, starEach [e2] env = (false, eval e2 env) :: starEach [] env := by intro _; rfl) :
    Tst C n sc Γ (.Compare (.Call f [e1] [] p1) [.NotEq] [.Call f' [e2] [] p2] pos) false := .mk fun env A Pr U ad s R F => by
  have one : ∀ {f e pos} {l : List Str} (s : Shared), FSa C sc env Pr U Γ ad s → Ev C n sc Γ f (.raw (.builtin "sorted")) → Ev C n sc Γ e (.list (l.map .str)) → l.length < 64 →
      (∀ env, eval (.Call f [e] [] pos) env = (do callWith pos (← eval f env) [] (backTo pos (starEach [e] env)) (backToKw pos (keywordEach [] env)))) → (∀ env, starEach [e] env = (false, eval e env) :: starEach [] env) →
      wpAny (model C.prog C.w) A (eval (.Call f [e] [] pos) env) (fun v s' => Stp C s s' ∧ ∃ l' : List Str, l'.Perm l ∧ sortedS l' = true ∧ Rep C (vw s'.heap (mu U sc env ad)) v (.list (l'.map .str))) noE s := by
    intro f e pos l s F hf h hl he hs
    refine Call_ (wpAny_after (hf.run env A Pr U ad s R F) fun fv s₁ ⟨st₁, r₁⟩ => ?_) (he env)
    cases r₁ using Rep.caseRaw
    refine PyProof.Rows.callWith_builtin1 (wpAny_after ((EvL.cons h EvL.nil hs).run env A Pr U ad s₁ pos R (F.step st₁)) fun vs s₂ ⟨st₂, r₂⟩ => ?_) (hs env) rfl
    cases r₂ using RepL.caseCons with
    | cons r r0 =>
    cases r0 using RepL.caseNil
    cases r using Rep.caseList with
    | @list a o vs k hv hc hd hr _ =>
      have g := ((F.step st₁).step st₂).pt
      have hvl : vs.toList.length = l.length := by rw [hr.length]; simp
      refine wpAny_mono (twice g (P := fun v s' => Stp C s₂ s' → ∃ l' : List Str, l'.Perm l ∧ sortedS l' = true ∧ Rep C (vw s'.heap (mu U sc env ad)) v (.list (l'.map .str))) fun L mm news _ hL FF N hall => ?_) (fun v s' q => ⟨(st₁.trans st₂).trans q.1, q.2 q.1⟩) fun _ _ h => h
      refine sorted_N_str FF N (vs := vs.toList) ⟨o, hv.1, hc, k, by simpa using hd⟩ (repStrs hr) (by omega) fun h' vs' ss' e' F' N' hS' hp' hs' => ?_
      have nD := N' (_, seqObj "list" vs'.toArray e') (List.Mem.head _)
      refine ⟨.of (tk := s₂.toks) hall fun p hp => N' p (List.mem_cons_of_mem _ hp), fun st => ⟨ss', hp', hs', .list ⟨nD.1, g.fresh' (new_none' s₂ (Nat.le_succ _))⟩ rfl rfl ?_ ⟨rfl, rfl⟩⟩⟩
      have : ∀ {vs : List Value} {ss : List Str} {V : View}, StrsAre vs ss → RepL C V vs (ss.map .str) := by
        intro vs ss V h
        induction h with
        | nil => exact .nil
        | cons x t r ih => exact .cons (.str x t) ih
      simpa using this hS'
  refine wpAny_isTrue_Compare1 (wpAny_after (one s F hf h1 hl he hs) fun va s₁ ⟨st₁, l1', p1', q1', r1'⟩ => wpAny_after (one s₁ (F.step st₁) hf' h2 (by rw [← hp.length_eq]; exact hl) he2 hs2) fun vb s₂ ⟨st₂, l2', p2', q2', r2'⟩ => ?_) (by with_unfolding_all rfl)
  have e : l1' = l2' := V.strs_uniq q1' q2' (p1'.trans (hp.trans p2'.symm))
  subst e
  have F₂ := (F.step st₁).step st₂
  have r1'' := r1'.mono ((F.step st₁).pt.up st₂)
  have rd : ∀ {v : Value}, Rep C (vw s₂.heap (mu U sc env ad)) v (.list (l1'.map .str)) → ∃ as, Reads s₂.heap v (.list (l1'.map .str)) as := by
    intro v r
    cases r using Rep.caseList with
    | @list a o vs k hv hc hd hr _ => exact ⟨_, reads_list_at hv.1 hc hd ((repStrs hr).reads _)⟩
  obtain ⟨as, ra⟩ := rd r1''
  obtain ⟨bs, rb⟩ := rd r2'
  have sh : PySem.SeqAt.shaped (.list (l1'.map PyData.str)) = true := by
    unfold PySem.SeqAt.shaped
    simp only [PyData.canLay0, canLayAll_strs', PyData.depth, depthAll_strs', Bool.and_eq_true, decide_eq_true_eq]
    refine ⟨?_, by decide⟩
    rw [List.all_eq_true]
    intro x hx
    exact hok x (p1'.mem_iff.mp hx)
  refine ne_dataH ra rb sh sh (by have := R.2.2; show A.units + 64 < 9900; omega) ?_
  have eq : PyData.eqv (.list (l1'.map PyData.str)) (.list (l1'.map PyData.str)) = true := by
    have : ∀ l : List Str, PyData.eqvAll (l.map PyData.str) (l.map PyData.str) = true := by
      intro l
      induction l with
      | nil => rfl
      | cons x r ih => simp [PyData.eqvAll, PyData.eqv, ih]
    simp only [PyData.eqv, this]
  rw [eq]
  exact wpAny_truthy_bool ⟨st₁.trans st₂, rfl⟩
end Mine
end
-- F9
section
open PySem PySem.W PyProof.Rows
set_option Elab.async false
set_option linter.all false
set_option maxRecDepth 100000
namespace Mine
variable {C : Cx} {n : Nat} {sc : Scope} {Γ Γ' Γ'' : Gam} {env : Env} {Pr : Addr → Obj → Prop} {U m : Addr → Prop} {ad : Str → Option Addr} {s s' s₁ : Shared} {A : Ads}
/-- an entry: its four numbers, its callers, its tally -/
structure Entry where
  a : Nat
  b : Nat
  c : Nat
  d : Nat
  callers : Callers
  tally : List Nat
namespace Entry
noncomputable def nums (e : Entry) : List Nat := [e.a, e.b, e.c, e.d]
noncomputable def «at» (e : Entry) (k : Nat) : Nat := e.nums.getD k 0
noncomputable def size (e : Entry) : Nat := (e.nums.filter fun x => 0 < x).length
/-- o's clause is within e's -/
noncomputable def sub (o e : Entry) : Bool := (List.range 4).all fun k => !(decide (0 < o.at k) && (o.at k != e.at k))
end Entry
noncomputable def dEntry (e : Entry) : D := .tup [.int e.a, .int e.b, .int e.c, .int e.d, dCallers e.callers, .list (natsD e.tally)]
noncomputable def dEntries (es : List Entry) : D := .list (es.map dEntry)
noncomputable def keepStep (kept : List Entry) (e : Entry) : List Entry := if kept.any fun o => o.sub e then kept else kept ++ [e]
noncomputable def keptOf (es : List Entry) : List Entry := es.foldl keepStep []

theorem iterList {A₁ : Around} {target : Expr} {x : Value} {ds : List D} (R : Room A₁ n) (F : FSa C sc env Pr U Γ ad s) (st : Stp C s s₁) (r : Rep C (vw s₁.heap (mu U sc env ad)) x (.list ds)) :
    wpAny (model C.prog C.w) A₁ (pyIter x) (fun it s₂ => Made C A₁ (mu U sc env ad) false target ds s it s₂) noE s₁ := by
  cases r using Rep.caseList with
  | @list a o vs k hv hc hd hr _ =>
    have F₁ := F.step st
    have hl : s₁.heap.IsList a vs := ⟨o, hv.1, hc, k, hd⟩
    refine wpAny_pyIter_list hl ?_
    generalize hs2 : ({ s₁ with heap := s₁.heap.push { cls := .type "list_iterator", data := .fields #[.ref a, .int 0 0] } } : Shared) = s₂
    have st₂ : Stp C s₁ s₂ := hs2 ▸ Stp.push _ _
    have hne : a ≠ s₁.heap.objs.size := Nat.ne_of_lt (Heap.lt_size hv.1)
    have hI : s₂.heap.get? s₁.heap.objs.size = some { cls := .type "list_iterator", data := .fields #[.ref a, .int 0 0] } := hs2 ▸ Heap.get?_push_size _ rfl
    have hl2 : s₂.heap.IsList a vs := by rw [← hs2]; exact hl.push _
    have e : ds.length = vs.size := by rw [← Array.length_toList, hr.length]
    refine Made.ofWalks (e ▸ Walks.list R.1 s₁.heap.objs.size a hne vs) F₁.pt st st₂ rfl ⟨⟨_, hI, rfl, rfl⟩, hl2⟩ ?_ ?_ ?_
    · rintro i h ⟨⟨o, ho, hc, hd⟩, _⟩
      exact ⟨o, _, _, ho, hc, hd, by decide, by decide⟩
    · intro b hb hbI
      simp only [List.mem_cons, List.not_mem_nil, or_false] at hb
      rcases hb with rfl | rfl
      · exact absurd rfl hbI
      · obtain ⟨o, ho, _⟩ := hl2; exact ⟨hv.2, o, ho⟩
    · intro i v hP d hd'
      obtain ⟨d', e1, e2⟩ := hr.get' (show vs.toList[i]? = some v by simpa using hP)
      rw [hd'] at e1; cases e1
      exact ⟨e2, fun h => by cases h⟩

noncomputable def leastFor : Stmt := (bodyOf 71).getD 1 default
inductive LeastShape : Prop
  | mk (t1 : Stmt) (px fpx epx p pos kp : Pos) (body : List Stmt) (fpos : Pos) (t3 : Stmt) (hb : bodyOf 71 = [t1, .For (.Name "entry" px) (.Call (.Name "sorted" fpx) [.Name "entries" epx] [⟨some "key", .Lambda lamOf.1 lamOf.2.1 lamOf.2.2.1 lamOf.2.2.2, kp⟩] pos) body [] fpos, t3]) : LeastShape
theorem least_shape : LeastShape := ⟨_, _, _, _, default, _, _, _, _, _, rfl⟩

noncomputable def gLeast (es kept : List Entry) : Gam := (Str.ofString "kept", Slot.own (kept.map dEntry)) :: params ["entries"] [dEntries es]
theorem least1 {es : List Entry} : Ex1 C n (scOf 71) (params ["entries"] [dEntries es]) ((bodyOf 71).getD 0 default) (gLeast es []) := Ex1.own (ds := []) EvL.nil
noncomputable def leastBody : List Stmt := match leastFor with
  | .For _ _ b _ _ => b
  | _ => []
theorem isEmpty_map {α β : Type} (f : α → β) (l : List α) : (l.map f).isEmpty = l.isEmpty := by cases l <;> rfl
theorem all_eq_filter {α : Type} (p : α → Bool) (l : List α) : (l.filter p).isEmpty = l.all fun x => !p x := by
  induction l with
  | nil => rfl
  | cons x l ih => by_cases h : p x <;> simp [List.filter_cons, h, ih]
theorem any_eq_filter {α : Type} (p : α → Bool) (l : List α) : (l.filter p).isEmpty = !l.any p := by
  rw [all_eq_filter]; induction l with
  | nil => rfl
  | cons x l ih => simp [List.all_cons, List.any_cons, ih]

theorem Ev.num {x px i pos} {e : Entry} {k : Nat} (hx : Γ.lookup x = some (.d (dEntry e))) (hi : Ev C n sc Γ i (.int (k : Int))) (hk : k < 4) (hd : (x == ("__debug__" : Str)) = false := by decide) (hs : ∀ o j, subscripted i false o j = operate [o, j] (getItem o j) := by intro _ _; rfl) :
    Ev C n sc Γ (.Subscript (.Name x px) i pos) (.int (e.at k : Nat)) := by
  refine Ev.sub (Ev.name hx hd) hi ?_
  rcases lt4 hk with rfl | rfl | rfl | rfl <;> exact V.itemT (by decide) (by decide) rfl hs
theorem natPos {a : Nat} : decide ((0 : Int) < (a : Int)) = decide (0 < a) := by rw [decide_eq_decide]; omega
theorem natNe {a b : Nat} : ((a : Int) != (b : Int)) = (a != b) := by rw [Bool.eq_iff_iff]; simp; lia

theorem least2 (L : Lay C A) {es kept : List Entry} {e : Entry} (hk : kept.length ≤ 1000) : ExN C n (scOf 71) ((Str.ofString "entry", Slot.d (dEntry e)) :: gLeast es kept) leastBody (gLeast es (keepStep kept e)) := by
  refine ExN.ofEx1 (Ex1.ite (c := (kept.filter fun o => o.sub e).isEmpty) (Tst.cast (Tst.own (Tst.cmp (a := .list ((kept.filter fun o => o.sub e).map dEntry)) (Ev.lc (LC.filN kept dEntry dEntry (fun o => o.sub e) [(Str.ofString "entry", Slot.d (dEntry e))] (Src.list (Ev.name rfl)) (allCons ⟨rfl, rfl, rfl⟩ allNil) ?_ ?_ (hlen := by omega))) (Ev.list EvL.nil) V.eqNil)) ?_) ?_ ?_)
  · intro o ho
    refine Tst.cast (Tst.cmp (Ev.lc (LC.filN (List.range 4) (fun (k : Nat) => .int (k : Int)) (fun (k : Nat) => .int (k : Int)) (fun k => decide (0 < o.at k) && (o.at k != e.at k)) [(Str.ofString "one", Slot.d (dEntry o)), (Str.ofString "entry", Slot.d (dEntry e))] (Src.range (Ev.glob rfl (L.glob rfl)) Ev.int (by decide) (by decide)) (allCons ⟨rfl, rfl, rfl⟩ (allCons ⟨rfl, rfl, rfl⟩ allNil)) ?_ ?_)) (Ev.list EvL.nil) V.eqNil) ?_
    · intro k hk
      have hk : k < 4 := List.mem_range.mp hk
      refine Tst.and2 (Tst.cast (Tst.cmp (Ev.num rfl (Ev.name rfl) hk) Ev.int V.gt) natPos) fun _ => Tst.cast (Tst.cmp (Ev.num rfl (Ev.name rfl) hk) (Ev.num rfl (Ev.name rfl) hk) V.ne) natNe
    · intro k hk _
      exact Ev.name rfl
    · rw [isEmpty_map, all_eq_filter]; rfl
  · intro o ho _
    exact Ev.name rfl
  · rw [isEmpty_map]
  · intro hc
    have hc : kept.any (fun o => o.sub e) = false := by rw [any_eq_filter] at hc; simpa using hc
    refine ExN.sub (ExN.ofEx1 (Ex1.append rfl (Ev.name rfl) (by simp; omega))) (subG (allCons ?_ (allCons rfl allNil)))
    simp [keepStep, hc]
  · intro hc
    have hc : kept.any (fun o => o.sub e) = true := by rw [any_eq_filter] at hc; simpa using hc
    refine ExN.sub ExN.nil (subG (allCons ?_ (allCons rfl allNil)))
    simp only [keepStep, hc, if_true]; rfl

theorem lamKey (L : Lay C A) (C2 : Cx) (e1 : C2.mg = C.mg) (e2 : C2.mb = C.mb) (e : Entry) : Ev C2 n lamOf.2.2.1 (params' "one" (dEntry e)) lamOf.2.1 (.int (e.size : Nat)) := by
  have hv : (C2.mg "len").or (C2.mb "len") = some (.builtin "len") := by rw [e1, e2]; exact L.glob rfl
  refine Ev.callB (Ev.glob (by rfl) hv) (EvL.cons (Ev.lc (LC.filN e.nums (fun (x : Nat) => .int (x : Int)) (fun (x : Nat) => .int (x : Int)) (fun x => decide (0 < x)) [] (Src.tup (Ev.slice (Ev.name rfl) EvO.none (EvO.some Ev.int) (V.sliceT (k := 4) (by simp) (by simp)))) allNil ?_ ?_ (hlen := by simp [Entry.nums]))) EvL.nil) ?_
  · intro x _
    exact Tst.cast (Tst.cmp (Ev.name rfl) Ev.int V.gt) natPos
  · intro x _ _
    exact Ev.name rfl
  · have := V.lenL (C := C2) (n := n) (ds := (e.nums.filter fun x => decide (0 < x)).map fun (x : Nat) => D.int (x : Int)) ?_
    · rw [List.length_map] at this; exact this
    · rw [List.length_map]
      exact Nat.le_trans (List.length_filter_le _ _) (by simp [Entry.nums])

theorem keepStep_len (k : List Entry) (e : Entry) : (keepStep k e).length ≤ k.length + 1 := by unfold keepStep; split <;> simp

/-- what _law_least may give -/
noncomputable def LeastOf (es : List Entry) (d : D) : Prop := ∃ es' : List Entry, es'.Perm es ∧ (es'.map Entry.size).Pairwise (· ≤ ·) ∧ d = dEntries (keptOf es')

theorem c_least (L : Lay C A) {es : List Entry} (h64 : es.length < 64) : VCallR C (n+5) (.ref A.least) [dEntries es] (LeastOf es) := .mk fun A₁ m s vs R g hr => by
  obtain ⟨fd, c, I, hsc, hbind, hcode, hqual, bo, hT⟩ := L.least
  obtain ⟨v, rfl, hv⟩ : ∃ v, vs = [v] ∧ Rep C (vw s.heap m) v (dEntries es) := by
    cases hr using RepL.caseCons with
    | cons a b => cases b using RepL.caseNil; exact ⟨_, rfl, a⟩
  obtain ⟨o, ho, hd⟩ := I.obj
  have hkd : ((["entries"] : List Str).zip [v]).map (·.1) = (["entries"] : List Str) := rfl
  have hxs : ∀ y ∈ (["entries"] : List Str), fd.scope.names.lookup y = some .local ∨ fd.scope.names.lookup y = some .cell := by rw [hsc]; decide
  refine wpAny_call (codeAny_call_cells (o := o) (fd := fd) (binds := (["entries"] : List Str).zip [v]) R.depth (g.base _ _ ho) hd g.lim ?_ I.body (hbind [v] rfl) I.clo ?_ (fun s₁ x => ?_) I.cor I.gen I.kind)
  · exact I.codeAt g
  · intro p hp
    have hpx : p.1 ∈ (["entries"] : List Str) := by rw [← hkd]; exact List.mem_map_of_mem hp
    rcases hxs p.1 hpx with h | h
    · exact .inl h
    · exact .inr ⟨h, cellsFrom_some fd.scope.names (s.heap.objs.size + 1) [] p.1 (.inl (mem_of_lookup h))⟩
  have F := entry I.toFnHd (xs := ["entries"]) (ds := [dEntries es]) (vs := [v]) (by decide) hxs rfl g (.cons hv .nil) x
  have R₁ := R.deeper (callEnvC fd s.heap.objs.size A.least)
  have ec : (callEnvC fd s.heap.objs.size A.least).code = .ref c := hcode
  have eq : (callEnvC fd s.heap.objs.size A.least).qual ++ "<lambda>" = lamQual := by
    show fd.qualname ++ ".<locals>." ++ "<lambda>" = _
    rw [hqual]; rfl
  have eg : (callEnvC fd s.heap.objs.size A.least).globals = mainGlobals := I.glob
  rw [hsc] at F
  refine wpAny_mono (Q := fun f s' => ∃ d, LeastOf es d ∧ Ret C (entryP C s.heap) m d f s') (E := noE) ?_ (fun f s' q => ?_) fun _ _ h => h.elim
  case refine_2 =>
    obtain ⟨d, hd, q⟩ := q
    obtain ⟨v, rfl, hv⟩ := q.val
    exact ⟨Stp.ofGS g q.gs fun a o h1 h2 e => q.pr a o ⟨e, h1, h2⟩, d, hd, hv⟩
  generalize callEnvC fd s.heap.objs.size A.least = env at F R₁ ec eq eg ⊢
  generalize A₁.deeper env = A₂ at R₁ ⊢
  have i1 := least1 (C := C) (n := n) (es := es)
  obtain ⟨t1, px, fpx, epx, p, pos, kp, body, fpos, t3, hb⟩ := least_shape
  have i2 : body = leastBody := by unfold leastBody leastFor; rw [hb]; rfl
  have i3 : t3 = (bodyOf 71).getD 2 default := by rw [hb]; rfl
  rw [hb] at i1 ⊢
  simp only [List.getD_cons_zero] at i1
  refine wpAny_execs_cons (wpAny_after (i1.run _ _ _ _ _ _ (R₁.le (by lia)) F) fun f s₂ q => ?_)
  obtain ⟨rfl, ad₁, F₁⟩ := q
  refine wpAny_execs_cons (wpAny_For ?_ (fun _ => rfl))
  have he : ∀ env, eval (.Call (.Name "sorted" fpx) [.Name "entries" epx] [⟨some "key", .Lambda lamOf.1 lamOf.2.1 lamOf.2.2.1 lamOf.2.2.2, kp⟩] pos) env = (do callWith pos (← eval (.Name "sorted" fpx) env) [] (backTo pos (starEach [.Name "entries" epx] env)) (backToKw pos (keywordEach [⟨some "key", .Lambda lamOf.1 lamOf.2.1 lamOf.2.2.1 lamOf.2.2.2, kp⟩] env))) := fun env => rfl
  rw [he]
  refine wpAny_bind (wpAny_after ((Ev.glob (C := C) (n := n) (by rfl) (L.glob (by rfl))).run _ _ _ _ _ _ (R₁.le (by lia)) F₁) fun fv s₃ q => ?_)
  obtain ⟨st₃, r₃⟩ := q
  cases r₃ using Rep.caseRaw
  have F₂ := F₁.step st₃
  have R₂ : Room A₂ (n + 3) := R₁.le (by lia)
  refine callWith_kw (wpAny_after ((EvL.cons (Ev.name (C := C) (n := n + 3) (d := dEntries es) (by rfl)) EvL.nil).run _ _ _ _ _ _ pos R₂ F₂) fun vs s₄ q => ?_)
  obtain ⟨st₄, r₄⟩ := q
  obtain ⟨lv, rfl, hlv⟩ : ∃ v, vs = [v] ∧ Rep C (vw s₄.heap (mu m (scOf 71) env ad₁)) v (dEntries es) := by
    cases r₄ using RepL.caseCons with
    | cons a b => cases b using RepL.caseNil; exact ⟨_, rfl, a⟩
  have F₃ := F₂.step st₄
  refine kwAll_cons (wpAny_after (lam_eval L F₃.pt ec hT eg eq (by rfl) (by rfl)) fun fv s₅ q => kwAll_nil ?_)
  obtain ⟨f, c', oc, vs0, t0, ctv, pm, rfl, st₅, hf, hoc, hic, hd0, hv0, hh⟩ := q
  have F₄ := F₃.step st₅
  have hlv5 := hlv.mono (F₃.pt.up st₅)
  obtain ⟨mm2, hL2⟩ := F₄.ns
  refine wpAny_after (sort_key (kz := es.map fun e => (e.size : Int)) (x := "one") F₄.pt R₂ hlv5 (by simpa using h64) (by simp) hh hf hoc hic hd0 hv0 hL2 (.inr (.inl rfl)) (F₄.foot _ (.inl rfl)).2.1 ⟨(F₄.foot _ (.inl rfl)).2.2.1, (F₄.foot _ (.inl rfl)).2.2.2.1, (F₄.footNe (.inl rfl)).1, (F₄.footNe (.inl rfl)).2⟩ (by exact ⟨rfl, rfl, rfl, by decide, by decide⟩) (.inl (by rfl)) (fun v => by rfl) ?_) fun xv s₆ q => ?_
  · intro C2 _ _ e3 e4 i d k h1 h2
    simp only [List.getElem?_map, Option.map_eq_some_iff] at h1 h2
    obtain ⟨e, he1, rfl⟩ := h1
    obtain ⟨e', he2, rfl⟩ := h2
    rw [he1] at he2; cases he2
    exact lamKey L C2 e3 e4 e
  obtain ⟨st₆, ds', ⟨qs, hperm, rfl, hsort⟩, rxv⟩ := q
  have hz : (es.map fun e => (e.size : Int)).zip (es.map dEntry) = es.map fun e => ((e.size : Int), dEntry e) := by
    rw [List.zip_map', ]
  rw [hz] at hperm
  obtain ⟨es', hp', ha2⟩ := A2.perm (R := fun (q : Int × D) (e : Entry) => q = ((e.size : Int), dEntry e)) hperm (k2 := es) (by
    have : ∀ l : List Entry, A2 (fun (q : Int × D) (e : Entry) => q = ((e.size : Int), dEntry e)) (l.map fun e => ((e.size : Int), dEntry e)) l := by
      intro l
      induction l with
      | nil => exact .nil
      | cons e l ih => exact .cons rfl ih
    exact this es)
  have hqs : qs = es'.map fun e => ((e.size : Int), dEntry e) := by
    clear hsort rxv hperm hp'
    induction ha2 with
    | nil => rfl
    | cons r _ ih => rw [r, ih]; rfl
  subst hqs
  have hds : (es'.map fun e => ((e.size : Int), dEntry e)).map (·.2) = es'.map dEntry := by simp
  have hks : (es'.map fun e => ((e.size : Int), dEntry e)).map (·.1) = es'.map fun e => (e.size : Int) := by simp
  rw [hds] at rxv
  rw [hks] at hsort
  have hlen' : es'.length = es.length := hp'.length_eq
  have st26 : Stp C s₂ s₆ := ((st₃.trans st₄).trans st₅).trans st₆
  refine wpAny_after (iterList (target := .Name "entry" px) R₂ F₁ st26 rxv) fun it s₇ hmade => ?_
  refine for_made (gLeast es) (fun i b => b = (es'.take i).foldl keepStep [] ∧ b.length ≤ i) (fun b d => (Str.ofString "entry", Slot.d d) :: gLeast es b) [] R₂ F₁ hmade ⟨rfl, Nat.zero_le _⟩ (fun i b d _ _ => As.name) (fun i b d hd hI => ?_) (fun b ad' s' hI F' => ?_)
  · simp only [List.getElem?_map, Option.map_eq_some_iff] at hd
    obtain ⟨e, he1, rfl⟩ := hd
    have hi := (List.getElem?_eq_some_iff.mp he1).1
    have hb2 : ExN C (n + 3) (scOf 71) ((Str.ofString "entry", Slot.d (dEntry e)) :: gLeast es b) body (gLeast es (keepStep b e)) := by rw [i2]; exact least2 L (by lia)
    refine (ExN.r hb2).mono fun Γ' h => ⟨_, ⟨keepStep b e, ⟨?_, ?_⟩, rfl⟩, ?_⟩
    · rw [List.take_add_one, he1, hI.1]; simp
    · exact Nat.le_trans (keepStep_len b e) (by lia)
    · subst h; exact fun _ _ h => h
  · rw [i3]
    have hk : b = keptOf es' := by rw [hI.1]; simp [keptOf]
    subst hk
    refine wpAny_after ((ExT.retF (Ev.name (C := C) (n := n) (d := dEntries (keptOf es')) (by rfl))).run _ _ _ _ _ _ (R₁.le (by lia)) F') fun f s₈ q => ⟨_, ⟨es', hp', ?_, rfl⟩, q⟩
    rw [List.pairwise_map] at hsort ⊢
    exact hsort.imp fun h => by lia
end Mine
end
-- F10
section
open PySem PySem.W PyProof.Rows
set_option Elab.async false
set_option linter.all false
set_option maxRecDepth 100000
namespace Mine
variable {C : Cx} {n : Nat} {sc : Scope} {Γ Γ' Γ'' : Gam} {env : Env} {Pr : Addr → Obj → Prop} {U m : Addr → Prop} {ad : Str → Option Addr} {s s' s₁ : Shared} {A : Ads}
noncomputable def Entry.ok (e : Entry) : Prop := ∀ k, k < 4 → e.at k = 0 ∨ e.at k = 1 ∨ e.at k = 8
noncomputable def sgn (v k : Nat) : Str := ⟨#[chrOf (v / 8) k]⟩
noncomputable def pairsAt (e : Entry) (i : Nat) : Hs := ((List.range 4).filter fun k => decide (0 < e.at k)).map fun k => (sgn (e.at k) k, V.numStr i)
noncomputable def pairStep (acc : Hs) (p : Entry × Nat) : Hs := acc ++ pairsAt p.1 p.2
noncomputable def pairsOf (es : List Entry) : Hs := es.zipIdx.foldl pairStep []
theorem pairsAt_len (e : Entry) (i : Nat) : (pairsAt e i).length ≤ 4 := by
  unfold pairsAt; rw [List.length_map]; exact Nat.le_trans (List.length_filter_le _ _) (by simp)
theorem hsD_map (l : Hs) : (l.map fun p => D.tup [.str p.1, .str p.2]) = l.map V.pairS := rfl

noncomputable def gPairs (es : List Entry) (acc : Hs) : Gam := (Str.ofString "pairs", Slot.own (acc.map V.pairS)) :: params ["entries"] [dEntries es]
theorem ex_pairs (L : Lay C A) {es : List Entry} (hlen : es.length ≤ 1000) (hok : ∀ e ∈ es, e.ok) : ExT C n (scOf 72) (params ["entries"] [dEntries es]) (bodyOf 72) (hsD (pairsOf es)) := by
  refine ExT.cons (Ex1.own (ds := []) EvL.nil) (ExT.cons (Ex1.foldN (H := true) (sc := scOf 72) es.zipIdx (fun p => .tup [.int (p.2 : Int), dEntry p.1]) pairStep [] (gPairs es) (fun acc p => (Str.ofString "entry", Slot.d (dEntry p.1)) :: (Str.ofString "place", Slot.d (.int (p.2 : Int))) :: gPairs es acc) (fun i acc => acc.length ≤ 4 * i) (by simp) ?_ ?_ ?_ ?_) (ExT.retF (Ev.name rfl)))
  · refine Src.cast (Src.enum (Ev.glob rfl (L.glob rfl)) (Ev.name rfl)) ?_
    simp [Mine.enum, dEntries, List.zipIdx_map]
  · intro i acc p _ _ h
    have := pairsAt_len p.1 p.2
    simp only [pairStep, List.length_append]; lia
  · intro i acc p _ _ _; exact As.tup (ps := [(Str.ofString "place", _), (Str.ofString "entry", _)])
  · intro i acc p hi hp h
    obtain ⟨e, j⟩ := p
    have hil : i < es.length := by simpa using hi
    have hmem := List.mem_zipIdx hp
    have he : e ∈ es := by
      have h3 := hmem.2.2
      rw [h3]; exact List.getElem_mem _
    have hj : j < 1000 := by have := hmem.2.1; lia
    have hoke := hok e he
    refine ExN.sub (ExN.ofEx1 (Ex1.extend (ds := acc.map V.pairS) (d := (pairsAt e j).map V.pairS) rfl ?_ (by have := pairsAt_len e j; simp only [List.length_map]; lia))) (subG (allCons ?_ (allCons rfl allNil)))
    · refine Ev.cast (Ev.lc (LC.filN (List.range 4) (fun (k : Nat) => .int (k : Int)) (fun (k : Nat) => V.pairS (sgn (e.at k) k, V.numStr j)) (fun k => decide (0 < e.at k)) [(Str.ofString "entry", Slot.d (dEntry e)), (Str.ofString "place", Slot.d (.int (j : Int)))] (Src.range (Ev.glob rfl (L.glob rfl)) Ev.int (by decide) (by decide)) (allCons ⟨rfl, rfl, rfl⟩ (allCons ⟨rfl, rfl, rfl⟩ allNil)) ?_ ?_)) ?_
      · intro k hk
        exact Tst.cast (Tst.cmp (Ev.num rfl (Ev.name rfl) (List.mem_range.mp hk)) Ev.int V.gt) natPos
      · intro k hk hpos
        have hk := List.mem_range.mp hk
        refine Ev.tup (EvL.cons ?_ (EvL.cons (Ev.callT (Ev.glob rfl (L.glob rfl)) (EvL.cons (Ev.name rfl) EvL.nil) (V.strInt (by lia))) EvL.nil))
        have hv : e.at k = 1 ∨ e.at k = 8 := by
          have := hoke k hk
          have : 0 < e.at k := by simpa using hpos
          lia
        refine Ev.sub (b := .int (k : Int)) (a := .str (if e.at k / 8 = 0 then "abcd" else "ABCD")) (Ev.sub (b := .int ((e.at k / 8 : Nat) : Int)) (Ev.tup (EvL.cons Ev.str (EvL.cons Ev.str EvL.nil))) (Ev.bin (Ev.num rfl (Ev.name rfl) hk) Ev.int (V.divN (by decide) (by decide))) ?_) (Ev.name rfl) ?_
        · rcases hv with h | h <;> rw [h] <;> exact V.itemT (by decide) (by decide) rfl
        · rcases hv with h | h <;> rw [h] <;> rcases lt4 hk with rfl | rfl | rfl | rfl <;> exact V.itemS (by decide) (by decide) rfl
      · simp only [pairsAt, List.map_map]; rfl
    · show some (Slot.own (acc.map V.pairS ++ (pairsAt e j).map V.pairS)) = some (Slot.own ((pairStep acc (e, j)).map V.pairS))
      simp only [pairStep, List.map_append]

theorem c_pairs (L : Lay C A) {es : List Entry} (hlen : es.length ≤ 1000) (hok : ∀ e ∈ es, e.ok) : VCall C (n+1) (.ref A.pairs) [dEntries es] (hsD (pairsOf es)) := VCall.ofDef L.pairs (ex_pairs L hlen hok)
end Mine
end
-- F11
section
open PySem PySem.W PyProof.Rows
set_option Elab.async false
set_option linter.all false
set_option maxRecDepth 100000
namespace Mine
variable {C : Cx} {n : Nat} {sc : Scope} {Γ Γ' Γ'' : Gam} {env : Env} {Pr : Addr → Obj → Prop} {U m : Addr → Prop} {ad : Str → Option Addr} {s s' s₁ : Shared} {A : Ads}
theorem VCallR.ofDef {body : List Stmt} {fa : Addr} {xs : List Str} {ds : List D} {P : D → Prop} (H : DefOK C body sc fa xs) (hx : ExTR C n sc (params xs ds) body P)
    (hn : xs.Nodup := by decide) (hxs : ∀ x ∈ xs, sc.names.lookup x = some .local ∨ sc.names.lookup x = some .cell := by decide) (hlen : xs.length = ds.length := by rfl) : VCallR C (n+1) (.ref fa) ds P := .mk fun A m s vs R g hr => by
  obtain ⟨fd, I, rfl, hbind⟩ := H
  have hl : xs.length = vs.length := by rw [hr.length, hlen]
  obtain ⟨o, ho, hd⟩ := I.obj
  have hkd : (xs.zip vs).map (·.1) = xs := by rw [List.map_fst_zip]; lia
  refine wpAny_call (codeAny_call_cells (o := o) (fd := fd) (body := body) (binds := xs.zip vs) R.depth (g.base _ _ ho) hd g.lim ?_ I.body (hbind vs hl) I.clo ?_ (fun s₁ x => ?_) I.cor I.gen I.kind)
  · exact I.codeAt g
  · intro p hp
    have hpx : p.1 ∈ xs := by rw [← hkd]; exact List.mem_map_of_mem hp
    rcases hxs p.1 hpx with h | h
    · exact .inl h
    · exact .inr ⟨h, cellsFrom_some fd.scope.names (s.heap.objs.size + 1) [] p.1 (.inl (mem_of_lookup h))⟩
  · have F := entry I.toFnHd hn hxs hl g hr x
    refine wpAny_mono (hx.run _ _ _ _ _ _ (R.deeper _) F) (fun f s' q => ?_) fun _ _ h => h.elim
    obtain ⟨d, hp, q⟩ := q
    obtain ⟨v, rfl, hv⟩ := q.val
    exact ⟨Stp.ofGS g q.gs fun a o h1 h2 e => q.pr a o ⟨e, h1, h2⟩, d, hp, hv⟩

/-- Headers(e) -/
theorem Ev.makeH (L : Lay C A) {K : Frag} (H : HdrOK C A K) {fpos e pos} {l : Hs} (he : Ev C (n+3) sc Γ e (hsD l)) (hl : FineHs l) (hk : sc.names.lookup (Str.ofString "Headers") = some .globalImplicit := by rfl)
    (hc : ∀ env, eval (.Call (.Name "Headers" fpos) [e] [] pos) env = (do callWith pos (← eval (.Name "Headers" fpos) env) [] (backTo pos (starEach [e] env)) (backToKw pos (keywordEach [] env))) := by intro _; rfl)
    (hse : ∀ env, starEach [e] env = (false, eval e env) :: starEach [] env := by intro _; rfl)
    (hplain : ∀ env, ((backTo pos (starEach [e] env)).any (·.1) || (backToKw pos (keywordEach [] env)).any (·.1.isNone)) = false := by intro _; rfl) : Ev C (n+3) sc Γ (.Call (.Name "Headers" fpos) [e] [] pos) (hdrD l) := .mk fun env A₁ Pr U ad s R F => by
  rw [hc]
  refine wpAny_bind (wpAny_after ((Ev.glob (C := C) (n := n) hk (L.glob rfl)).run env A₁ Pr U ad s (R.le (by lia)) F) fun fv s₁ ⟨st₁, r₁⟩ => ?_)
  cases r₁ using Rep.caseRaw
  have F₁ := F.step st₁
  refine callWith_KW (h₀ := s₁.heap) (H.isIn F₁.gs) H.keep rfl (wpAny_after ((EvL.cons he EvL.nil hse).run env A₁ Pr U ad s₁ pos R F₁) fun vs s₂ ⟨st₂, r₂⟩ => kwAll_nil ?_) (hplain env) (hse env)
  have F₂ := F₁.step st₂
  refine ⟨H.isIn F₂.gs, ?_⟩
  exact wpAny_after ((c_make L H hl).run A₁ _ s₂ vs R F₂.pt r₂) fun _ _ h' => (h'.after st₂).after st₁

theorem lower_sgn : ∀ v k, (v = 0 ∨ v = 1 ∨ v = 8) → k < 4 → Txt.lower (sgn v k) = ⟨#[97 + k]⟩ := by
  intro v k hv hk
  rcases hv with rfl | rfl | rfl <;> rcases lt4 hk with rfl | rfl | rfl | rfl <;> decide +kernel
theorem fine_sgn : ∀ v k, (v = 0 ∨ v = 1 ∨ v = 8) → k < 4 → Fine (sgn v k) := by
  intro v k hv hk
  rcases hv with rfl | rfl | rfl <;> rcases lt4 hk with rfl | rfl | rfl | rfl <;> exact ⟨by decide, by decide +kernel, by decide +kernel⟩
theorem fine_low : ∀ k, k < 4 → Fine ⟨#[97 + k]⟩ := by
  intro k hk
  rcases lt4 hk with rfl | rfl | rfl | rfl <;> exact ⟨by decide, by decide +kernel, by decide +kernel⟩
noncomputable def fineB (x : Str) : Bool := decide (x.cps.size ≤ 1000) && finds0 nameCode x && finds0 valueCode x
theorem fine_num : ∀ k, k < 64 → Fine (V.numStr k) := by
  have : ∀ k : Fin 64, fineB (V.numStr k) = true := by decide +kernel
  intro k hk
  have h := this ⟨k, hk⟩
  simp only [fineB, Bool.and_eq_true, decide_eq_true_eq] at h
  exact ⟨h.1.1, h.1.2, h.2⟩

/-- the places of the clauses that have the letter -/
noncomputable def placesOf (es : List Entry) (x : Nat) : List Nat := (es.zipIdx.filter fun p => decide (0 < p.1.at x)).map (·.2)
noncomputable def upName (x : Nat) : Str := ⟨#[65 + x]⟩
theorem low_up : ∀ k, k < 4 → Txt.lower (upName k) = ⟨#[97 + k]⟩ := by
  intro k hk
  rcases lt4 hk with rfl | rfl | rfl | rfl <;> decide +kernel
theorem pairsOf_flat : ∀ (l : List (Entry × Nat)) (acc : Hs), l.foldl pairStep acc = acc ++ l.flatMap fun p => pairsAt p.1 p.2
  | [], acc => by simp
  | p :: l, acc => by simp [pairStep, pairsOf_flat l]
theorem pairsAt_filter {e : Entry} (hok : e.ok) (i : Nat) {x : Nat} (hx : x < 4) : (pairsAt e i).filter (fun p => Txt.lower p.1 == Txt.lower (upName x)) = if 0 < e.at x then [(sgn (e.at x) x, V.numStr i)] else [] := by
  unfold pairsAt
  rw [List.filter_map, List.filter_filter, low_up x hx]
  have key : ∀ k ∈ List.range 4, (((fun p : Str × Str => Txt.lower p.1 == ⟨#[97 + x]⟩) ∘ fun k => (sgn (e.at k) k, V.numStr i)) k && decide (0 < e.at k)) = (decide (k = x) && decide (0 < e.at x)) := by
    intro k hk
    have hk := List.mem_range.mp hk
    simp only [Function.comp]
    rw [lower_sgn _ _ (hok k hk) hk]
    by_cases h : k = x
    · subst h; simp
    · have : ((⟨#[97 + k]⟩ : Str) == ⟨#[97 + x]⟩) = false := by
        rw [beq_eq_false_iff_ne]
        intro h'
        have : #[97 + k] = #[97 + x] := congrArg Str.cps h'
        simp at this; lia
      rw [this]; simp [h]
  rw [List.filter_congr key]
  by_cases h0 : 0 < e.at x
  · rw [if_pos h0]
    rcases lt4 hx with rfl | rfl | rfl | rfl <;> simp [List.range_succ, h0]
  · rw [if_neg h0]; simp [h0]
theorem places_eq {es : List Entry} (hok : ∀ e ∈ es, e.ok) {x : Nat} (hx : x < 4) : ((pairsOf es).filter fun p => Txt.lower p.1 == Txt.lower (upName x)).map (fun p => D.str p.2) = (placesOf es x).map fun i => D.str (V.numStr i) := by
  have : ∀ (l : List (Entry × Nat)), (∀ p ∈ l, p.1.ok) → ((l.flatMap fun p => pairsAt p.1 p.2).filter fun p => Txt.lower p.1 == Txt.lower (upName x)).map (fun p => D.str p.2) = ((l.filter fun p => decide (0 < p.1.at x)).map (·.2)).map fun i => D.str (V.numStr i) := by
    intro l
    induction l with
    | nil => intro _; rfl
    | cons p l ih =>
      intro h
      rw [List.flatMap_cons, List.filter_append, List.map_append, ih fun q hq => h q (List.mem_cons_of_mem _ hq), pairsAt_filter (h p (by simp)) _ hx, List.filter_cons]
      by_cases h0 : 0 < p.1.at x <;> simp [h0]
  unfold pairsOf placesOf
  rw [pairsOf_flat, List.nil_append]
  refine this _ fun p hp => hok _ ?_
  have h3 := (List.mem_zipIdx (x := p.1) (i := p.2) hp).2.2
  rw [h3]; exact List.getElem_mem _
theorem pairs_fine {es : List Entry} (hok : ∀ e ∈ es, e.ok) (hlen : es.length < 64) : ∀ p ∈ pairsOf es, Fine p.1 ∧ Fine p.2 := by
  intro p hp
  unfold pairsOf at hp
  rw [pairsOf_flat, List.nil_append, List.mem_flatMap] at hp
  obtain ⟨⟨e, i⟩, h1, h2⟩ := hp
  have hm := List.mem_zipIdx h1
  have he : e.ok := hok _ (by have h3 := hm.2.2; rw [h3]; exact List.getElem_mem _)
  unfold pairsAt at h2
  obtain ⟨k, h3, rfl⟩ := List.mem_map.mp h2
  have hk := List.mem_range.mp (List.mem_filter.mp h3).1
  exact ⟨fine_sgn _ _ (he k hk) hk, fine_num _ (by have := hm.2.1; omega)⟩
theorem pairs_len (es : List Entry) : (pairsOf es).length ≤ 4 * es.length := by
  have : ∀ (l : List (Entry × Nat)), (l.flatMap fun p => pairsAt p.1 p.2).length ≤ 4 * l.length := by
    intro l
    induction l with
    | nil => simp
    | cons p l ih => have := pairsAt_len p.1 p.2; simp only [List.flatMap_cons, List.length_append, List.length_cons]; lia
  unfold pairsOf
  rw [pairsOf_flat, List.nil_append]
  simpa using this es.zipIdx
theorem places_len (es : List Entry) (x : Nat) : (placesOf es x).length ≤ es.length := by
  unfold placesOf; rw [List.length_map]; exact Nat.le_trans (List.length_filter_le _ _) (by simp)
theorem places_lt {es : List Entry} {x i : Nat} (h : i ∈ placesOf es x) : ∃ e, es[i]? = some e ∧ 0 < e.at x := by
  obtain ⟨p, h1, rfl⟩ := List.mem_map.mp h
  obtain ⟨h2, h3⟩ := List.mem_filter.mp h1
  exact ⟨p.1, by rw [List.mem_zipIdx_iff_getElem?] at h2; exact h2, by simpa using h3⟩

noncomputable def wholeOf (v : Nat) : Nat := if v = 1 ∨ v = 2 then 1 else if v = 8 ∨ v = 16 then 8 else 0
/-- two clauses added -/
noncomputable def addE (o t : Entry) : Entry := ⟨wholeOf (t.a + o.a), wholeOf (t.b + o.b), wholeOf (t.c + o.c), wholeOf (t.d + o.d), addC o.callers t.callers, (o.tally.zip t.tally).map fun p => p.1 + p.2⟩
noncomputable def meets (o t : Entry) (x : Nat) : Bool := decide (o.at x < t.at x) && decide ((List.range 4).filter (fun k => t.at k + o.at k == 9) = [x])
noncomputable def madeStep (es : List Entry) (x i : Nat) (made : List Entry) (j : Nat) : List Entry := match es[i]?, es[j]? with
  | some o, some t => if meets o t x then made ++ [addE o t] else made
  | _, _ => made
noncomputable def madeRow (es : List Entry) (x : Nat) (made : List Entry) (i : Nat) : List Entry := (placesOf es x).foldl (madeStep es x i) made
noncomputable def madeOf (es : List Entry) (x : Nat) : List Entry := (placesOf es x).foldl (madeRow es x) []
theorem madeStep_len (es : List Entry) (x i : Nat) (made : List Entry) (j : Nat) : (madeStep es x i made j).length ≤ made.length + 1 := by
  unfold madeStep; split
  · split <;> simp
  · simp
end Mine
end
-- F12
section
open PySem PySem.W PyProof.Rows
set_option Elab.async false
set_option linter.all false
set_option maxRecDepth 100000
namespace Mine
variable {C : Cx} {n : Nat} {sc : Scope} {Γ Γ' Γ'' : Gam} {env : Env} {Pr : Addr → Obj → Prop} {U m : Addr → Prop} {ad : Str → Option Addr} {s s' s₁ : Shared} {A : Ads}
theorem natLt {a b : Nat} : decide ((a : Int) < (b : Int)) = decide (a < b) := by rw [decide_eq_decide]; omega
noncomputable def wholeD : D := .dictI [(0, .int 0), (1, .int 1), (2, .int 1), (8, .int 8), (9, .int 0), (16, .int 8)]
theorem Ev.numE {b i pos} {e : Entry} {k : Nat} (hb : Ev C n sc Γ b (dEntry e)) (hi : Ev C n sc Γ i (.int (k : Int))) (hk : k < 4) (hs : ∀ o j, subscripted i false o j = operate [o, j] (getItem o j) := by intro _ _; rfl) :
    Ev C n sc Γ (.Subscript b i pos) (.int (e.at k : Nat)) := by
  refine Ev.sub hb hi ?_
  rcases lt4 hk with rfl | rfl | rfl | rfl <;> exact V.itemT (by decide) (by decide) rfl hs
theorem Ev.ent {x xp i pos} {es : List Entry} {o : Entry} {k : Nat} (hx : Ev C n sc Γ (.Name x xp) (dEntries es)) (hi : Ev C n sc Γ i (.int (k : Int))) (ho : es[k]? = some o) (hk : k < 1000000) (hs : ∀ o j, subscripted i false o j = operate [o, j] (getItem o j) := by intro _ _; rfl) :
    Ev C n sc Γ (.Subscript (.Name x xp) i pos) (dEntry o) := Ev.sub hx hi (V.itemLM (f := dEntry) ho hk hs)
theorem V.whole {v i : Expr} {a b : Nat} (ha : a = 0 ∨ a = 1 ∨ a = 8) (hb : b = 0 ∨ b = 1 ∨ b = 8) (hs : ∀ o j, subscripted i false o j = operate [o, j] (getItem o j) := by intro _ _; rfl) :
    VOp2 C n (subscriptTail v i) wholeD (.int ((a + b : Nat) : Int)) (.int (wholeOf (a + b) : Nat)) := by
  rcases ha with rfl | rfl | rfl <;> rcases hb with rfl | rfl | rfl <;> exact V.itemDI (by rfl) hs

noncomputable def gT (es : List Entry) (x : Nat) (made : List Entry) : Gam := (Str.ofString "made", Slot.own (made.map dEntry)) :: (Str.ofString "places", Slot.d (.list (natsD (placesOf es x)))) :: (Str.ofString "whole", Slot.d wholeD) :: params ["entries", "letter"] [dEntries es, .int (x : Int)]
noncomputable def takenFor : List Stmt := match ((bodyOf 73)[3]? : Option Stmt) with
  | some (.For _ _ b _ _) => b
  | _ => []
noncomputable def takenIn : List Stmt := match (takenFor[0]? : Option Stmt) with
  | some (.For _ _ b _ _) => b
  | _ => []
noncomputable def totalD (o t : Entry) : D := dStats (t.a + o.a) (t.b + o.b) (t.c + o.c) (t.d + o.d) (addC o.callers t.callers)
theorem stats_take (e : Entry) : D.tup (([.int e.a, .int e.b, .int e.c, .int e.d, dCallers e.callers, .list (natsD e.tally)] : List D).take 5) = dStats e.a e.b e.c e.d e.callers := rfl
theorem Ev.cut5 {b lo hi spos pos} {e : Entry} (hb : Ev C n sc Γ b (dEntry e)) (hl : EvO C n sc Γ lo Option.none) (hh : EvO C n sc Γ hi (some ((5 : Nat) : Int))) : Ev C n sc Γ (.Subscript b (.Slice lo hi Option.none spos) pos) (dStats e.a e.b e.c e.d e.callers) := by
  rw [← stats_take]
  exact Ev.slice hb hl hh (V.sliceT (by simp) (by simp))

theorem taken_in (L : Lay C A) {es : List Entry} {x i j : Nat} {o t : Entry} {made : List Entry} (hx : x < 4) (hi : es[i]? = some o) (hj : es[j]? = some t) (hlen : es.length < 64) (ho : o.ok) (ht : t.ok) (hco : o.callers.length ≤ 100) (hct : t.callers.length ≤ 100) (hto : o.tally.length ≤ 10) (htt : t.tally.length ≤ 10) (hm : made.length ≤ 5000) :
    ExN C (n+3) (scOf 73) ((Str.ofString "two", Slot.d (.int (j : Int))) :: (Str.ofString "one", Slot.d (.int (i : Int))) :: gT es x made) takenIn ((Str.ofString "one", Slot.d (.int (i : Int))) :: gT es x (madeStep es x i made j)) := by
  have hi' : i < 1000000 := by have := (List.getElem?_eq_some_iff.mp hi).1; lia
  have hj' : j < 1000000 := by have := (List.getElem?_eq_some_iff.mp hj).1; lia
  have e1 : madeStep es x i made j = if meets o t x then made ++ [addE o t] else made := by unfold madeStep; rw [hi, hj]
  rw [e1]
  let Γ0 : Gam := (Str.ofString "two", Slot.d (.int (j : Int))) :: (Str.ofString "one", Slot.d (.int (i : Int))) :: gT es x made
  have sub0 : ∀ y sl, ((Str.ofString "one", Slot.d (.int (i : Int))) :: gT es x made : Gam).lookup y = some sl → Γ0.lookup y = some sl := sub_cons rfl fun _ _ h => h
  refine ExN.ofEx1 (Ex1.ite (c := decide (o.at x < t.at x)) (Tst.cast (Tst.cmp (Ev.numE (Ev.ent (Ev.name rfl) (Ev.name rfl) hi hi') (Ev.name rfl) hx) (Ev.numE (Ev.ent (Ev.name rfl) (Ev.name rfl) hj hj') (Ev.name rfl) hx) V.lt) natLt) (fun hc => ?_) (fun hc => ?_))
  · have hc : o.at x < t.at x := by simpa using hc
    refine ExN.cons (Ex1.assign (d := totalD o t) (Ev.call L.afs (L.glob rfl) (EvL.cons (Ev.cut5 (Ev.ent (Ev.name rfl) (Ev.name rfl) hi hi') EvO.none (EvO.some Ev.int)) (EvL.cons (Ev.cut5 (Ev.ent (Ev.name rfl) (Ev.name rfl) hj hj') EvO.none (EvO.some Ev.int)) EvL.nil)) (c_afs (n := n + 1) L hco hct))) ?_
    have tk : ∀ k : Nat, k < 4 → ∀ {Γ1 : Gam} {sc1 : Scope} {b ie pos}, Ev C (n+3) sc1 Γ1 b (totalD o t) → Ev C (n+3) sc1 Γ1 ie (.int (k : Int)) → (∀ o j, subscripted ie false o j = operate [o, j] (getItem o j)) → Ev C (n+3) sc1 Γ1 (.Subscript b ie pos) (.int ((t.at k + o.at k : Nat) : Int)) := by
      intro k hk Γ1 sc1 b ie pos h1 h2 h3
      refine Ev.sub h1 h2 ?_
      rcases lt4 hk with rfl | rfl | rfl | rfl <;> exact V.itemT (by decide) (by decide) rfl h3
    refine ExN.ofEx1 (Ex1.ite (c := decide ((List.range 4).filter (fun k => t.at k + o.at k == 9) = [x])) (Tst.cast (Tst.cmp (a := .list ((((List.range 4).filter (fun k => t.at k + o.at k == 9)).map fun (k : Nat) => (k : Int)).map .int)) (b := .list ([(x : Int)].map .int)) (Ev.cast (Ev.lc (LC.filN (List.range 4) (fun (k : Nat) => .int (k : Int)) (fun (k : Nat) => .int (k : Int)) (fun k => t.at k + o.at k == 9) [(Str.ofString "total", Slot.d (totalD o t))] (Src.range (Ev.glob rfl (L.glob rfl)) Ev.int (by decide) (by decide)) (allCons ⟨rfl, rfl, rfl⟩ allNil) ?_ ?_)) ?_) (Ev.list (EvL.cons (Ev.name rfl) EvL.nil)) V.eqInts) ?_) (fun hc2 => ?_) (fun hc2 => ?_))
    · intro k hk
      refine Tst.cast (Tst.cmp (tk k (List.mem_range.mp hk) (Ev.name rfl) (Ev.name rfl) (by intro _ _; rfl)) Ev.int V.eq) ?_
      rw [Bool.eq_iff_iff]; simp; lia
    · intro k _ _; exact Ev.name rfl
    · rw [List.map_map]; rfl
    · rw [decide_eq_decide]
      constructor
      · intro h
        have := congrArg (List.map Int.toNat) h
        simpa [List.map_map, Function.comp] using this
      · intro h; rw [h]; rfl
    · have hc2 : (List.range 4).filter (fun k => t.at k + o.at k == 9) = [x] := by simpa using hc2
      have hmeets : meets o t x = true := by simp [meets, hc, hc2]
      refine ExN.sub (ExN.cons (Ex1.lcL (LC.mapT [("x", _), ("y", _)] (o.tally.zip t.tally) (fun p => [.int (p.1 : Int), .int (p.2 : Int)]) (fun p => .int ((p.1 + p.2 : Nat) : Int)) [] (Src.cast (Src.zip (Ev.glob rfl (L.glob rfl)) (xs := natsD o.tally) (ys := natsD t.tally) (Ev.sub (Ev.ent (Ev.name rfl) (Ev.name rfl) hi hi') Ev.int (V.itemT (by decide) (by decide) rfl)) (Ev.sub (Ev.ent (Ev.name rfl) (Ev.name rfl) hj hj') Ev.int (V.itemT (by decide) (by decide) rfl))) ?_) allNil ?_ (hlen := by rw [List.length_zip]; lia)))
        (ExN.ofEx1 (Ex1.append (ds := made.map dEntry) (d := dEntry (addE o t)) rfl (Ev.tup (EvL.cons ?_ (EvL.cons ?_ (EvL.cons ?_ (EvL.cons ?_ (EvL.cons ?_ (EvL.cons ?_ EvL.nil))))))) (by simp; lia)))) ?_
      · unfold natsD; rw [List.zip_map, List.map_map]; rfl
      · intro p _; exact Ev.cast (by walk_at "ev") (by rfl)
      · refine Ev.sub (a := wholeD) (Ev.name rfl) (tk 0 (by decide) (Ev.name rfl) Ev.int (by intro _ _; rfl)) ?_; exact V.whole (ht 0 (by decide)) (ho 0 (by decide))
      · refine Ev.sub (a := wholeD) (Ev.name rfl) (tk 1 (by decide) (Ev.name rfl) Ev.int (by intro _ _; rfl)) ?_; exact V.whole (ht 1 (by decide)) (ho 1 (by decide))
      · refine Ev.sub (a := wholeD) (Ev.name rfl) (tk 2 (by decide) (Ev.name rfl) Ev.int (by intro _ _; rfl)) ?_; exact V.whole (ht 2 (by decide)) (ho 2 (by decide))
      · refine Ev.sub (a := wholeD) (Ev.name rfl) (tk 3 (by decide) (Ev.name rfl) Ev.int (by intro _ _; rfl)) ?_; exact V.whole (ht 3 (by decide)) (ho 3 (by decide))
      · exact Ev.sub (Ev.name rfl) Ev.int (V.itemT (by decide) (by decide) rfl)
      · refine Ev.cast (Ev.name rfl) ?_
        simp [addE, natsD]
      · rw [hmeets]
        refine subG (allCons rfl (allCons ?_ (allCons rfl (allCons rfl (allCons rfl (allCons rfl allNil))))))
        simp
    · have hc2 : ¬ (List.range 4).filter (fun k => t.at k + o.at k == 9) = [x] := by simpa using hc2
      have hmeets : meets o t x = false := by simp [meets, hc2]
      rw [hmeets]
      exact ExN.sub ExN.nil (subG (allCons rfl (allCons rfl (allCons rfl (allCons rfl (allCons rfl (allCons rfl allNil)))))))
  · have hc : ¬ o.at x < t.at x := by simpa using hc
    have hmeets : meets o t x = false := by simp [meets, hc]
    rw [hmeets]
    exact ExN.sub ExN.nil sub0
end Mine
end
-- F13
section
open PySem PySem.W PyProof.Rows
set_option Elab.async false
set_option linter.all false
set_option maxRecDepth 100000
namespace Mine
variable {C : Cx} {n : Nat} {sc : Scope} {Γ Γ' Γ'' : Gam} {env : Env} {Pr : Addr → Obj → Prop} {U m : Addr → Prop} {ad : Str → Option Addr} {s s' s₁ : Shared} {A : Ads}
noncomputable def EsOK (es : List Entry) : Prop := es.length < 64 ∧ ∀ e ∈ es, e.ok ∧ e.callers.length ≤ 100 ∧ e.tally.length ≤ 10

theorem ex_taken (L : Lay C A) {es : List Entry} {x : Nat} (hE : EsOK es) (hx : x < 4) (hm : (es ++ madeOf es x).length < 64) : ExTR C (n+6) (scOf 73) (params ["entries", "letter"] [dEntries es, .int (x : Int)]) (bodyOf 73) (LeastOf (es ++ madeOf es x)) := by
  obtain ⟨hlen, hes⟩ := hE
  obtain ⟨K, H⟩ := L.hdr
  have hok : ∀ e ∈ es, e.ok := fun e h => (hes e h).1
  have pf := pairs_fine hok hlen
  have pl := pairs_len es
  have ql := places_len es x
  refine ExTR.cons (Ex1.assign (d := wholeD) (Ev.dictI (l := [(0, .int 0), (1, .int 1), (2, .int 1), (8, .int 8), (9, .int 0), (16, .int 8)]) (by walk_at "ev"))) ?_
  refine ExTR.cons (Ex1.lcL (LC.mapN (placesOf es x) (fun i => .str (V.numStr i)) (fun i => .int (i : Int)) [] (Src.cast (Src.list (Ev.methH H (Ev.makeH (n := n+3) L H (Ev.call L.pairs (L.glob rfl) (EvL.cons (Ev.name rfl) EvL.nil) ((c_pairs (n := n) L (by lia) hok).le (by lia))) pf) (EvL.cons (d := .str (upName x)) (Ev.sub Ev.str (Ev.name rfl) ?_) EvL.nil) EvK.nil ((c_getAll (n := n) L H (by lia) ?_ (by show 1 ≤ 1000; decide) fun p hp => (pf p hp).1.1).le (by lia)) H.getAll (by simp))) ?_) allNil ?_ (hlen := by lia))) ?_
  · rcases lt4 hx with rfl | rfl | rfl | rfl <;> exact V.itemS (by decide) (by decide) rfl
  · rw [low_up x hx]; exact fine_low x hx
  · exact places_eq hok hx
  · intro i hi
    obtain ⟨e, he, _⟩ := places_lt hi
    have := (List.getElem?_eq_some_iff.mp he).1
    exact Ev.callT (Ev.glob rfl (L.glob rfl)) (EvL.cons (Ev.name rfl) EvL.nil) (V.intStr (by lia))
  refine ExTR.cons (Ex1.own (ds := []) EvL.nil) ?_
  have ent : ∀ i ∈ placesOf es x, ∃ o, es[i]? = some o ∧ o.ok ∧ o.callers.length ≤ 100 ∧ o.tally.length ≤ 10 := by
    intro i hi
    obtain ⟨e, he, _⟩ := places_lt hi
    exact ⟨e, he, hes e (List.mem_of_getElem? he)⟩
  have e0 : (placesOf es x).map (fun (i : Nat) => D.int (i : Int)) = natsD (placesOf es x) := rfl
  refine ExTR.cons (Ex1.foldN (H := false) (sc := scOf 73) (placesOf es x) (fun (i : Nat) => .int (i : Int)) (madeRow es x) [] (gT es x) (fun made (i : Nat) => (Str.ofString "one", Slot.d (.int (i : Int))) :: gT es x made) (fun i made => made.length ≤ 63 * i) (by simp) (Src.list (Ev.name rfl)) ?_ ?_ ?_) ?_
  · intro i made a hi ha h
    have : ∀ (l : List Nat) (k : List Entry), (l.foldl (madeStep es x a) k).length ≤ k.length + l.length := by
      intro l
      induction l with
      | nil => intro k; simp
      | cons j l ih => intro k; have := ih (madeStep es x a k j); have := madeStep_len es x a k j; simp only [List.foldl_cons, List.length_cons]; lia
    have := this (placesOf es x) made
    unfold madeRow; lia
  · intro i made a hi ha h; exact As.name
  · intro i made a hi ha h
    obtain ⟨o, ho, ho1, ho2, ho3⟩ := ent a ha
    refine ExN.sub (ExN.ofEx1 (Ex1.foldN (H := false) (sc := scOf 73) (placesOf es x) (fun (i : Nat) => .int (i : Int)) (madeStep es x a) made (fun made => (Str.ofString "one", Slot.d (.int (a : Int))) :: gT es x made) (fun made (j : Nat) => (Str.ofString "two", Slot.d (.int (j : Int))) :: (Str.ofString "one", Slot.d (.int (a : Int))) :: gT es x made) (fun j made' => made'.length ≤ made.length + j) (by simp) (Src.list (Ev.name rfl)) ?_ ?_ ?_)) (sub_cons rfl fun _ _ h => h)
    · intro j made' b hj hb h'
      have := madeStep_len es x a made' b; lia
    · intro j made' b hj hb h'; exact As.name
    · intro j made' b hj hb h'
      obtain ⟨t, ht, ht1, ht2, ht3⟩ := ent b hb
      exact taken_in (n := n+3) L hx ho ht hlen ho1 ht1 ho2 ht2 ho3 ht3 (by lia)
  · obtain ⟨fd, c, I, _⟩ := L.least
    obtain ⟨o, ho, hd⟩ := I.obj
    refine ExTR.retF (EvR.call ho hd (L.glob rfl) (EvL.cons (d := dEntries (es ++ madeOf es x)) (Ev.cast (Ev.bin (Ev.name rfl) (Ev.name rfl) (V.addL (xs := es.map dEntry) (ys := (madeOf es x).map dEntry) ?_)) ?_) EvL.nil) ((c_least (n := n) L hm).le (by lia)))
    · simp only [List.length_map]; rw [List.length_append] at hm; lia
    · rw [← List.map_append]; rfl
theorem c_taken (L : Lay C A) {es : List Entry} {x : Nat} (hE : EsOK es) (hx : x < 4) (hm : (es ++ madeOf es x).length < 64) : VCallR C (n+7) (.ref A.taken) [dEntries es, .int (x : Int)] (LeastOf (es ++ madeOf es x)) := VCallR.ofDef L.taken (ex_taken L hE hx hm)
end Mine
end
-- PcTok
section
open PySem PySem.W PyProof.Rows
set_option Elab.async false
set_option linter.all false
set_option maxRecDepth 100000
namespace Mine

theorem sliceIdx_over {a b len : Nat} (hb : len ≤ b) : Builtin.Str.strSliceIndices (some (a : Int)) (some (b : Int)) 1 len = Builtin.Str.strSliceIndices (some (a : Int)) (some (len : Int)) 1 len := by
  have e1 : min (b : Int) (len : Int) = min (len : Int) (len : Int) := by lia
  have h2 : ¬ ((b : Int) < 0) := by lia
  have h3 : ¬ ((len : Int) < 0) := by lia
  simp only [Builtin.Str.strSliceIndices, h2, h3, if_false, e1, show ((1 : Int) > 0) = True from by simp, if_true]
theorem slice_eq (x : Str) {a b : Nat} (hab : a ≤ b) (ha : a ≤ x.cps.size) : Txt.slice x (some (a : Int)) (some (b : Int)) = ⟨((x.cps.toList.drop a).take (b - a)).toArray⟩ := by
  have main : ∀ b : Nat, a ≤ b → b ≤ x.cps.size → Txt.slice x (some (a : Int)) (some (b : Int)) = ⟨((x.cps.toList.drop a).take (b - a)).toArray⟩ := by
    intro b hab hb
    unfold Txt.slice
    have h := StrLaws.sliced_plain x hab (show b ≤ x.length from hb)
    split
    · rename_i hc
      have hc : (Builtin.Str.strSliceIndices (some (a : Int)) (some (b : Int)) 1 x.length).length = x.length := by simpa using hc
      rw [StrLaws.strSliceIndices_plain (len := x.length) hab hb] at hc
      simp only [List.length_map, List.length_range] at hc
      have : x.length = x.cps.size := rfl
      have ha0 : a = 0 := by omega
      have hbl : b = x.cps.size := by omega
      subst ha0 hbl
      simp
      rw [List.take_of_length_le (by simp)]
    · rw [h]
  by_cases hb : b ≤ x.cps.size
  · exact main b hab hb
  · have e : Txt.slice x (some (a : Int)) (some (b : Int)) = Txt.slice x (some (a : Int)) (some (x.cps.size : Int)) := by
      unfold Txt.slice
      have := sliceIdx_over (a := a) (b := b) (len := x.length) (by show x.cps.size ≤ b; omega)
      rw [this]; rfl
    rw [e, main _ ha (Nat.le_refl _)]
    congr 2
    rw [List.take_of_length_le (by simp), List.take_of_length_le (by simp; omega)]

/-- a sign of the text -/
inductive Pc where
  | neg
  | semi
  | ltr (g l : Nat)
  | op (i : Nat)
namespace Pc
noncomputable def cps : Pc → List Nat
  | neg => [126]
  | semi => [59]
  | ltr g l => [chrOf g l]
  | op i => (deeds.getD i "").cps.toList
noncomputable def opTok : List Nat := [18, 20, 21, 27, 28, 29, 30, 51]
noncomputable def tok : Pc → Nat
  | neg => 31
  | semi => 13
  | ltr _ l => 256 + l
  | op i => opTok.getD i 0
noncomputable def wf : Pc → Prop
  | ltr g l => g < 2 ∧ l < 4
  | op i => i < 8
  | _ => True
noncomputable def isL : Pc → Bool
  | ltr _ _ => true
  | _ => false
noncomputable def starter : Pc → Bool
  | ltr _ _ => true
  | neg => true
  | _ => false
end Pc
noncomputable def Chain : List Pc → Prop
  | [] => True
  | [p] => p.isL = true
  | p :: q :: r => (p.isL = true ∨ q.starter = true) ∧ Chain (q :: r)
noncomputable def flat (ps : List Pc) : List Nat := ps.flatMap Pc.cps
noncomputable def keyL (cs : List Nat) : Bool := decide ((⟨cs.toArray⟩ : Str) ∈ exactL.map (·.1))
noncomputable def letterC (c : Nat) : Bool := (97 ≤ c && c ≤ 100) || (65 ≤ c && c ≤ 68)
noncomputable def plainC (c : Nat) : Bool := letterC c || c == 126 || c == 59
theorem keys_plain : ∀ k ∈ exactL.map (·.1), 2 ≤ k.cps.size → ∀ c ∈ k.cps.toList, plainC c = false := by decide +kernel
theorem keys_letter : ∀ k ∈ exactL.map (·.1), ∀ c ∈ k.cps.toList, letterC c = false := by decide +kernel
theorem notKey {cs : List Nat} {c : Nat} (hc : c ∈ cs) (h : (plainC c = true ∧ 2 ≤ cs.length) ∨ letterC c = true) : keyL cs = false := by
  unfold keyL
  rw [decide_eq_false_iff_not]
  intro hk
  rcases h with ⟨h1, h2⟩ | h
  · have := keys_plain _ hk (by simpa using h2) c (by simpa using hc)
    rw [h1] at this; cases this
  · have := keys_letter _ hk c (by simpa using hc)
    rw [h] at this; cases this
theorem letter_chr {g l : Nat} (hg : g < 2) (hl : l < 4) : letterC (chrOf g l) = true := by
  rcases (show g = 0 ∨ g = 1 by lia) with rfl | rfl <;> rcases lt4 hl with rfl | rfl | rfl | rfl <;> rfl
theorem starter_head {q : Pc} (hq : q.wf) (hs : q.starter = true) : ∃ c, q.cps = [c] ∧ plainC c = true := by
  cases q with
  | neg => exact ⟨126, rfl, rfl⟩
  | ltr g l => exact ⟨_, rfl, by simp [plainC, letter_chr hq.1 hq.2]⟩
  | semi => cases hs
  | op i => cases hs

/-- one step of the reading -/
structure StepOK (p : Pc) (R : List Nat) : Prop where
  two : keyL (R.take 2) = (p.cps.length == 2)
  three : keyL (R.take 3) = false
  one : R.take p.cps.length = p.cps
  len : p.cps.length = 1 ∨ p.cps.length = 2
  key : keyL p.cps = !p.isL

theorem step_ok {p : Pc} {r : List Pc} (hw : ∀ q ∈ p :: r, q.wf) (hc : Chain (p :: r)) : StepOK p (flat (p :: r)) := by
  have hp : p.wf := hw p (by simp)
  have e : flat (p :: r) = p.cps ++ flat r := by simp [flat]
  rw [e]
  cases hpl : p.isL with
  | true =>
    cases p with
    | ltr g l =>
      have hl := letter_chr hp.1 hp.2
      exact ⟨notKey (c := chrOf g l) (by simp [Pc.cps]) (.inr hl), notKey (c := chrOf g l) (by simp [Pc.cps]) (.inr hl), by simp [Pc.cps], .inl rfl, notKey (c := chrOf g l) (by simp [Pc.cps]) (.inr hl)⟩
    | neg => cases hpl
    | semi => cases hpl
    | op i => cases hpl
  | false =>
    obtain ⟨q, r', rfl⟩ : ∃ q r', r = q :: r' := by
      cases r with
      | nil => simp only [Chain] at hc; rw [hpl] at hc; cases hc
      | cons q r' => exact ⟨q, r', rfl⟩
    have hs : q.starter = true := by
      have := hc.1
      rw [hpl] at this
      rcases this with h | h
      · cases h
      · exact h
    obtain ⟨c, hqc, hcp⟩ := starter_head (hw q (by simp)) hs
    have ef : flat (q :: r') = c :: flat r' := by simp [flat, hqc]
    rw [ef]
    have hpp : plainC 126 = true ∧ plainC 59 = true := ⟨rfl, rfl⟩
    cases p with
    | ltr g l => cases hpl
    | neg =>
      refine ⟨notKey (c := 126) (by simp [Pc.cps]) (.inl ⟨rfl, by simp [Pc.cps]⟩), notKey (c := 126) (by simp [Pc.cps]) (.inl ⟨rfl, by simp [Pc.cps]⟩), rfl, .inl rfl, ?_⟩
      decide +kernel
    | semi =>
      refine ⟨notKey (c := 59) (by simp [Pc.cps]) (.inl ⟨rfl, by simp [Pc.cps]⟩), notKey (c := 59) (by simp [Pc.cps]) (.inl ⟨rfl, by simp [Pc.cps]⟩), rfl, .inl rfl, ?_⟩
      decide +kernel
    | op i =>
      have hk : keyL (Pc.op i).cps = true := by
        rcases lt8 hp with rfl | rfl | rfl | rfl | rfl | rfl | rfl | rfl <;> decide +kernel
      have hlen : (Pc.op i).cps.length = 1 ∨ (Pc.op i).cps.length = 2 := by
        rcases lt8 hp with rfl | rfl | rfl | rfl | rfl | rfl | rfl | rfl <;> first | exact .inl rfl | exact .inr rfl
      rcases hlen with h1 | h2
      · obtain ⟨a, hcs⟩ : ∃ a, (Pc.op i).cps = [a] := List.length_eq_one_iff.mp h1
        refine ⟨?_, ?_, by rw [hcs]; rfl, .inl h1, by rw [hk]; rfl⟩
        · rw [hcs]; exact notKey (c := c) (by simp) (.inl ⟨hcp, by simp⟩)
        · rw [hcs]; exact notKey (c := c) (by simp) (.inl ⟨hcp, by simp⟩)
      · obtain ⟨a, b, hcs⟩ : ∃ a b, (Pc.op i).cps = [a, b] := twoOf h2
        refine ⟨?_, ?_, by rw [hcs]; rfl, .inr h2, by rw [hk]; rfl⟩
        · rw [hcs] at hk ⊢; exact hk
        · rw [hcs]; exact notKey (c := c) (by simp) (.inl ⟨hcp, by simp⟩)
theorem tok_find {p : Pc} (hp : p.wf) (hl : p.isL = false) : ((exactL.map fun q => (q.1, D.int (q.2 : Nat))).find? fun q => q.1 = (⟨p.cps.toArray⟩ : Str)).map (·.2) = some (.int (p.tok : Nat)) := by
  have key : (exactL.find? fun q => q.1 = (⟨p.cps.toArray⟩ : Str)).map (·.2) = some p.tok := by
    cases p with
    | ltr g l => cases hl
    | neg => decide +kernel
    | semi => decide +kernel
    | op i => rcases lt8 hp with rfl | rfl | rfl | rfl | rfl | rfl | rfl | rfl <;> decide +kernel
  rw [List.find?_map, Option.map_map]
  cases hf : exactL.find? fun q => q.1 = (⟨p.cps.toArray⟩ : Str) with
  | none => rw [hf] at key; cases key
  | some y =>
    rw [hf] at key
    have : y.2 = p.tok := by simpa using key
    have e : List.find? ((fun q : Str × D => decide (q.1 = (⟨p.cps.toArray⟩ : Str))) ∘ fun q : Str × Nat => (q.1, D.int (q.2 : Nat))) exactL = some y := hf
    rw [e]; simp [this]
end Mine
end
-- F14
section
open PySem PySem.W PyProof.Rows
set_option Elab.async false
set_option linter.all false
set_option maxRecDepth 100000
namespace Mine
variable {C : Cx} {n : Nat} {sc : Scope} {Γ Γ' Γ'' : Gam} {env : Env} {Pr : Addr → Obj → Prop} {U m : Addr → Prop} {ad : Str → Option Addr} {s s' s₁ : Shared} {A : Ads}
noncomputable def exactD : List (Str × D) := exactL.map fun q => (q.1, D.int (q.2 : Nat))
theorem Ev.exact (L : Lay C A) {pos} (hk : sc.names.lookup (Str.ofString "EXACT_TOKEN_TYPES") = some .globalImplicit := by rfl) : Ev C n sc Γ (.Name "EXACT_TOKEN_TYPES" pos) (.dictS exactD) := .mk fun env A₁ Pr U ad s R F => by
  obtain ⟨o, kvs, h1, h2, h3, h4, h5⟩ := L.exact_
  refine wpAny_after ((Ev.glob (C := C) (n := n) (v := .ref A.exact_) hk (L.glob (by rfl))).run env A₁ Pr U ad s R F) fun v s₁ ⟨st, r⟩ => ⟨st, ?_⟩
  cases r using Rep.caseRaw
  have F₁ := F.step st
  refine .dictS ⟨F₁.gs.base _ _ h1, F₁.pt.ubase _ _ h1⟩ h2 ?_ ?_ h5
  · rw [h3]; simp [exactD]
  · have := h4 (vw s₁.heap (mu U sc env ad))
    unfold exactD; rw [List.map_map]; exact this
theorem inExact {cs : List Nat} : decide ((⟨cs.toArray⟩ : Str) ∈ exactD.map (·.1)) = keyL cs := by
  have : exactD.map (·.1) = exactL.map (·.1) := by simp [exactD]
  unfold keyL; rw [this]

noncomputable def namesL : Hs := [("b", "1"), ("D", "3"), ("a", "0"), ("C", "2")]
theorem names_get (L : Lay C A) {K : Frag} (H : HdrOK C A K) {g l : Nat} (hg : g < 2) (hl : l < 4) : VKCall C (n+2) (.ref A.hGet) [hdrD namesL, .str ⟨#[chrOf g l]⟩] [] [] (.str (V.numStr l)) := by
  have fin : ∀ p ∈ namesL, p.1.cps.size ≤ 1000 := by decide
  rcases (show g = 0 ∨ g = 1 by lia) with rfl | rfl <;> rcases lt4 hl with rfl | rfl | rfl | rfl
  · exact c_get L H (j := 2) (p := ("a", "0")) rfl (by decide +kernel) (fun i q hi hq => by rcases (show i = 0 ∨ i = 1 by lia) with rfl | rfl <;> (cases hq; decide +kernel)) (show Fine _ from ⟨by decide +kernel, by decide +kernel, by decide +kernel⟩) (by decide) fin
  · exact c_get L H (j := 0) (p := ("b", "1")) rfl (by decide +kernel) (fun i q hi hq => by lia) (show Fine _ from ⟨by decide +kernel, by decide +kernel, by decide +kernel⟩) (by decide) fin
  · exact c_get L H (j := 3) (p := ("C", "2")) rfl (by decide +kernel) (fun i q hi hq => by rcases (show i = 0 ∨ i = 1 ∨ i = 2 by lia) with rfl | rfl | rfl <;> (cases hq; decide +kernel)) (show Fine _ from ⟨by decide +kernel, by decide +kernel, by decide +kernel⟩) (by decide) fin
  · exact c_get L H (j := 1) (p := ("D", "3")) rfl (by decide +kernel) (fun i q hi hq => by rcases (show i = 0 by lia) with rfl; (cases hq; decide +kernel)) (show Fine _ from ⟨by decide +kernel, by decide +kernel, by decide +kernel⟩) (by decide) fin
  · exact c_get L H (j := 2) (p := ("a", "0")) rfl (by decide +kernel) (fun i q hi hq => by rcases (show i = 0 ∨ i = 1 by lia) with rfl | rfl <;> (cases hq; decide +kernel)) (show Fine _ from ⟨by decide +kernel, by decide +kernel, by decide +kernel⟩) (by decide) fin
  · exact c_get L H (j := 0) (p := ("b", "1")) rfl (by decide +kernel) (fun i q hi hq => by lia) (show Fine _ from ⟨by decide +kernel, by decide +kernel, by decide +kernel⟩) (by decide) fin
  · exact c_get L H (j := 3) (p := ("C", "2")) rfl (by decide +kernel) (fun i q hi hq => by rcases (show i = 0 ∨ i = 1 ∨ i = 2 by lia) with rfl | rfl | rfl <;> (cases hq; decide +kernel)) (show Fine _ from ⟨by decide +kernel, by decide +kernel, by decide +kernel⟩) (by decide) fin
  · exact c_get L H (j := 1) (p := ("D", "3")) rfl (by decide +kernel) (fun i q hi hq => by rcases (show i = 0 by lia) with rfl; (cases hq; decide +kernel)) (show Fine _ from ⟨by decide +kernel, by decide +kernel, by decide +kernel⟩) (by decide) fin

noncomputable def offs (ps : List Pc) (i : Nat) : Nat := (flat (ps.take i)).length
noncomputable def gSy (text : Str) (ps : List Pc) (i : Nat) : Gam := (Str.ofString "at", Slot.d (.int (offs ps i : Nat))) :: (Str.ofString "symbols", Slot.own (natsD ((ps.take i).map Pc.tok))) :: params ["text", "names"] [.str text, hdrD namesL]
noncomputable def symBody : List Stmt := match ((bodyOf 69)[2]? : Option Stmt) with
  | some (.While _ b _ _) => b
  | _ => []

theorem Ev.cut (L : Lay C A) {text : Str} {a k : Nat} {tx txp ax axp kx spos pos ax2p} {bpos : Pos} (h1 : Γ.lookup tx = some (.d (.str text))) (h2 : Γ.lookup ax = some (.d (.int (a : Int)))) (h3 : Ev C n sc Γ kx (.int (k : Int))) (ha : a ≤ text.cps.size) (hz : text.cps.size ≤ 1000)
    (d1 : (tx == ("__debug__" : Str)) = false := by decide) (d2 : (ax == ("__debug__" : Str)) = false := by decide) :
    Ev C n sc Γ (.Subscript (.Name tx txp) (.Slice (some (.Name ax axp)) (some (.BinOp (.Name ax ax2p) .Add kx bpos)) Option.none spos) pos) (.str ⟨((text.cps.toList.drop a).take k).toArray⟩) := by
  refine Ev.cast (Ev.slice (Ev.name h1 d1) (EvO.some (Ev.name h2 d2)) (EvO.some (Ev.bin (Ev.name h2 d2) h3 V.addN)) (V.sliceS (by show text.cps.size ≤ _; lia))) ?_
  rw [slice_eq text (by lia) ha]
  congr 4; lia

theorem sym_body (L : Lay C A) {K : Frag} (H : HdrOK C A K) {text : Str} {ps : List Pc} (ht : text.cps.toList = flat ps) (hw : ∀ q ∈ ps, q.wf) (hc : Chain ps) (hz : text.cps.size ≤ 1000) {i : Nat} (hi : i < ps.length) :
    ExN C (n+2) (scOf 69) (gSy text ps i) symBody (gSy text ps (i+1)) := by
  obtain ⟨nt, hnt⟩ := L.nt
  obtain ⟨p, r, hpr⟩ : ∃ p r, ps.drop i = p :: r := ⟨ps[i], ps.drop (i+1), List.drop_eq_getElem_cons hi⟩
  have hcd : ∀ (k : Nat) (l : List Pc), Chain l → Chain (l.drop k) := by
    intro k
    induction k with
    | zero => intro l h; simpa using h
    | succ k ih =>
      intro l h
      match l with
      | [] => simpa using h
      | [a] => simp [Chain]
      | a :: b :: l => simpa using ih (b :: l) h.2
  have so : StepOK p (flat (p :: r)) := step_ok (fun q hq => hw q (List.mem_of_mem_drop (i := i) (hpr ▸ hq))) (hpr ▸ hcd i ps hc)
  have hpw : p.wf := hw p (List.mem_of_mem_drop (i := i) (hpr ▸ List.mem_cons_self))
  have hflat : flat ps = flat (ps.take i) ++ flat (ps.drop i) := by rw [flat, flat, flat, ← List.flatMap_append, List.take_append_drop]
  have hdrop : text.cps.toList.drop (offs ps i) = flat (p :: r) := by rw [ht, hflat, offs, List.drop_left, hpr]
  have ha : offs ps i ≤ text.cps.size := by
    rw [← Array.length_toList, ht, hflat, List.length_append, offs]; lia
  have htake : ps.take (i+1) = ps.take i ++ [p] := by
    rw [List.take_add_one]
    have : ps[i]? = some p := by
      have := congrArg List.head? hpr
      simpa [List.head?_drop] using this
    rw [this]; rfl
  have hoff : offs ps (i+1) = offs ps i + p.cps.length := by
    unfold offs; rw [htake]; simp [flat]
  let Γ1 : Gam := (Str.ofString "size", Slot.d (.int (p.cps.length : Nat))) :: gSy text ps i
  refine ExN.cons (Ex1.assign (d := .int (p.cps.length : Nat)) (Ev.callB (Ev.glob rfl (L.glob rfl)) (EvL.cons (Ev.cast (Ev.bin (Ev.list (EvL.cons Ev.int EvL.nil)) (Ev.lc (LC.filN [2, 3] (fun (k : Nat) => .int (k : Int)) (fun (k : Nat) => .int (k : Int)) (fun k => keyL ((flat (p :: r)).take k)) [(Str.ofString "at", Slot.d (.int (offs ps i : Nat))), (Str.ofString "text", Slot.d (.str text))] (Src.tup (Ev.cast (by walk_at "ev") (by rfl))) (allCons ⟨rfl, rfl, rfl⟩ (allCons ⟨rfl, rfl, rfl⟩ allNil)) ?_ ?_)) (V.addL ?_)) (d' := .list (((1 :: ([2, 3].filter fun k => keyL ((flat (p :: r)).take k))).map fun (k : Nat) => (k : Int)).map .int)) ?_) EvL.nil) (V.max ?_ ?_))) ?_
  · intro k hk
    refine Tst.cast (Tst.cmp (Ev.cut L (k := k) rfl rfl (Ev.name rfl) ha hz) (Ev.exact L) V.inDS) ?_
    rw [inExact, hdrop]
  · intro k _ _; exact Ev.name rfl
  · simp only [List.length_cons, List.length_nil, List.length_map]
    have := List.length_filter_le (fun k => keyL ((flat (p :: r)).take k)) [2, 3]
    simp only [List.length_cons, List.length_nil] at this; lia
  · simp
  · simp only [List.filter_cons, so.two, so.three, List.filter_nil]
    rcases so.len with h | h <;> rw [h] <;> simp
  · simp only [List.filter_cons, so.two, so.three, List.filter_nil]
    rcases so.len with h | h <;> rw [h] <;> simp
  refine ExN.cons (Ex1.assign (d := .str ⟨p.cps.toArray⟩) (Ev.cast (Ev.cut L (k := p.cps.length) rfl rfl (Ev.name rfl) ha hz) ?_)) ?_
  · rw [hdrop, so.one]
  have hsub : (ps.take i).length ≤ 1000 := by
    have : (ps.take i).length ≤ offs ps i := by
      have : ∀ l : List Pc, (∀ q ∈ l, q.wf) → l.length ≤ (flat l).length := by
        intro l
        induction l with
        | nil => intro _; simp
        | cons q l ih =>
          intro h
          have h1 := ih fun x hx => h x (List.mem_cons_of_mem _ hx)
          have h2 : 1 ≤ q.cps.length := by
            have hq := h q (by simp)
            cases q with
            | op i => rcases lt8 hq with rfl | rfl | rfl | rfl | rfl | rfl | rfl | rfl <;> decide
            | _ => exact Nat.le_refl _
          simp only [flat, List.flatMap_cons, List.length_append, List.length_cons] at h1 ⊢; lia
      exact this _ fun q hq => hw q (List.mem_of_mem_take hq)
    lia
  have esym : natsD ((ps.take i).map Pc.tok) ++ [.int (p.tok : Nat)] = natsD ((ps.take (i+1)).map Pc.tok) := by rw [htake]; simp [natsD]
  refine ExN.cons (Γ' := ((Str.ofString "symbols", Slot.own (natsD ((ps.take (i+1)).map Pc.tok))) :: (Str.ofString "piece", Slot.d (.str ⟨p.cps.toArray⟩)) :: Γ1)) (Ex1.ite (c := !p.isL) (Tst.cast (Tst.cmp (Ev.name rfl) (Ev.exact L) V.inDS) (by rw [inExact, so.key])) (fun hc => ?_) (fun hc => ?_)) ?_
  · have hl : p.isL = false := by simpa using hc
    rw [← esym]
    exact ExN.ofEx1 (Ex1.append (d := .int (p.tok : Nat)) rfl (Ev.sub (Ev.exact L) (Ev.name rfl) (V.itemDS (tok_find hpw hl))) (by rw [natsD, List.length_map, List.length_map]; lia))
  · have hl : p.isL = true := by simpa using hc
    obtain ⟨g, l, rfl⟩ : ∃ g l, p = .ltr g l := by
      cases p with
      | ltr g l => exact ⟨g, l, rfl⟩
      | _ => cases hl
    rw [← esym]
    refine ExN.ofEx1 (Ex1.append (d := .int ((256 + l : Nat) : Int)) rfl (Ev.cast (Ev.bin (Ev.globInt rfl hnt) (Ev.callT (Ev.glob rfl (L.glob rfl)) (EvL.cons (Ev.methH H (Ev.name rfl) (EvL.cons (Ev.name rfl) EvL.nil) EvK.nil (names_get L H hpw.1 hpw.2) H.get (by simp)) EvL.nil) (V.intStr (by have := hpw.2; lia))) V.add) ?_) (by rw [natsD, List.length_map, List.length_map]; lia))
    simp
  · refine ExN.sub (ExN.ofEx1 (Ex1.aug rfl (Ev.name rfl) V.iaddN)) (subG (allCons ?_ (allCons rfl (allCons rfl (allCons rfl allNil)))))
    rw [hoff]; rfl

theorem ex_symbols (L : Lay C A) {text : Str} {ps : List Pc} (ht : text.cps.toList = flat ps) (hw : ∀ q ∈ ps, q.wf) (hc : Chain ps) (hz : text.cps.size ≤ 1000) :
    ExT C (n+2) (scOf 69) (params ["text", "names"] [.str text, hdrD namesL]) (bodyOf 69) (.list (natsD (ps.map Pc.tok ++ [0]))) := by
  obtain ⟨K, H⟩ := L.hdr
  obtain ⟨et, het⟩ := L.em
  have hlen1 : ∀ q ∈ ps, 1 ≤ q.cps.length := by
    intro q hq
    have hq := hw q hq
    cases q with
    | op i => rcases lt8 hq with rfl | rfl | rfl | rfl | rfl | rfl | rfl | rfl <;> decide
    | _ => exact Nat.le_refl _
  have hall : text.cps.size = (flat ps).length := by rw [← Array.length_toList, ht]
  have hpl : ps.length ≤ 1000 := by
    have : ∀ l : List Pc, (∀ q ∈ l, 1 ≤ q.cps.length) → l.length ≤ (flat l).length := by
      intro l
      induction l with
      | nil => intro _; simp
      | cons q l ih =>
        intro h
        have h1 := ih fun x hx => h x (List.mem_cons_of_mem _ hx)
        have h2 := h q (by simp)
        simp only [flat, List.flatMap_cons, List.length_append, List.length_cons] at h1 ⊢; lia
    have := this ps hlen1
    lia
  have hlt : ∀ i, i < ps.length → offs ps i < text.cps.size := by
    intro i hi
    have hd : ps.drop i = ps[i] :: ps.drop (i+1) := List.drop_eq_getElem_cons hi
    have hflat : flat ps = flat (ps.take i) ++ flat (ps.drop i) := by rw [flat, flat, flat, ← List.flatMap_append, List.take_append_drop]
    have := hlen1 ps[i] (List.getElem_mem hi)
    rw [hall, hflat, hd, List.length_append, offs]
    simp only [flat, List.flatMap_cons, List.length_append]; lia
  refine ExT.cons (Ex1.own (ds := []) EvL.nil) (ExT.cons (Ex1.assign (d := .int ((0 : Nat) : Int)) (by walk_at "ev")) (ExT.cons (Ex1.while ps.length (gSy text ps) (by simp [gSy, offs, flat, natsD]) ?_ ?_ ?_) ?_))
  · intro i hi
    refine Tst.cast (Tst.cmp (Ev.name rfl) (Ev.callB (Ev.glob rfl (L.glob rfl)) (EvL.cons (Ev.name rfl) EvL.nil) (V.lenS (by show text.cps.size ≤ _; lia))) V.lt) ?_
    rw [show ((text.length : Nat) : Int) = ((text.cps.size : Nat) : Int) from rfl, natLt, decide_eq_true_eq]
    exact hlt i hi
  · refine Tst.cast (Tst.cmp (Ev.name rfl) (Ev.callB (Ev.glob rfl (L.glob rfl)) (EvL.cons (Ev.name rfl) EvL.nil) (V.lenS (by show text.cps.size ≤ _; lia))) V.lt) ?_
    rw [show ((text.length : Nat) : Int) = ((text.cps.size : Nat) : Int) from rfl, natLt, decide_eq_false_iff_not, hall, offs, List.take_of_length_le (Nat.le_refl _)]
    lia
  · intro i hi
    exact sym_body L H ht hw hc hz hi
  · refine ExT.retF (Ev.cast (Ev.bin (a := .list (natsD ((ps.take ps.length).map Pc.tok))) (Ev.name rfl) (Ev.list (EvL.cons (Ev.globInt rfl het) EvL.nil)) (V.addL (by simp [natsD]; lia))) ?_)
    rw [List.take_of_length_le (Nat.le_refl _)]
    simp [natsD]
theorem c_symbols (L : Lay C A) {text : Str} {ps : List Pc} (ht : text.cps.toList = flat ps) (hw : ∀ q ∈ ps, q.wf) (hc : Chain ps) (hz : text.cps.size ≤ 1000) :
    VCall C (n+3) (.ref A.symbols) [.str text, hdrD namesL] (.list (natsD (ps.map Pc.tok ++ [0]))) := VCall.ofDef L.symbols (ex_symbols L ht hw hc hz)
end Mine
end
-- F15
section
open PySem PySem.W PyProof.Rows
set_option Elab.async false
set_option linter.all false
set_option maxRecDepth 100000
namespace Mine
variable {C : Cx} {n : Nat} {sc : Scope} {Γ Γ' Γ'' : Gam} {env : Env} {Pr : Addr → Obj → Prop} {U m : Addr → Prop} {ad : Str → Option Addr} {s s' s₁ : Shared} {A : Ads}
theorem FSa.frz1 (F : FSa C sc env Pr U Γ ad s) {x : Str} {ds : List D} (hx : Γ.lookup x = some (.own ds)) : FSa C sc env Pr U ((x, .d (.list ds)) :: Γ) (upd ad x none) s := by
  have hsub : ∀ y a, upd ad x none y = some a → ad y = some a ∧ y ≠ x := fun y a h => by
    unfold upd at h
    split at h
    · cases h
    · exact ⟨h, by assumption⟩
  have hfoot : ∀ a, Foot sc env (upd ad x none) a → Foot sc env ad a := fun a h => h.imp id fun h => h.imp id fun ⟨y, hy⟩ => ⟨y, (hsub y a hy).1⟩
  have hm : ∀ a, mu U sc env (upd ad x none) a → mu U sc env ad a := fun a h => h.imp id (hfoot a)
  refine ⟨F.gs, F.ev, F.pr, fun a h => F.foot a (hfoot a h), F.prD, F.ns, F.cell, F.free, F.apart, F.nl, F.cdom, ?_, ?_⟩
  · intro y sl hy
    rw [List.lookup_cons] at hy
    by_cases hxy : y = x
    · subst hxy
      simp only [beq_self_eq_true, Option.some.injEq] at hy
      subst hy
      obtain ⟨v, hv, a, vs, k, rfl, ha, hg, hr⟩ := F.vars y _ hx
      refine ⟨_, hv, Rep.list (o := seqObj "list" vs k) ⟨hg, ?_⟩ rfl rfl (hr.mono (vw_anti hm)) ⟨rfl, rfl⟩⟩
      obtain ⟨o1, o2, o3, _⟩ := F.own y a ha
      rintro (h | rfl | ⟨z, hz, hc⟩ | ⟨z, hz⟩)
      · exact (F.foot a (.inr (.inr ⟨y, ha⟩))).2.2.2.2 h
      · exact o1 rfl
      · exact o2 z a hc rfl
      · have := hsub z a hz
        exact this.2 (o3 z this.1)
    · have : (y == x) = false := by simpa using hxy
      rw [this] at hy
      obtain ⟨v, hv, hs⟩ := F.vars y sl hy
      refine ⟨v, hv, ?_⟩
      have ha' : upd ad x none y = ad y := by unfold upd; rw [if_neg hxy]
      exact hs.map (vw_anti hm) (fun _ e => ha'.trans e) (fun _ _ _ e => e)
  · intro y a hy
    obtain ⟨hy', hne⟩ := hsub y a hy
    obtain ⟨h1, h2, h3, sl, h4, h5⟩ := F.own y a hy'
    refine ⟨h1, h2, fun z hz => h3 z (hsub z a hz).1, sl, ?_, h5⟩
    rw [List.lookup_cons]
    have : (y == x) = false := by simpa using hne
    rw [this]; exact h4
theorem ExN.frz {x ds ss} (hx : Γ.lookup x = some (.own ds)) (h : ExN C n sc ((x, .d (.list ds)) :: Γ) ss Γ') : ExN C n sc Γ ss Γ' := .mk fun env A Pr U ad s R F => h.run env A Pr U _ s R (F.frz1 hx)
theorem Tst.or2 {e1 e2 pos} {b1 b2 : Bool} (h1 : Tst C n sc Γ e1 b1) (h2 : b1 = false → Tst C n sc Γ e2 b2) : Tst C n sc Γ (.BoolOp .Or [e1, e2] pos) (b1 || b2) := .mk fun env A Pr U ad s R F =>
  isTrue_or (wpAny_after (h1.run env A Pr U ad s R F) fun c s₁ ⟨st, e⟩ => by
    subst e
    cases c with
    | true => exact ⟨st, rfl⟩
    | false => exact isTrue_or (wpAny_after ((h2 rfl).run env A Pr U ad s₁ R (F.step st)) fun c s₂ ⟨st₂, e⟩ => by
        subst e
        cases c with
        | true => exact ⟨st.trans st₂, rfl⟩
        | false => exact isTrue_or_nil ⟨st.trans st₂, rfl⟩))

abbrev Row2 := List (Nat × Nat)
noncomputable def dR (r : Row2) : List D := r.map fun x => .tup [.int x.1, .int x.2]
noncomputable def brokenT : List (Nat × List (Nat × Nat)) := [(18, [(0, 0)]), (20, [(0, 0), (1, 0), (1, 1)]), (21, [(0, 0), (0, 1), (1, 1)]), (27, [(0, 1), (1, 0)]), (28, [(0, 0), (1, 1)]), (29, [(1, 0)]), (30, [(0, 1)]), (51, [(1, 0)])]
noncomputable def brokenL : List (Int × D) := brokenT.map fun p => ((p.1 : Int), .tup (dR p.2))
noncomputable def brokenOf (deed : Nat) : List (Nat × Nat) := ((brokenT.find? fun p => p.1 = deed).map (·.2)).getD []
noncomputable def sgnOf (a b : Nat) : Nat := 1 + 7 * ((a + b) % 2)
noncomputable def clauseOf (head : Nat × Nat) (value other : Nat) (part : Row2) : List Nat := part.foldl (fun cl x => cl.set x.1 (sgnOf x.2 other)) (([0, 0, 0, 0] : List Nat).set head.1 (sgnOf head.2 value))
noncomputable def mkE (text : Str) (place : Nat) (head : Nat × Nat) (value other : Nat) (part : Row2) : Entry :=
  let cl := clauseOf head value other part
  ⟨cl.getD 0 0, cl.getD 1 0, cl.getD 2 0, cl.getD 3 0, [((text, (place : Int), "or"), 8 / 2 ^ part.length)], ([0, 0, 0] : List Nat).set place (8 / 2 ^ part.length)⟩
noncomputable def partsOf2 (other : Nat) (rest : Row2) : List Row2 := if other = 1 then rest.map fun x => [x] else [rest]
noncomputable def rowsOf (text : Str) (place : Nat) (row : Row2) (vo : Nat × Nat) : List Entry := (partsOf2 vo.2 (row.drop 1)).map fun part => mkE text place (row.getD 0 (0, 0)) vo.1 vo.2 part
noncomputable def flush (text : Str) (place deed : Nat) (row : Row2) : List Entry := (brokenOf deed).flatMap (rowsOf text place row)

structure Sta where
  entries : List Entry
  place : Nat
  deed : Nat
  turned : Nat
  row : Row2
noncomputable def staStep (texts : List Str) (s : Sta) (sym : Nat) : Sta :=
  if 256 ≤ sym then { s with row := s.row ++ [(sym - 256, s.turned)], turned := 0 }
  else if sym = 31 then { s with turned := 1 }
  else if sym = 13 ∨ sym = 0 then { s with entries := s.entries ++ flush (texts.getD s.place "") s.place s.deed s.row, place := s.place + 1, deed := 0, row := [] }
  else if s.deed = 0 then { s with deed := sym }
  else s
structure FlushOK (texts : List Str) (s : Sta) : Prop where
  deed : s.deed ∈ brokenT.map (·.1)
  row : s.row.length = 2 ∨ s.row.length = 3
  letters : ∀ x ∈ s.row, x.1 < 4
  place : s.place < 3

noncomputable def forBody (st : Stmt) : List Stmt := match st with
  | .For _ _ b _ _ => b
  | _ => []
noncomputable def ifParts (st : Stmt) : List Stmt × List Stmt := match st with
  | .If _ b o _ => (b, o)
  | _ => ([], [])
noncomputable def enFor : Stmt := (bodyOf 70).getD 6 default
noncomputable def enIf1 : Stmt := (forBody enFor).getD 0 default
noncomputable def enIf2 : Stmt := (ifParts enIf1).2.getD 0 default
noncomputable def enIf3 : Stmt := (ifParts enIf2).2.getD 0 default
noncomputable def enFlush : List Stmt := (ifParts enIf3).1
noncomputable def enParts : Stmt := (forBody (enFlush.getD 0 default)).getD 0 default
noncomputable def partBody : List Stmt := forBody enParts

noncomputable def gP (syms : List Nat) (texts : List Str) : Gam := params ["symbols", "texts"] [.list (natsD syms), .list (texts.map .str)]
/-- within the flush: the row stands -/
noncomputable def gF (syms : List Nat) (texts : List Str) (es : List Entry) (place deed turned : Nat) (row : Row2) : Gam :=
  (Str.ofString "entries", Slot.own (es.map dEntry)) :: (Str.ofString "row", Slot.d (.list (dR row))) :: (Str.ofString "turned", Slot.d (.int (turned : Int))) :: (Str.ofString "deed", Slot.d (.int (deed : Int))) :: (Str.ofString "place", Slot.d (.int (place : Int))) :: (Str.ofString "broken", Slot.d (.dictI brokenL)) :: gP syms texts
theorem natsD_set {l : List Nat} {k v : Nat} : (natsD l).set ((k : Int)).toNat (.int (v : Int)) = natsD (l.set k v) := by
  rw [Int.toNat_natCast]; simp [natsD, List.map_set]
theorem natsD_at {l : List Nat} {k : Nat} (h : k < l.length) : (natsD l)[((k : Nat) : Int).toNat]? = some (.int ((l.getD k 0 : Nat) : Int)) := natsD_get h

theorem cons_sub {Γ0 Γ1 : Gam} {k : Str} {v : Slot} (h : ∀ x sl, x ≠ k → Γ0.lookup x = some sl → Γ1.lookup x = some sl) : ∀ x sl, ((k, v) :: Γ0 : Gam).lookup x = some sl → ((k, v) :: Γ1 : Gam).lookup x = some sl := fun x sl e => by
  rw [List.lookup_cons] at e ⊢
  cases hxk : x == k with
  | true => rw [hxk] at e; exact e
  | false => rw [hxk] at e; exact h x sl (by simpa using hxk) e
theorem skip_same {Γ0 Γ1 : Gam} {k : Str} {v : Slot} (h : ∀ x sl, x ≠ k → Γ0.lookup x = some sl → Γ1.lookup x = some sl) : ∀ x sl, x ≠ k → Γ0.lookup x = some sl → ((k, v) :: Γ1 : Gam).lookup x = some sl := fun x sl hx e => by
  rw [List.lookup_cons]
  have : (x == k) = false := by simpa using hx
  rw [this]; exact h x sl hx e
theorem skip_none {Γ0 Γ1 : Gam} {k k' : Str} {v : Slot} (hn : Γ0.lookup k' = none) (h : ∀ x sl, x ≠ k → Γ0.lookup x = some sl → Γ1.lookup x = some sl) : ∀ x sl, x ≠ k → Γ0.lookup x = some sl → ((k', v) :: Γ1 : Gam).lookup x = some sl := fun x sl hx e => by
  rw [List.lookup_cons]
  cases hxk : x == k' with
  | true => rw [beq_iff_eq.mp hxk, hn] at e; cases e
  | false => exact h x sl hx e
theorem sub_refl {Γ0 : Gam} {k : Str} : ∀ x sl, x ≠ k → Γ0.lookup x = some sl → Γ0.lookup x = some sl := fun _ _ _ e => e

theorem flush_part (L : Lay C A) {syms : List Nat} {texts : List Str} {es : List Entry} {place deed turned : Nat} {head : Nat × Nat} {rest part : Row2} {value other : Nat} (hp : place < 3) (hpt : place < texts.length) (hh : head.1 < 4) (hpl : part.length ≤ 2) (hpart : ∀ x ∈ part, x.1 < 4) (hes : es.length ≤ 1000) :
    ExN C n (scOf 70) ((Str.ofString "part", Slot.d (.list (dR part))) :: (Str.ofString "other", Slot.d (.int (other : Int))) :: (Str.ofString "value", Slot.d (.int (value : Int))) :: gF syms texts es place deed turned (head :: rest)) partBody
      ((Str.ofString "other", Slot.d (.int (other : Int))) :: (Str.ofString "value", Slot.d (.int (value : Int))) :: gF syms texts (es ++ [mkE (texts.getD place "") place head value other part]) place deed turned (head :: rest)) := by
  let Γ0 : Gam := (Str.ofString "part", Slot.d (.list (dR part))) :: (Str.ofString "other", Slot.d (.int (other : Int))) :: (Str.ofString "value", Slot.d (.int (value : Int))) :: gF syms texts es place deed turned (head :: rest)
  refine ExN.cons (Ex1.own (ds := natsD [0, 0, 0, 0]) (by walk_at "ev") (hsz := by decide)) ?_
  have hrow : ∀ {sc1 : Scope} {Γ1 : Gam} {rp ip pos}, Γ1.lookup (Str.ofString "row") = some (Slot.d (.list (dR (head :: rest)))) → Ev C n sc1 Γ1 (.Subscript (.Name "row" rp) (.Constant (.int 0) 0 ip) pos) (.tup [.int head.1, .int head.2]) := fun h => Ev.sub (Ev.name h) Ev.int (V.itemL (by decide) (by decide) rfl)
  refine ExN.cons (Ex1.setItem (ds := natsD [0, 0, 0, 0]) (k := (head.1 : Int)) (d := .int (sgnOf head.2 value : Nat)) rfl (Ev.cast (Ev.bin Ev.int (Ev.bin Ev.int (Ev.bin (Ev.bin (Ev.sub (hrow rfl) Ev.int (V.itemT (by decide) (by decide) rfl)) (Ev.name rfl) V.addN) Ev.int (V.modN (by decide))) (V.mulCN (by decide) (by decide))) V.add) (by rfl)) (Ev.sub (hrow rfl) Ev.int (V.itemT (by decide) (by decide) rfl)) (by lia) (by simp [natsD]; lia) (by simp [natsD])) ?_
  rw [natsD_set]
  have hcl : ∀ (l : Row2) (cl : List Nat), (l.foldl (fun cl x => cl.set x.1 (sgnOf x.2 other)) cl).length = cl.length := by
    intro l
    induction l with
    | nil => intro cl; rfl
    | cons x l ih => intro cl; rw [List.foldl_cons, ih]; simp
  refine ExN.pre (Γ' := (Str.ofString "clause", Slot.own (natsD (([0, 0, 0, 0] : List Nat).set head.1 (sgnOf head.2 value)))) :: Γ0) ?_ (cons_sub (skip_same sub_refl))
  refine ExN.cons (Ex1.fold (H := true) part (fun x => D.tup [.int x.1, .int x.2]) (fun cl x => cl.set x.1 (sgnOf x.2 other)) (([0, 0, 0, 0] : List Nat).set head.1 (sgnOf head.2 value)) (fun cl => (Str.ofString "clause", Slot.own (natsD cl)) :: Γ0) (fun cl x => (Str.ofString "sign", Slot.d (.int (x.2 : Int))) :: (Str.ofString "letter", Slot.d (.int (x.1 : Int))) :: (Str.ofString "clause", Slot.own (natsD cl)) :: Γ0) (fun cl => cl.length = 4) (by simp) ?_ ?_ ?_ ?_) ?_
  · exact Src.list (Ev.name rfl) fun d hd _ => by simp at hd; obtain ⟨_, _, _, rfl⟩ := hd; exact ⟨_, rfl⟩
  · intro cl x _ h; simp [h]
  · intro cl x _ _; exact As.tup (ps := [(Str.ofString "letter", _), (Str.ofString "sign", _)])
  · intro cl x hx h
    have hx4 := hpart x hx
    refine ExN.sub (ExN.ofEx1 (Ex1.setItem (ds := natsD cl) (k := (x.1 : Int)) (d := .int (sgnOf x.2 other : Nat)) rfl (Ev.cast (Ev.bin Ev.int (Ev.bin Ev.int (Ev.bin (Ev.bin (Ev.name rfl) (Ev.name rfl) V.addN) Ev.int (V.modN (by decide))) (V.mulCN (by decide) (by decide))) V.add) (by rfl)) (Ev.name rfl) (by lia) (by simp [natsD, h]; lia) (by simp [natsD, h]))) ?_
    rw [natsD_set]
    exact cons_sub (skip_none rfl (skip_none rfl (skip_same sub_refl)))
  have hlen : (clauseOf head value other part).length = 4 := by unfold clauseOf; rw [hcl]; simp
  have e1 : part.foldl (fun cl x => cl.set x.1 (sgnOf x.2 other)) (([0, 0, 0, 0] : List Nat).set head.1 (sgnOf head.2 value)) = clauseOf head value other part := rfl
  rw [e1]
  generalize hcl' : clauseOf head value other part = cl at hlen
  refine ExN.cons (Ex1.own (ds := natsD [0, 0, 0]) (by walk_at "ev") (hsz := by decide)) ?_
  have h2 : 2 ^ part.length ≤ 4 := by
    rcases (show part.length = 0 ∨ part.length = 1 ∨ part.length = 2 by lia) with h | h | h <;> rw [h] <;> decide
  refine ExN.cons (Ex1.setItem (ds := natsD [0, 0, 0]) (k := (place : Int)) (d := .int ((8 / 2 ^ part.length : Nat) : Int)) rfl (Ev.bin (a := .int ((8 : Nat) : Int)) (b := .int ((2 ^ part.length : Nat) : Int)) Ev.int (Ev.bin (b := .int ((part.length : Nat) : Int)) Ev.int (Ev.cast (Ev.callB (Ev.glob rfl (L.glob rfl)) (EvL.cons (Ev.name rfl) EvL.nil) (V.lenL (ds := dR part) (by simp [dR]; lia))) (by simp [dR])) (V.pow2N (by lia))) (V.divNN (Nat.pow_pos (by decide)) (by lia))) (Ev.name rfl) (by lia) (by simp [natsD]; lia) (by simp [natsD])) ?_
  rw [natsD_set]
  have htl : (([0, 0, 0] : List Nat).set place (8 / 2 ^ part.length)).length = 3 := by simp
  have htp : (([0, 0, 0] : List Nat).set place (8 / 2 ^ part.length)).getD place 0 = 8 / 2 ^ part.length := by
    rcases lt3 hp with rfl | rfl | rfl <;> rfl
  have hmk : mkE (texts.getD place "") place head value other part = ⟨cl.getD 0 0, cl.getD 1 0, cl.getD 2 0, cl.getD 3 0, [((texts.getD place "", (place : Int), "or"), 8 / 2 ^ part.length)], ([0, 0, 0] : List Nat).set place (8 / 2 ^ part.length)⟩ := by
    unfold mkE; rw [hcl']
  rw [hmk]
  generalize hT : ([0, 0, 0] : List Nat).set place (8 / 2 ^ part.length) = T at htl htp
  refine ExN.frz (x := "clause") (ds := natsD cl) rfl (ExN.frz (x := "tally") (ds := natsD T) rfl ?_)
  have hci : ∀ k, k < 4 → (natsD cl)[((k : Nat) : Int).toNat]? = some (.int ((cl.getD k 0 : Nat) : Int)) := fun k hk => natsD_get (by lia)
  refine ExN.sub (ExN.ofEx1 (Ex1.append (ds := es.map dEntry) rfl (Ev.tup (EvL.cons (Ev.sub (Ev.name rfl) Ev.int (V.itemL (by decide) (by decide) (hci 0 (by decide)))) (EvL.cons (Ev.sub (Ev.name rfl) Ev.int (V.itemL (by decide) (by decide) (hci 1 (by decide)))) (EvL.cons (Ev.sub (Ev.name rfl) Ev.int (V.itemL (by decide) (by decide) (hci 2 (by decide)))) (EvL.cons (Ev.sub (Ev.name rfl) Ev.int (V.itemL (by decide) (by decide) (hci 3 (by decide))))
    (EvL.cons (Ev.dictT1 (key := (texts.getD place "", (place : Int), "or")) (Ev.tup (EvL.cons (Ev.sub (Ev.name rfl) (Ev.name rfl) (V.itemLM (f := D.str) (l := texts) (k := place) ?_ (by lia))) (EvL.cons (Ev.name rfl) (EvL.cons Ev.str EvL.nil)))) (Ev.sub (d := .int ((8 / 2 ^ part.length : Nat) : Int)) (Ev.name rfl) (Ev.name rfl) (V.itemL (ds := natsD T) (k := (place : Int)) (by lia) (by lia) ?_))) (EvL.cons (Ev.name rfl) EvL.nil))))))) (by simp; lia))) ?_
  · rw [List.getD_eq_getElem?_getD, List.getElem?_eq_getElem hpt]; rfl
  · rw [natsD_get (by lia), htp]
  · refine subG (allCons rfl (allCons rfl (allCons ?_ (allCons rfl (allCons rfl (allCons rfl (allCons rfl (allCons rfl (allCons rfl (allCons rfl allNil))))))))))
    show some (Slot.own (es.map dEntry ++ [_])) = some (Slot.own ((es ++ [_]).map dEntry))
    rw [List.map_append]; rfl
end Mine
end
-- F16
section
open PySem PySem.W PyProof.Rows
set_option Elab.async false
set_option linter.all false
set_option maxRecDepth 100000
namespace Mine
variable {C : Cx} {n : Nat} {sc : Scope} {Γ Γ' Γ'' : Gam} {env : Env} {Pr : Addr → Obj → Prop} {U m : Addr → Prop} {ad : Str → Option Addr} {s s' s₁ : Shared} {A : Ads}
theorem partsOf2_len {other : Nat} {rest : Row2} (h : rest.length ≤ 2) : (partsOf2 other rest).length ≤ 2 := by unfold partsOf2; split <;> simp [h]
theorem partsOf2_mem {other : Nat} {rest part : Row2} (h : part ∈ partsOf2 other rest) (hr : rest.length ≤ 2) : part.length ≤ 2 ∧ ∀ x ∈ part, x ∈ rest := by
  unfold partsOf2 at h
  split at h
  · obtain ⟨x, hx, rfl⟩ := List.mem_map.mp h
    exact ⟨by simp, fun y hy => by simp at hy; subst hy; exact hx⟩
  · simp at h; subst h; exact ⟨hr, fun _ hx => hx⟩
theorem foldl_snoc {α β : Type} (f : α → β) : ∀ (l : List α) (k : List β), l.foldl (fun k x => k ++ [f x]) k = k ++ l.map f
  | [], k => by simp
  | x :: l, k => by simp [foldl_snoc f l]

theorem flush_parts (L : Lay C A) {syms : List Nat} {texts : List Str} {es : List Entry} {place deed turned : Nat} {head : Nat × Nat} {rest : Row2} {value other : Nat} (hp : place < 3) (hpt : place < texts.length) (hh : head.1 < 4) (hrl : rest.length ≤ 2) (hrest : ∀ x ∈ rest, x.1 < 4) (hes : es.length ≤ 900) :
    Ex1 C n (scOf 70) ((Str.ofString "other", Slot.d (.int (other : Int))) :: (Str.ofString "value", Slot.d (.int (value : Int))) :: gF syms texts es place deed turned (head :: rest)) enParts
      ((Str.ofString "other", Slot.d (.int (other : Int))) :: (Str.ofString "value", Slot.d (.int (value : Int))) :: gF syms texts (es ++ rowsOf (texts.getD place "") place (head :: rest) (value, other)) place deed turned (head :: rest)) := by
  have e : es ++ rowsOf (texts.getD place "") place (head :: rest) (value, other) = (partsOf2 other rest).foldl (fun k part => k ++ [mkE (texts.getD place "") place head value other part]) es := by
    rw [foldl_snoc]; rfl
  rw [e]
  refine Ex1.foldN (H := false) (sc := scOf 70) (partsOf2 other rest) (fun part => .list (dR part)) (fun k part => k ++ [mkE (texts.getD place "") place head value other part]) es
    (fun k => (Str.ofString "other", Slot.d (.int (other : Int))) :: (Str.ofString "value", Slot.d (.int (value : Int))) :: gF syms texts k place deed turned (head :: rest))
    (fun k part => (Str.ofString "part", Slot.d (.list (dR part))) :: (Str.ofString "other", Slot.d (.int (other : Int))) :: (Str.ofString "value", Slot.d (.int (value : Int))) :: gF syms texts k place deed turned (head :: rest)) (fun i k => k.length ≤ 900 + i) (by lia) ?_ ?_ ?_ ?_
  · have hrow : ∀ {Γ1 : Gam} {rp sp pos ip}, Γ1.lookup (Str.ofString "row") = some (Slot.d (.list (dR (head :: rest)))) → Ev C n (scOf 70) Γ1 (.Subscript (.Name "row" rp) (.Slice (some (.Constant (.int 1) 0 ip)) Option.none Option.none sp) pos) (.list (dR rest)) := fun h => by
      refine Ev.cast (Ev.slice (Ev.name h) (EvO.some Ev.int) EvO.none (V.sliceL (by simp [dR]; lia))) ?_
      rw [kms_from _ _ (by decide)]; rfl
    refine Src.list (Ev.ifexp (c := decide (other = 1)) (Tst.cast (Tst.cmp (Ev.name rfl) Ev.int V.eq) ?_) (fun hc => ?_) (fun hc => ?_))
    · rw [Bool.eq_iff_iff]; simp; lia
    · have hc : other = 1 := by simpa using hc
      refine Ev.cast (Ev.lc (LC.mapN rest (fun x => .tup [.int x.1, .int x.2]) (fun x => .list [.tup [.int x.1, .int x.2]]) [] (Src.list (hrow rfl)) allNil ?_ (hlen := by lia))) ?_
      · intro x _; exact Ev.list (EvL.cons (Ev.name rfl) EvL.nil)
      · simp only [partsOf2, hc, if_true, List.map_map]; rfl
    · have hc : ¬ other = 1 := by simpa using hc
      refine Ev.cast (Ev.list (EvL.cons (hrow rfl) EvL.nil)) ?_
      simp only [partsOf2, hc, if_false]; rfl
  · intro i k a _ _ h; simp; lia
  · intro i k a _ _ _; exact As.name
  · intro i k a hi ha h
    obtain ⟨h1, h2⟩ := partsOf2_mem ha hrl
    have := partsOf2_len (other := other) hrl
    exact flush_part L hp hpt hh h1 (fun x hx => hrest x (h2 x hx)) (by lia)

theorem broken_find {deed : Nat} (h : deed ∈ brokenT.map (·.1)) : (brokenL.find? fun p => p.1 = (deed : Int)).map (·.2) = some (.tup (dR (brokenOf deed))) ∧ (brokenOf deed).length ≤ 3 := by
  simp only [brokenT, List.map_cons, List.map_nil, List.mem_cons, List.not_mem_nil, or_false] at h
  rcases h with rfl | rfl | rfl | rfl | rfl | rfl | rfl | rfl <;> exact ⟨rfl, by decide⟩

theorem rowsOf_len {text : Str} {place : Nat} {row : Row2} {vo : Nat × Nat} (h : row.length ≤ 3) : (rowsOf text place row vo).length ≤ 2 := by
  unfold rowsOf; rw [List.length_map]; exact partsOf2_len (by simp; omega)

theorem flush_all (L : Lay C A) {syms : List Nat} {texts : List Str} {st : Sta} (ok : FlushOK texts st) (ht : texts.length = 3) (hes : st.entries.length ≤ 800) :
    Ex1 C n (scOf 70) (gF syms texts st.entries st.place st.deed st.turned st.row) (enFlush.getD 0 default)
      (gF syms texts (st.entries ++ flush (texts.getD st.place "") st.place st.deed st.row) st.place st.deed st.turned st.row) := by
  obtain ⟨es, place, deed, turned, row⟩ := st
  obtain ⟨h1, h2, h3, h4⟩ := ok
  simp only at h1 h2 h3 h4 hes ⊢
  obtain ⟨head, rest, rfl⟩ : ∃ head rest, row = head :: rest := List.exists_cons_of_ne_nil (by rintro rfl; simp at h2)
  have hrl : rest.length ≤ 2 := by simp at h2; lia
  obtain ⟨hb, hbl⟩ := broken_find h1
  have e : es ++ flush (texts.getD place "") place deed (head :: rest) = (brokenOf deed).foldl (fun k vo => k ++ rowsOf (texts.getD place "") place (head :: rest) vo) es := by
    have : ∀ (l : List (Nat × Nat)) (k : List Entry), l.foldl (fun k vo => k ++ rowsOf (texts.getD place "") place (head :: rest) vo) k = k ++ l.flatMap (rowsOf (texts.getD place "") place (head :: rest)) := by
      intro l
      induction l with
      | nil => intro k; simp
      | cons x l ih => intro k; rw [List.foldl_cons, ih]; simp
    rw [this]; rfl
  rw [e]
  refine Ex1.foldN (H := true) (sc := scOf 70) (brokenOf deed) (fun vo => .tup [.int vo.1, .int vo.2]) (fun k vo => k ++ rowsOf (texts.getD place "") place (head :: rest) vo) es
    (fun k => gF syms texts k place deed turned (head :: rest))
    (fun k vo => (Str.ofString "other", Slot.d (.int (vo.2 : Int))) :: (Str.ofString "value", Slot.d (.int (vo.1 : Int))) :: gF syms texts k place deed turned (head :: rest)) (fun i k => k.length ≤ 800 + 2 * i) (by lia) ?_ ?_ ?_ ?_
  · exact Src.tup (Ev.sub (Ev.name rfl) (Ev.name rfl) (V.itemDI hb)) fun d hd _ => by
      obtain ⟨_, _, rfl⟩ := List.mem_map.mp hd; exact ⟨_, rfl⟩
  · intro i k a _ _ h
    have := rowsOf_len (text := texts.getD place "") (place := place) (row := head :: rest) (vo := a) (by simp; lia)
    rw [List.length_append]; lia
  · intro i k a _ _ _; exact As.tup (ps := [(Str.ofString "value", _), (Str.ofString "other", _)])
  · intro i k a hi ha h
    refine ExN.sub (ExN.ofEx1 (flush_parts L h4 (by lia) (h3 head (by simp)) hrl (fun x hx => h3 x (by simp [hx])) (by lia))) (sub_cons rfl (sub_cons rfl fun _ _ h => h))

noncomputable def gE (syms : List Nat) (texts : List Str) (st : Sta) : Gam :=
  (Str.ofString "row", Slot.own (dR st.row)) :: (Str.ofString "turned", Slot.d (.int (st.turned : Int))) :: (Str.ofString "deed", Slot.d (.int (st.deed : Int))) :: (Str.ofString "place", Slot.d (.int (st.place : Int))) :: (Str.ofString "entries", Slot.own (st.entries.map dEntry)) :: (Str.ofString "broken", Slot.d (.dictI brokenL)) :: gP syms texts

theorem sta_step (L : Lay C A) {syms : List Nat} {texts : List Str} {st : Sta} {sym : Nat} (ok : (sym = 13 ∨ sym = 0) → FlushOK texts st) (ht : texts.length = 3) (hes : st.entries.length ≤ 800) (hr : st.row.length ≤ 100) :
    ExN C (n+1) (scOf 70) ((Str.ofString "symbol", Slot.d (.int (sym : Int))) :: gE syms texts st) (forBody enFor) (gE syms texts (staStep texts st sym)) := by
  obtain ⟨nt, hnt⟩ := L.nt
  refine ExN.ofEx1 (Ex1.ite (c := decide (256 ≤ sym)) (Tst.of (Ev.call L.isnt (L.glob rfl) (EvL.cons (Ev.name rfl) EvL.nil) (c_isnt L sym))) (fun hc => ?_) (fun hc => ?_))
  · have hc : 256 ≤ sym := by simpa using hc
    refine ExN.sub (ExN.cons (Ex1.append (d := .tup [.int ((sym - 256 : Nat) : Int), .int (st.turned : Int)]) rfl (Ev.tup (EvL.cons (Ev.cast (Ev.bin (Ev.name rfl) (Ev.globInt rfl hnt) V.sub) ?_) (EvL.cons (Ev.name rfl) EvL.nil))) (by simp [dR]; lia)) (ExN.ofEx1 (Ex1.assign (d := .int ((0 : Nat) : Int)) (by walk_at "ev")))) ?_
    · congr 1; lia
    · unfold staStep
      rw [if_pos hc]
      refine subG (allCons ?_ (allCons rfl (allCons rfl (allCons rfl (allCons rfl (allCons rfl (allCons rfl (allCons rfl allNil))))))))
      simp [dR]; rfl
  · have hc : ¬ 256 ≤ sym := by simpa using hc
    refine ExN.ofEx1 (Ex1.ite (c := decide (sym = 31)) (Tst.cast (Tst.cmp (Ev.name rfl) Ev.int V.eq) (by rw [Bool.eq_iff_iff]; simp; lia)) (fun hc2 => ?_) (fun hc2 => ?_))
    · have hc2 : sym = 31 := by simpa using hc2
      refine ExN.sub (ExN.ofEx1 (Ex1.assign (d := .int ((1 : Nat) : Int)) (by walk_at "ev"))) ?_
      unfold staStep
      rw [if_neg hc, if_pos hc2]
      exact subG (allCons rfl (allCons rfl (allCons rfl (allCons rfl (allCons rfl (allCons rfl (allCons rfl (allCons rfl allNil))))))))
    · have hc2 : ¬ sym = 31 := by simpa using hc2
      refine ExN.ofEx1 (Ex1.ite (c := decide (sym = 13) || decide (sym = 0)) (Tst.or2 (Tst.cast (Tst.cmp (Ev.name rfl) Ev.int V.eq) (by rw [Bool.eq_iff_iff]; simp; lia)) (fun _ => Tst.of (Ev.call L.iseof (L.glob rfl) (EvL.cons (Ev.name rfl) EvL.nil) (c_iseof L sym)))) (fun hc3 => ?_) (fun hc3 => ?_))
      · have hc3 : sym = 13 ∨ sym = 0 := by simpa using hc3
        have fk := ok hc3
        refine ExN.frz (x := "row") (ds := dR st.row) rfl ?_
        refine ExN.pre (Γ' := gF syms texts st.entries st.place st.deed st.turned st.row) ?_ (subG (allCons rfl (allCons rfl (allCons rfl (allCons rfl (allCons rfl (allCons rfl (allCons rfl (allCons rfl allNil)))))))))
        refine ExN.sub (ExN.cons (flush_all L fk ht hes) (ExN.cons (Ex1.aug (d := .int ((st.place + 1 : Nat) : Int)) rfl Ev.int V.iadd) (ExN.cons (Ex1.assign (d := .int ((0 : Nat) : Int)) (by walk_at "ev")) (ExN.ofEx1 (Ex1.own (ds := []) EvL.nil))))) ?_
        unfold staStep
        rw [if_neg hc, if_neg hc2, if_pos hc3]
        exact subG (allCons rfl (allCons rfl (allCons rfl (allCons rfl (allCons rfl (allCons rfl (allCons rfl (allCons rfl allNil))))))))
      · have hc3 : ¬ (sym = 13 ∨ sym = 0) := by simpa using hc3
        refine ExN.ofEx1 (Ex1.ite (c := decide (st.deed = 0)) (Tst.cast (Tst.cmp (Ev.name rfl) Ev.int V.eq) (by rw [Bool.eq_iff_iff]; simp)) (fun hc4 => ?_) (fun hc4 => ?_))
        · have hc4 : st.deed = 0 := by simpa using hc4
          refine ExN.sub (ExN.ofEx1 (Ex1.assign (d := .int (sym : Int)) (Ev.name rfl))) ?_
          unfold staStep
          rw [if_neg hc, if_neg hc2, if_neg hc3, if_pos hc4]
          exact subG (allCons rfl (allCons rfl (allCons rfl (allCons rfl (allCons rfl (allCons rfl (allCons rfl (allCons rfl allNil))))))))
        · have hc4 : ¬ st.deed = 0 := by simpa using hc4
          refine ExN.sub ExN.nil ?_
          unfold staStep
          rw [if_neg hc, if_neg hc2, if_neg hc3, if_neg hc4]
          exact subG (allCons rfl (allCons rfl (allCons rfl (allCons rfl (allCons rfl (allCons rfl (allCons rfl (allCons rfl allNil))))))))

noncomputable def stOf (texts : List Str) (syms : List Nat) (i : Nat) : Sta := (syms.take i).foldl (staStep texts) ⟨[], 0, 0, 0, []⟩
theorem ex_entries (L : Lay C A) {syms : List Nat} {texts : List Str} (ht : texts.length = 3) (hs : ∀ i (sym : Nat), syms[i]? = some sym → (sym = 13 ∨ sym = 0) → FlushOK texts (stOf texts syms i)) (hb : ∀ i, i < syms.length → (stOf texts syms i).entries.length ≤ 800 ∧ (stOf texts syms i).row.length ≤ 100) :
    ExT C (n+1) (scOf 70) (params ["symbols", "texts"] [.list (natsD syms), .list (texts.map .str)]) (bodyOf 70) (dEntries (stOf texts syms syms.length).entries) := by
  refine ExT.cons (Ex1.assign (d := .dictI brokenL) (Ev.dictI (l := brokenL) (by walk_at "ev"))) ?_
  refine ExT.cons (Ex1.own (ds := []) EvL.nil) (ExT.cons (Ex1.assign (d := .int ((0 : Nat) : Int)) (by walk_at "ev")) (ExT.cons (Ex1.assign (d := .int ((0 : Nat) : Int)) (by walk_at "ev")) (ExT.cons (Ex1.assign (d := .int ((0 : Nat) : Int)) (by walk_at "ev")) (ExT.cons (Ex1.own (ds := []) EvL.nil) ?_))))
  refine ExT.cons (Ex1.for (H := false) (ds := natsD syms) (Src.list (Ev.name rfl)) (fun i => gE syms texts (stOf texts syms i)) (fun i => (Str.ofString "symbol", Slot.d (.int ((syms.getD i 0 : Nat) : Int))) :: gE syms texts (stOf texts syms i)) (by rfl) ?_ ?_) (ExT.retF (Ev.name (by simp [natsD]; rfl)))
  · intro i d hd
    simp only [natsD, List.getElem?_map, Option.map_eq_some_iff] at hd
    obtain ⟨sym, h1, rfl⟩ := hd
    rw [List.getD_eq_getElem?_getD, h1]
    exact As.name
  · intro i d hd
    simp only [natsD, List.getElem?_map, Option.map_eq_some_iff] at hd
    obtain ⟨sym, h1, rfl⟩ := hd
    have hi := (List.getElem?_eq_some_iff.mp h1).1
    have e : stOf texts syms (i+1) = staStep texts (stOf texts syms i) sym := by
      unfold stOf; rw [List.take_add_one, h1]; simp
    rw [e, List.getD_eq_getElem?_getD, h1]
    exact sta_step L (hs i sym h1) ht (hb i hi).1 (hb i hi).2
theorem c_entries (L : Lay C A) {syms : List Nat} {texts : List Str} (ht : texts.length = 3) (hs : ∀ i (sym : Nat), syms[i]? = some sym → (sym = 13 ∨ sym = 0) → FlushOK texts (stOf texts syms i)) (hb : ∀ i, i < syms.length → (stOf texts syms i).entries.length ≤ 800 ∧ (stOf texts syms i).row.length ≤ 100) :
    VCall C (n+2) (.ref A.entries) [.list (natsD syms), .list (texts.map .str)] (dEntries (stOf texts syms syms.length).entries) := VCall.ofDef L.entries (ex_entries L ht hs hb)
end Mine
end
-- F17
section
open PySem PySem.W PyProof.Rows
set_option Elab.async false
set_option linter.all false
set_option maxRecDepth 100000
namespace Mine
variable {C : Cx} {n : Nat} {sc : Scope} {Γ Γ' Γ'' : Gam} {env : Env} {Pr : Addr → Obj → Prop} {U m : Addr → Prop} {ad : Str → Option Addr} {s s' s₁ : Shared} {A : Ads}
-- the numbers
theorem numStep_nat {b : List Nat} {p : Int × Nat} (h : b.length = 3) : ∃ b' : List Nat, b'.length = 3 ∧ numStep (b.map fun (x : Nat) => (x : Int)) p = b'.map fun (x : Nat) => (x : Int) := by
  have hm : 0 ≤ p.1.fmod 1000000 := Int.fmod_nonneg_of_pos _ (by decide)
  have hlt : p.2 % 3 < b.length := by lia
  refine ⟨b.set (p.2 % 3) (b.getD (p.2 % 3) 0 + (p.1.fmod 1000000).toNat), by simp [h], ?_⟩
  unfold numStep
  rw [List.map_set]
  congr 1
  rw [Int.natCast_add, Int.toNat_of_nonneg hm]
  congr 1
  simp [hlt]
theorem numRun_nat (xs : List Int) : ∃ ns : List Nat, ns.length = 3 ∧ numRun xs = ns.map fun (x : Nat) => (x : Int) := by
  have : ∀ (l : List (Int × Nat)) (b : List Nat), b.length = 3 → ∃ ns : List Nat, ns.length = 3 ∧ l.foldl numStep (b.map fun (x : Nat) => (x : Int)) = ns.map fun (x : Nat) => (x : Int) := by
    intro l
    induction l with
    | nil => intro b h; exact ⟨b, h, rfl⟩
    | cons p l ih =>
      intro b h
      obtain ⟨b', h', e⟩ := numStep_nat (p := p) h
      rw [List.foldl_cons, e]
      exact ih b' h'
  exact this xs.zipIdx [9219, 2937, 5416] rfl

noncomputable def rowN (N : Nat) : List (Nat × Nat × Nat) := signsOf (N / 8)
noncomputable def textN (N : Nat) : Str := textOf (deeds.getD (N % 8) "") (rowN N)
noncomputable def caseN (N : Nat) : Nat := casesOf (N % 8) (rowN N)
theorem rowOf_len (part : Nat) : (rowOf part).length = 2 ∨ (rowOf part).length = 3 := by
  unfold rowOf; split <;> simp
theorem row_mem4 {i : Nat} (h : i < 4) : row0.getD i 0 < 4 := by rcases lt4 h with rfl | rfl | rfl | rfl <;> decide
theorem rowOf_lt (part : Nat) : ∀ x ∈ rowOf part, x < 4 := by
  have h0 : part % 4 < 4 := Nat.mod_lt _ (by decide)
  have h1 : part / 4 % 3 < 3 := Nat.mod_lt _ (by decide)
  have h2 : part / 12 % 3 < 3 := Nat.mod_lt _ (by decide)
  unfold rowOf
  generalize part % 4 = i at *
  generalize part / 4 % 3 = j at *
  generalize part / 12 % 3 = k at *
  rcases lt4 h0 with rfl | rfl | rfl | rfl <;> rcases lt3 h1 with rfl | rfl | rfl <;> rcases lt3 h2 with rfl | rfl | rfl <;> decide
theorem rowN_ok (N : Nat) : RowOK (rowN N) := by
  unfold RowOK rowN signsOf
  refine ⟨by simpa using rowOf_len (N / 8), ?_⟩
  intro x hx
  obtain ⟨p, hp, rfl⟩ := List.mem_map.mp hx
  have h1 : p.1 ∈ rowOf (N / 8) := by
    have := (List.mem_zipIdx (x := p.1) (i := p.2) hp).2.2
    rw [this]; exact List.getElem_mem _
  exact ⟨rowOf_lt _ _ h1, Nat.mod_lt _ (by decide), Nat.mod_lt _ (by decide)⟩
theorem deed_len (N : Nat) : (deeds.getD (N % 8) "").length ≤ 2 := by
  have : N % 8 < 8 := Nat.mod_lt _ (by decide)
  rcases lt8 this with h | h | h | h | h | h | h | h <;> rw [h] <;> decide

noncomputable def joined (ns : List Nat) : Str := Str.join ";" (ns.map textN)
theorem textN_len (N : Nat) : (textN N).length ≤ 100 := by
  have hr := rowN_ok N
  have hd := deed_len N
  unfold textN
  generalize rowN N = row at *
  have hs2 : ∀ x, (signOf x).length ≤ 2 := fun x => by
    unfold signOf; show Array.size _ ≤ 2; split <;> simp
  have h1 : ∀ l : List (Nat × Nat × Nat), ((l.map signOf).map (·.length)).sum ≤ 2 * l.length := by
    intro l
    induction l with
    | nil => simp
    | cons x l ih => have := hs2 x; simp at ih ⊢; lia
  have h2 := h1 (row.drop 1)
  rw [List.map_drop] at h2
  have hl : row.length ≤ 3 := by rcases hr.1 with h | h <;> lia
  have hjl : (Str.join "|" ((row.map signOf).drop 1)).length ≤ 10 := by
    refine Nat.le_trans (StrLaws.join_length_le _ _) ?_
    have : (Str.ofString "|").length = 1 := by decide
    rw [this]
    simp only [List.length_map, List.length_drop] at h2 ⊢
    lia
  have h0 : row ≠ [] := by rintro rfl; rcases hr.1 with h | h <;> simp at h
  obtain ⟨r0, rs, rfl⟩ := List.exists_cons_of_ne_nil h0
  have h3 : ((List.map signOf (r0 :: rs)).getD 0 "").length ≤ 2 := hs2 r0
  unfold textOf
  rw [Str.length_append, Str.length_append]; lia
theorem joined_len {ns : List Nat} (h : ns.length = 3) : (joined ns).cps.size ≤ 1000 := by
  have h2 : ∀ l : List Nat, ((l.map textN).map (·.length)).sum ≤ 100 * l.length := by
    intro l
    induction l with
    | nil => simp
    | cons x l ih =>
      have := textN_len x
      rw [List.map_cons, List.map_cons, List.sum_cons, List.length_cons]
      lia
  have h3 : (Str.ofString ";").length = 1 := by decide
  have h1 := StrLaws.join_length_le ";" (ns.map textN)
  have h2 := h2 ns
  rw [h3, List.length_map] at h1
  exact Nat.le_trans h1 (by lia)

noncomputable def gBase (a : Addr) (ns : List Nat) : Gam :=
  (Str.ofString "names", Slot.d (hdrD namesL)) :: (Str.ofString "texts", Slot.d (.list ((ns.map textN).map .str))) :: (Str.ofString "drawn", Slot.d (.list (ns.map dDrawn))) :: (Str.ofString "numbers", Slot.d (.list (natsD ns))) :: params ["script"] [.raw (.ref a)]

theorem lw_numbers (L : Lay C A) {a : Addr} {vs : Array Value} {xs : List Int} {ns : List Nat} (hb : ∀ (m : Addr → Prop) (s : Shared), GS C m s → s.heap.IsList a vs ∧ RepL C (vw s.heap m) vs.toList (xs.map .int)) (hlen : xs.length ≤ 63) (hns : numRun xs = ns.map fun (x : Nat) => (x : Int)) (h3 : ns.length = 3) {ss : List Stmt} {d : D}
    (h : ExT C (n+9) (scOf 75) (gBase a ns) ((bodyOf 75).drop 4) d) : ExT C (n+9) (scOf 75) (params ["script"] [.raw (.ref a)]) (bodyOf 75) d := by
  obtain ⟨K, H⟩ := L.hdr
  refine ExT.cons (Ex1.assign (d := .list (natsD ns)) (Ev.cast (Ev.call L.numbers (L.glob rfl) (EvL.cons (Ev.name rfl) EvL.nil) ((c_numbers (n := n) L hb hlen).le (by lia))) ?_)) ?_
  · unfold dInts; rw [hns, List.map_map]; rfl
  refine ExT.cons (Ex1.lcL (LC.mapN ns (fun (x : Nat) => .int (x : Int)) dDrawn [] (Src.list (Ev.name rfl)) allNil ?_ (hlen := by lia))) ?_
  · intro N _
    exact Ev.call L.drawn (L.glob rfl) (EvL.cons (Ev.name rfl) EvL.nil) ((c_drawn (n := n) L N).le (by lia))
  refine ExT.cons (Ex1.lcC (LC.mapT [("deed", _), ("row", _)] ns (fun N => [.str (deeds.getD (N % 8) ""), dRow (rowN N)]) (fun N => .str (textN N)) [] (Src.list (Ev.name rfl) ?_) allNil ?_ (hlen := by lia))) ?_
  · intro d hd _; obtain ⟨_, _, rfl⟩ := List.mem_map.mp hd; exact ⟨_, rfl⟩
  · intro N _
    exact Ev.call L.text (L.glob rfl) (EvL.cons (Ev.name rfl) (EvL.cons (Ev.name rfl) EvL.nil)) ((c_text (n := n) L _ _ (rowN_ok N) (deed_len N)).le (by lia))
  refine ExT.cons (Ex1.assign (d := hdrD namesL) (Ev.makeH (n := n+6) L H (Ev.cast (by walk_at "ev") (by rfl)) ?_)) ?_
  · intro p hp
    simp only [namesL, List.mem_cons, List.not_mem_nil, or_false] at hp
    rcases hp with rfl | rfl | rfl | rfl <;> exact ⟨⟨by decide, by decide +kernel, by decide +kernel⟩, ⟨by decide, by decide +kernel, by decide +kernel⟩⟩
  refine ExT.pre (Γ' := gBase a ns) h (subG (allCons rfl (allCons ?_ (allCons rfl (allCons rfl (allCons rfl allNil))))))
  simp only [List.map_map]; rfl
end Mine
end
-- F18
section
open PySem PySem.W PyProof.Rows
set_option Elab.async false
set_option linter.all false
set_option maxRecDepth 100000
namespace Mine
variable {C : Cx} {n : Nat} {sc : Scope} {Γ Γ' Γ'' : Gam} {env : Env} {Pr : Addr → Obj → Prop} {U m : Addr → Prop} {ad : Str → Option Addr} {s s' s₁ : Shared} {A : Ads}
theorem V.ifdiv {a b : Nat} (hb : 0 < b) (hb2 : b < 1073741824) : VOp2 C n (inplaceOp .FloorDiv) (.int (a : Int)) (.int (b : Int)) (.int ((a / b : Nat) : Int)) := by
  refine .mk ?_; rintro A m s _ _ R p ra rb; cases ra using Rep.caseInt; cases rb using Rep.caseInt
  refine AutoIntOps.ifloordiv_1 (by simp; omega) (by rw [PyProof.noPylong_small (by omega)]; simp) ?_
  rw [fdivN]
  exact resInt
theorem V.modNN {a b : Nat} (hb : 0 < b) : VOp2 C n (binaryOp .Mod) (.int (a : Int)) (.int (b : Int)) (.int ((a % b : Nat) : Int)) := by
  rw [← fmodN]; exact V.fmod (by omega)

-- what the law asks, in plain terms
noncomputable def digit (code k : Nat) : Nat := code / 3 ^ k % 3
noncomputable def followsL (ns : List Nat) : List Bool := masksOf.map fun mask => (caseN (ns.getD 0 0) &&& caseN (ns.getD 1 0) &&& caseN (ns.getD 2 0) &&& mask) == 0
noncomputable def dueB (F : List Bool) (code : Nat) : Bool := F.getD code false && ((List.range 4).filter fun k => decide (0 < digit code k) && F.getD (code - digit code k * 3 ^ k) false).isEmpty
noncomputable def dueSign (code k : Nat) : Str := if digit code k = 0 then "" else if digit code k = 1 then ⟨#[97 + k]⟩ else ⟨#[65 + k]⟩
noncomputable def dueText (code : Nat) : Str := Str.join "" ((List.range 4).map fun k => dueSign code k)
noncomputable def dueL (ns : List Nat) : List Str := ((List.range 81).filter (dueB (followsL ns))).map dueText
noncomputable def blanks (k : Nat) : Hs := (List.range k).map fun i => ((⟨#[]⟩ : Str), V.numStr i)
noncomputable def tableOf (E : List Entry) : Hs := pairsOf E ++ blanks E.length
noncomputable def signs8 : List Str := [⟨#[97]⟩, ⟨#[65]⟩, ⟨#[98]⟩, ⟨#[66]⟩, ⟨#[99]⟩, ⟨#[67]⟩, ⟨#[100]⟩, ⟨#[68]⟩]
noncomputable def toldText (E : List Entry) (i : Nat) : Str := Str.join "" (signs8.filter fun x => decide ((x, V.numStr i) ∈ tableOf E))
noncomputable def toldL (E : List Entry) : List Str := (List.range E.length).map (toldText E)
noncomputable def codeE (e : Entry) : Nat := ((List.range 4).map fun k => 3 ^ k * ((if 0 < e.at k then 1 else 0) + (if 1 < e.at k then 1 else 0))).sum
noncomputable def sumC (e : Entry) : Nat := (e.callers.map (·.2)).sum
noncomputable def leftOf (ns : List Nat) (e : Entry) : Nat := e.callers.foldl (fun l p => l &&& caseN (ns.getD p.1.2.1.toNat 0)) (masksOf.getD (codeE e) 0)
noncomputable def tallyC (ns : List Nat) (e : Entry) : Callers := ((List.range 3).filter fun k => decide (0 < e.tally.getD k 0)).map fun (k : Nat) => (((ns.map textN).getD k "", (k : Int), "or"), e.tally.getD k 0)
structure EntryOK (ns : List Nat) (e : Entry) : Prop where
  tl : e.tally.length = 3
  pl : ∀ p ∈ e.callers, ∃ k : Nat, k < 3 ∧ p.1.2.1 = (k : Int)
  cnt : 16 / 2 ^ e.size ≤ sumC e
  left : leftOf ns e = 0
  len : e.callers.length = (tallyC ns e).length
  mem : ∀ p ∈ e.callers, p ∈ tallyC ns e
  sum : sumC e = e.tally.sum
structure Final (ns : List Nat) (E : List Entry) : Prop where
  ok : EsOK E
  perm : (toldL E).Perm (dueL ns)
  few : (toldL E).length < 64
  es : ∀ e ∈ E, EntryOK ns e
noncomputable def texts3 (ns : List Nat) : List Str := ns.map textN
set_option genInjectivity false in
set_option genSizeOf false in
structure PL (ns : List Nat) where
  ps : List Pc
  txt : (joined ns).cps.toList = flat ps
  wf : ∀ q ∈ ps, q.wf
  chain : Chain ps
  fl : ∀ i (sym : Nat), (ps.map Pc.tok ++ [0])[i]? = some sym → (sym = 13 ∨ sym = 0) → FlushOK (texts3 ns) (stOf (texts3 ns) (ps.map Pc.tok ++ [0]) i)
  bd : ∀ i, i < (ps.map Pc.tok ++ [0]).length → (stOf (texts3 ns) (ps.map Pc.tok ++ [0]) i).entries.length ≤ 800 ∧ (stOf (texts3 ns) (ps.map Pc.tok ++ [0]) i).row.length ≤ 100
  few : (stOf (texts3 ns) (ps.map Pc.tok ++ [0]) (ps.map Pc.tok ++ [0]).length).entries.length < 64
  Inv : Nat → List Entry → List Nat → Nat → Prop
  start : ∀ es' : List Entry, es'.Perm (stOf (texts3 ns) (ps.map Pc.tok ++ [0]) (ps.map Pc.tok ++ [0]).length).entries → (es'.map Entry.size).Pairwise (· ≤ ·) → Inv 0 (keptOf es') [0, 1, 2, 3] ns.sum
  step : ∀ i E l t, i < 4 → Inv i E l t → l.length = 4 - i ∧ l.getD (t % (4 - i)) 0 < 4 ∧ EsOK E ∧ (E ++ madeOf E (l.getD (t % (4 - i)) 0)).length < 64 ∧
    ∀ es' : List Entry, es'.Perm (E ++ madeOf E (l.getD (t % (4 - i)) 0)) → (es'.map Entry.size).Pairwise (· ≤ ·) → Inv (i+1) (keptOf es') (l.eraseIdx (t % (4 - i))) (t / (4 - i))
  fin : ∀ E l t, Inv 4 E l t → Final ns E

noncomputable def gLoop (a : Addr) (ns : List Nat) (b : List Entry × List Nat × Nat) : Gam :=
  (Str.ofString "entries", Slot.d (dEntries b.1)) :: (Str.ofString "turn", Slot.d (.int (b.2.2 : Nat))) :: (Str.ofString "letters", Slot.own (natsD b.2.1)) :: gBase a ns

theorem lw_loop (L : Lay C A) {a : Addr} {ns : List Nat} (P : PL ns) (h3 : ns.length = 3) {d : D}
    (h : ∀ E l t, P.Inv 4 E l t → ExT C (n+9) (scOf 75) (gLoop a ns (E, l, t)) ((bodyOf 75).drop 8) d) : ExT C (n+9) (scOf 75) (gBase a ns) ((bodyOf 75).drop 4) d := by
  obtain ⟨fd, c, I, _⟩ := L.least
  obtain ⟨ol, hol, hdl⟩ := I.obj
  obtain ⟨fdt, It, _⟩ := L.taken
  obtain ⟨ot, hot, hdt⟩ := It.obj
  refine ExT.consR (Ex1R.assign (P := LeastOf (stOf (texts3 ns) (P.ps.map Pc.tok ++ [0]) (P.ps.map Pc.tok ++ [0]).length).entries) (EvR.call hol hdl (L.glob rfl) (EvL.cons (Ev.call L.entries (L.glob rfl) (EvL.cons (Ev.call L.symbols (L.glob rfl) (EvL.cons (Ev.join (x := ";") (ys := ns.map textN) Ev.str (Ev.name rfl) (by decide) ?_) (EvL.cons (Ev.name rfl) EvL.nil)) ((c_symbols (n := n) L P.txt P.wf P.chain (joined_len h3)).le (by omega))) (EvL.cons (Ev.name rfl) EvL.nil)) ((c_entries (n := n) L (texts := texts3 ns) (by simp [texts3, h3]) P.fl P.bd).le (by omega))) EvL.nil) ((c_least (n := n) L P.few).le (by omega)))) ?_
  · have h2 : ∀ l : List Nat, ((l.map textN).map (·.length)).sum ≤ 100 * l.length := by
      intro l
      induction l with
      | nil => simp
      | cons x l ih =>
        have := textN_len x
        rw [List.map_cons, List.map_cons, List.sum_cons, List.length_cons]
        omega
    have := h2 ns
    rw [List.length_map]; omega
  rintro Γ1 ⟨d1, ⟨es', hp, hs, rfl⟩, rfl⟩
  have hI0 := P.start es' hp hs
  generalize keptOf es' = E0 at hI0
  refine ExT.cons (Ex1.own (ds := natsD [0, 1, 2, 3]) (by walk_at "ev") (hsz := by decide)) (ExT.cons (Ex1.assign (d := .int (ns.sum : Nat)) (Ev.callB (Ev.glob rfl (L.glob rfl)) (EvL.cons (Ev.name rfl) EvL.nil) V.sumN)) ?_)
  refine ExT.pre (Γ' := gLoop a ns (E0, [0, 1, 2, 3], ns.sum)) ?_ (subG (allCons rfl (allCons rfl (allCons rfl (allCons rfl (allCons rfl (allCons rfl (allCons rfl (allCons rfl allNil)))))))))
  refine ExT.consR (Ex1R.for (H := false) (ds := [.int ((4 : Nat) : Int), .int ((3 : Nat) : Int), .int ((2 : Nat) : Int), .int ((1 : Nat) : Int)]) (gLoop a ns) (fun i b => P.Inv i b.1 b.2.1 b.2.2) (fun b d => (Str.ofString "k", Slot.d d) :: gLoop a ns b) (E0, [0, 1, 2, 3], ns.sum) (Src.tup (Ev.cast (by walk_at "ev") (by rfl))) hI0 (fun i b d _ _ => As.name) ?_) ?_
  · rintro i ⟨E, l, t⟩ d hd hI
    simp only at hI ⊢
    have hi : i < 4 := (List.getElem?_eq_some_iff.mp hd).1
    have hdi : d = .int ((4 - i : Nat) : Int) := by
      rcases lt4 hi with rfl | rfl | rfl | rfl <;> (cases hd; rfl)
    subst hdi
    obtain ⟨q1, q2, q3, q4, q5⟩ := P.step i E l t hi hI
    generalize hx : l.getD (t % (4 - i)) 0 = x at q2 q4 q5
    have hk : t % (4 - i) < l.length := by rw [q1]; exact Nat.mod_lt _ (by omega)
    refine ExNR.cons (Ex1R.callP (Γ' := (Str.ofString "letters", Slot.own (natsD (l.eraseIdx (t % (4 - i))))) :: (Str.ofString "k", Slot.d (.int ((4 - i : Nat) : Int))) :: gLoop a ns (E, l, t)) (P := LeastOf (E ++ madeOf E x)) (Ev.glob rfl (L.glob rfl)) (EvLP.cons (Ev.p (Ev.name rfl)) (EvLP.cons (EvP.popN (l := l) (i := t % (4 - i)) rfl (Ev.bin (Ev.name rfl) (Ev.name rfl) (V.modNN (by omega))) hk (by omega)) EvLP.nil)) hot hdt (by rw [hx]; exact (c_taken (n := n) L q3 q2 q4).le (by omega))) ?_
    rintro Γ2 ⟨d2, ⟨es2, hp2, hs2, rfl⟩, rfl⟩
    refine ((ExN.ofEx1 (Ex1.aug (d := .int ((t / (4 - i) : Nat) : Int)) rfl (Ev.name rfl) (V.ifdiv (by omega) (by omega)))).r).mono ?_
    rintro Γ3 rfl
    refine ⟨gLoop a ns (keptOf es2, l.eraseIdx (t % (4 - i)), t / (4 - i)), ⟨_, q5 es2 hp2 hs2, rfl⟩, ?_⟩
    exact subG (allCons rfl (allCons rfl (allCons rfl (allCons rfl (allCons rfl (allCons rfl (allCons rfl (allCons rfl allNil))))))))
  · rintro Γ2 ⟨⟨E, l, t⟩, hI, rfl⟩
    exact h E l t hI
end Mine
end
-- F19
section
open PySem PySem.W PyProof.Rows
set_option Elab.async false
set_option linter.all false
set_option maxRecDepth 100000
namespace Mine
variable {C : Cx} {n : Nat} {sc : Scope} {Γ Γ' Γ'' : Gam} {env : Env} {Pr : Addr → Obj → Prop} {U m : Addr → Prop} {ad : Str → Option Addr} {s s' s₁ : Shared} {A : Ads}
theorem masks_len : masksOf.length = 81 := by decide +kernel
noncomputable def gCases (a : Addr) (ns : List Nat) (b : List Entry × List Nat × Nat) : Gam :=
  (Str.ofString "follows", Slot.d (.list ((followsL ns).map .bool))) :: (Str.ofString "masks", Slot.d (.list (natsD masksOf))) :: (Str.ofString "cases", Slot.d (.list (natsD (ns.map caseN)))) :: gLoop a ns b
theorem lw_cases (L : Lay C A) {a : Addr} {ns : List Nat} (h3 : ns.length = 3) {b : List Entry × List Nat × Nat} {d : D}
    (h : ExT C (n+9) (scOf 75) (gCases a ns b) ((bodyOf 75).drop 11) d) : ExT C (n+9) (scOf 75) (gLoop a ns b) ((bodyOf 75).drop 8) d := by
  obtain ⟨n0, n1, n2, rfl⟩ := threeOf h3
  refine ExT.cons (Ex1.lcC (LC.mapT [("deed", _), ("row", _)] [n0, n1, n2] (fun N => [.str (deeds.getD (N % 8) ""), dRow (rowN N)]) (fun N => .int (caseN N : Nat)) [] (Src.list (Ev.name rfl) ?_) allNil ?_ (hlen := by simp))) ?_
  · intro d hd _; obtain ⟨_, _, rfl⟩ := List.mem_map.mp hd; exact ⟨_, rfl⟩
  · intro N _
    exact Ev.call L.cases (L.glob rfl) (EvL.cons (Ev.name rfl) (EvL.cons (Ev.name rfl) EvL.nil)) ((c_cases (n := n) L (Nat.mod_lt _ (by decide)) _ (rowN_ok N)).le (by lia))
  refine ExT.cons (Ex1.assign (d := .list (natsD masksOf)) (Ev.call0 L.masks (L.glob rfl) ((c_masks (n := n) L).le (by lia)))) ?_
  refine ExT.cons (Ex1.lcC (LC.mapN masksOf (fun (x : Nat) => .int (x : Int)) (fun mask => .bool ((caseN n0 &&& caseN n1 &&& caseN n2 &&& mask) == 0)) [(Str.ofString "cases", Slot.d (.list (natsD [caseN n0, caseN n1, caseN n2])))] (Src.list (Ev.name rfl)) (allCons ⟨rfl, rfl, rfl⟩ allNil) ?_ (hlen := by rw [masks_len]; decide))) ?_
  · intro mask _
    refine Ev.cast (Ev.cmp (Ev.bin (Ev.bin (Ev.bin (a := .int (caseN n0 : Nat)) (b := .int (caseN n1 : Nat)) (Ev.sub (Ev.name rfl) Ev.int (V.itemL (by decide) (by decide) rfl)) (Ev.sub (Ev.name rfl) Ev.int (V.itemL (by decide) (by decide) rfl)) V.bandN) (b := .int (caseN n2 : Nat)) (Ev.sub (Ev.name rfl) Ev.int (V.itemL (by decide) (by decide) rfl)) V.bandN) (Ev.name rfl) V.bandN) Ev.int V.eq) ?_
    congr 1; rw [Bool.eq_iff_iff]; simp
  refine ExT.pre (Γ' := gCases a [n0, n1, n2] b) h ?_
  have e : (Str.ofString "follows", Slot.d (D.list (masksOf.map fun mask => .bool ((caseN n0 &&& caseN n1 &&& caseN n2 &&& mask) == 0)))) = (Str.ofString "follows", Slot.d (.list ((followsL [n0, n1, n2]).map .bool))) := by
    unfold followsL; rw [List.map_map]; rfl
  rw [e]
  exact fun _ _ h => h

theorem Ev.digit {code k : Nat} {x y xp yp ip pos1 pos2 pos3 i2p} (hx : Γ.lookup x = some (.d (.int (code : Int)))) (hy : Γ.lookup y = some (.d (.int (k : Int)))) (hk : k < 4) (d1 : (x == ("__debug__" : Str)) = false := by decide) (d2 : (y == ("__debug__" : Str)) = false := by decide) :
    Ev C n sc Γ (.BinOp (.BinOp (.Name x xp) .FloorDiv (.BinOp (.Constant (.int 3) 0 ip) .Pow (.Name y yp) pos1) pos2) .Mod (.Constant (.int 3) 0 i2p) pos3) (.int (digit code k : Nat)) := by
  have h3 : 3 ^ k ≤ 27 := by rcases lt4 hk with rfl | rfl | rfl | rfl <;> decide
  exact Ev.bin (Ev.bin (Ev.name hx d1) (Ev.bin Ev.int (Ev.name hy d2) (V.pow3N (by lia))) (V.divNN (Nat.pow_pos (by decide)) (by lia))) Ev.int (V.modN (by decide))
theorem digit_lt (code k : Nat) : digit code k < 3 := Nat.mod_lt _ (by decide)
theorem digit_le (code k : Nat) : digit code k * 3 ^ k ≤ code := by
  unfold digit
  have h1 : code / 3 ^ k % 3 ≤ code / 3 ^ k := Nat.mod_le _ _
  exact Nat.le_trans (Nat.mul_le_mul_right _ h1) (Nat.div_mul_le_self _ _)

noncomputable def dueStep (ns : List Nat) (due : List Str) (code : Nat) : List Str := if dueB (followsL ns) code then due ++ [dueText code] else due
noncomputable def gDue (a : Addr) (ns : List Nat) (b : List Entry × List Nat × Nat) (due : List Str) : Gam := (Str.ofString "due", Slot.own (due.map .str)) :: gCases a ns b
theorem follow_item {v i : Expr} {F : List Bool} {k : Nat} (hk : k < F.length) (hl : F.length ≤ 1000) (hs : ∀ o j, subscripted i false o j = operate [o, j] (getItem o j) := by intro _ _; rfl) : VOp2 C n (subscriptTail v i) (.list (F.map .bool)) (.int (k : Int)) (.bool (F.getD k false)) :=
  V.itemLM (f := D.bool) (by rw [List.getD_eq_getElem?_getD, List.getElem?_eq_getElem hk]; rfl) (by lia) hs
noncomputable def dueBody : List Stmt := forBody ((bodyOf 75).getD 12 default)

theorem due_body (L : Lay C A) {a : Addr} {ns : List Nat} {b : List Entry × List Nat × Nat} {due : List Str} {code : Nat} (hc : code < 81) (hd : due.length ≤ 100) :
    ExN C (n+9) (scOf 75) ((Str.ofString "code", Slot.d (.int (code : Int))) :: gDue a ns b due) dueBody (gDue a ns b (dueStep ns due code)) := by
  have hF : (followsL ns).length = 81 := by unfold followsL; rw [List.length_map, masks_len]
  generalize hFF : followsL ns = F at hF
  refine ExN.ofEx1 (Ex1.ite (c := dueB F code) (Tst.and2 (Tst.of (Ev.sub (Ev.name rfl) (Ev.name rfl) (by rw [← hFF] at *; exact follow_item (by omega) (by omega)))) fun _ => Tst.cast (Tst.cmp (Ev.lc (LC.filN (List.range 4) (fun (k : Nat) => .int (k : Int)) (fun (k : Nat) => .int (k : Int)) (fun k => decide (0 < digit code k) && F.getD (code - digit code k * 3 ^ k) false) [(Str.ofString "code", Slot.d (.int (code : Int))), (Str.ofString "follows", Slot.d (.list (F.map .bool)))] (Src.range (Ev.glob rfl (L.glob rfl)) Ev.int (by decide) (by decide)) (allCons ⟨rfl, rfl, rfl⟩ (allCons ⟨rfl, by rw [← hFF]; rfl, rfl⟩ allNil)) ?_ ?_)) (Ev.list EvL.nil) V.eqNil) ?_) ?_ ?_)
  · intro k hk
    have hk := List.mem_range.mp hk
    refine Tst.and2 (Tst.cast (Tst.cmp (Ev.digit rfl rfl hk) Ev.int V.gt) natPos) fun _ => Tst.of (Ev.sub (b := .int ((code - digit code k * 3 ^ k : Nat) : Int)) (Ev.name rfl) (Ev.cast (Ev.bin (Ev.name rfl) (Ev.bin (Ev.digit rfl rfl hk) (Ev.bin Ev.int (Ev.name rfl) (V.pow3N (by omega))) (V.mul ?_)) V.sub) ?_) (follow_item (by omega) (by omega)))
    · rcases lt4 hk with rfl | rfl | rfl | rfl <;> exact IntMulOk.of_right (by decide)
    · have := digit_le code k
      congr 1
      rw [← Int.natCast_mul]; omega
  · intro k _ _; exact Ev.name rfl
  · rw [isEmpty_map]
  · intro hb
    have e : dueStep ns due code = due ++ [dueText code] := by unfold dueStep; rw [hFF, hb]; rfl
    rw [e]
    refine ExN.sub (ExN.ofEx1 (Ex1.append (ds := due.map .str) (d := .str (dueText code)) rfl (Ev.join (x := "") (ys := (List.range 4).map fun k => dueSign code k) Ev.str (Ev.cast (Ev.lc (LC.mapN (List.range 4) (fun (k : Nat) => .int (k : Int)) (fun k => .str (dueSign code k)) [(Str.ofString "code", Slot.d (.int (code : Int)))] (Src.range (Ev.glob rfl (L.glob rfl)) Ev.int (by decide) (by decide)) (allCons ⟨rfl, rfl, rfl⟩ allNil) ?_)) ?_) (by decide) ?_) (by simp; omega))) ?_
    · intro k hk
      have hk := List.mem_range.mp hk
      have hd3 := digit_lt code k
      refine Ev.sub (Ev.tup (EvL.cons Ev.str (EvL.cons (Ev.sub (d := .str ⟨#[97 + k]⟩) Ev.str (Ev.name rfl) ?_) (EvL.cons (Ev.sub (d := .str ⟨#[65 + k]⟩) Ev.str (Ev.name rfl) ?_) EvL.nil)))) (Ev.digit rfl rfl hk) ?_
      · rcases lt4 hk with rfl | rfl | rfl | rfl <;> exact V.itemS (by decide) (by decide) rfl
      · rcases lt4 hk with rfl | rfl | rfl | rfl <;> exact V.itemS (by decide) (by decide) rfl
      · unfold dueSign
        rcases lt3 hd3 with h | h | h <;> rw [h] <;> exact V.itemT (by decide) (by decide) rfl
    · rw [List.map_map]; rfl
    · have : ∀ k, (dueSign code k).length ≤ 1 := by
        intro k; unfold dueSign
        split
        · decide
        · split <;> exact Nat.le_refl 1
      have h0 := this 0; have h1 := this 1; have h2 := this 2; have h3 := this 3
      simp only [List.range_succ, List.range_zero, List.map_append, List.map_cons, List.map_nil, List.nil_append, List.cons_append, List.sum_cons, List.sum_nil, List.length_cons, List.length_nil]
      omega
    · refine fun y sl hy => ?_
      have e2 : (due ++ [dueText code]).map D.str = due.map .str ++ [.str (dueText code)] := by simp
      unfold gDue at hy
      rw [e2] at hy
      revert hy
      exact cons_sub (skip_none rfl (skip_same sub_refl)) y sl
  · intro hb
    have e : dueStep ns due code = due := by unfold dueStep; rw [hFF, hb]; rfl
    rw [e]
    exact ExN.sub ExN.nil (sub_cons rfl fun _ _ h => h)

theorem due_all (F : List Bool) : ∀ (l : List Nat) (k : List Str), l.foldl (fun due code => if dueB F code then due ++ [dueText code] else due) k = k ++ (l.filter (dueB F)).map dueText := fun l => by
  induction l with
  | nil => exact fun k => (List.append_nil k).symm
  | cons c l ih =>
    intro k
    rw [List.foldl_cons, ih, List.filter_cons]
    by_cases h : dueB F c
    · rw [if_pos h, if_pos h]; exact List.append_assoc k [_] _
    · rw [if_neg h, if_neg h]
theorem lw_due (L : Lay C A) {a : Addr} {ns : List Nat} {b : List Entry × List Nat × Nat} {d : D}
    (h : ExT C (n+9) (scOf 75) (gDue a ns b (dueL ns)) ((bodyOf 75).drop 13) d) : ExT C (n+9) (scOf 75) (gCases a ns b) ((bodyOf 75).drop 11) d := by
  have e : dueL ns = (List.range 81).foldl (dueStep ns) [] := by
    have := due_all (followsL ns) (List.range 81) []
    rw [List.nil_append] at this
    exact this.symm
  rw [e] at h
  refine ExT.cons (Ex1.own (ds := []) EvL.nil) (ExT.cons (Ex1.foldN (H := false) (sc := scOf 75) (List.range 81) (fun (k : Nat) => .int (k : Int)) (dueStep ns) [] (gDue a ns b) (fun due (code : Nat) => (Str.ofString "code", Slot.d (.int (code : Int))) :: gDue a ns b due) (fun i due => due.length ≤ i) (by simp) (Src.range (Ev.glob rfl (L.glob rfl)) Ev.int (by decide) (by decide)) ?_ (fun _ _ _ _ _ _ => As.name) ?_) h)
  · intro i due code _ _ hI
    unfold dueStep; split
    · rw [List.length_append, List.length_singleton]; lia
    · lia
  · intro i due code hi hc hI
    have hi : i < 81 := by simpa using hi
    exact due_body L (List.mem_range.mp hc) (by lia)
end Mine
end
-- F20
section
open PySem PySem.W PyProof.Rows
set_option Elab.async false
set_option linter.all false
set_option maxRecDepth 100000
namespace Mine
variable {C : Cx} {n : Nat} {sc : Scope} {Γ Γ' Γ'' : Gam} {env : Env} {Pr : Addr → Obj → Prop} {U m : Addr → Prop} {ad : Str → Option Addr} {s s' s₁ : Shared} {A : Ads}
theorem Src.str {iter target} {x : Str} (h : Ev C n sc Γ iter (.str x)) (ha : x.cps.all (· < 128) = true) : Src C n sc Γ iter target false (x.cps.toList.map fun c => D.str ⟨#[c]⟩) := .mk fun env A Pr U ad s R F => by
  refine wpAny_after (h.run env A Pr U ad s R F) fun v s₁ ⟨st, r⟩ => ?_
  cases r using Rep.caseStr with
  | str t =>
    have F₁ := F.step st
    refine wpAny_pyIter_ascii ha ?_
    generalize hs2 : ({ s₁ with heap := s₁.heap.push { cls := .type "str_ascii_iterator", data := .fields #[.str x t, .int 0 0] } } : Shared) = s₂
    have st₂ : Stp C s₁ s₂ := hs2 ▸ Stp.push _ _
    have hI : s₂.heap.IsStrIter s₁.heap.objs.size "str_ascii_iterator" x t 0 := ⟨{ cls := .type "str_ascii_iterator", data := .fields #[.str x t, .int 0 0] }, by rw [← hs2]; exact Heap.get?_push_size _ rfl, rfl, rfl⟩
    have hlen : (x.cps.toList.map fun c => D.str ⟨#[c]⟩).length = x.cps.size := by simp
    refine Made.ofWalks (t := false) (hlen ▸ Walks.strAscii R.1 s₁.heap.objs.size x t) F₁.pt st st₂ rfl hI ?_ ?_ ?_
    · rintro i h ⟨o, ho, hc, hd⟩
      exact ⟨o, _, _, ho, hc, hd, by decide, by decide⟩
    · intro b hb hbI
      simp only [List.mem_singleton] at hb
      exact absurd hb hbI
    · rintro i v ⟨c, u, hc, rfl⟩ d hd
      simp only [List.getElem?_map, Option.map_eq_some_iff] at hd
      obtain ⟨c', h1, rfl⟩ := hd
      have : c' = c := by
        rw [Array.getElem?_toList, hc] at h1; cases h1; rfl
      subst this
      exact ⟨.str _ _, fun h => by cases h⟩

theorem lower_nil : Txt.lower ⟨#[]⟩ = ⟨#[]⟩ := by decide +kernel
theorem fine_nil : Fine ⟨#[]⟩ := ⟨by decide, by decide +kernel, by decide +kernel⟩
theorem blanks_all {E : List Entry} (hok : ∀ e ∈ E, e.ok) : ((tableOf E).filter fun p => Txt.lower p.1 == Txt.lower ⟨#[]⟩).map (fun p => D.str p.2) = (List.range E.length).map fun i => D.str (V.numStr i) := by
  unfold tableOf
  rw [List.filter_append, List.map_append]
  have h1 : (pairsOf E).filter (fun p => Txt.lower p.1 == Txt.lower ⟨#[]⟩) = [] := by
    rw [List.filter_eq_nil_iff]
    intro p hp
    unfold pairsOf at hp
    rw [pairsOf_flat, List.nil_append, List.mem_flatMap] at hp
    obtain ⟨⟨e, i⟩, h1, h2⟩ := hp
    have hm := List.mem_zipIdx h1
    have he : e.ok := hok _ (by have h3 := hm.2.2; rw [h3]; exact List.getElem_mem _)
    unfold pairsAt at h2
    obtain ⟨k, h3, rfl⟩ := List.mem_map.mp h2
    have hk := List.mem_range.mp (List.mem_filter.mp h3).1
    rw [lower_sgn _ _ (he k hk) hk, lower_nil]
    intro h
    have := congrArg Str.cps (eq_of_beq h)
    simp at this
  rw [h1, List.map_nil, List.nil_append]
  unfold blanks
  rw [List.filter_map, List.map_map]
  have : (List.range E.length).filter ((fun p : Str × Str => Txt.lower p.1 == Txt.lower ⟨#[]⟩) ∘ fun i => ((⟨#[]⟩ : Str), V.numStr i)) = List.range E.length := by
    rw [List.filter_eq_self]
    intro i _
    simp
  rw [this]; rfl
theorem table_fine {E : List Entry} (hok : ∀ e ∈ E, e.ok) (hlen : E.length < 64) : FineHs (tableOf E) := by
  intro p hp
  unfold tableOf at hp
  rcases List.mem_append.mp hp with h | h
  · exact pairs_fine hok hlen p h
  · obtain ⟨i, h1, rfl⟩ := List.mem_map.mp h
    exact ⟨fine_nil, fine_num i (by have := List.mem_range.mp h1; lia)⟩
theorem table_len (E : List Entry) : (tableOf E).length ≤ 5 * E.length := by
  unfold tableOf blanks
  have := pairs_len E
  simp; lia

noncomputable def gTold (a : Addr) (ns : List Nat) (b : List Entry × List Nat × Nat) : Gam :=
  (Str.ofString "told", Slot.d (.list ((toldL b.1).map .str))) :: (Str.ofString "pairs", Slot.d (hsD (tableOf b.1))) :: (Str.ofString "table", Slot.d (hdrD (tableOf b.1))) :: gDue a ns b (dueL ns)

theorem lw_told (L : Lay C A) {a : Addr} {ns : List Nat} {b : List Entry × List Nat × Nat} (hE : EsOK b.1) {d : D}
    (h : ExT C (n+9) (scOf 75) (gTold a ns b) ((bodyOf 75).drop 16) d) : ExT C (n+9) (scOf 75) (gDue a ns b (dueL ns)) ((bodyOf 75).drop 13) d := by
  obtain ⟨K, H⟩ := L.hdr
  obtain ⟨E, lt⟩ := b
  have hok : ∀ e ∈ E, e.ok := fun e h => (hE.2 e h).1
  have hlen : E.length < 64 := hE.1
  have tl := table_len E
  have tf := table_fine hok hlen
  refine ExT.cons (Ex1.assign (d := hdrD (tableOf E)) (Ev.makeH (n := n+6) L H (Ev.cast (Ev.bin (Ev.call L.pairs (L.glob rfl) (EvL.cons (Ev.name rfl) EvL.nil) ((c_pairs (n := n) L (by lia) hok).le (by lia))) (Ev.lc (LC.mapN (List.range E.length) (fun (i : Nat) => .int (i : Int)) (fun i => V.pairS (⟨#[]⟩, V.numStr i)) [] (Src.cast (Src.range (k := (E.length : Int)) (Ev.glob rfl (L.glob rfl)) (Ev.cast (Ev.callB (Ev.glob rfl (L.glob rfl)) (EvL.cons (Ev.name rfl) EvL.nil) (V.lenL (ds := E.map dEntry) (by simp; lia))) (by simp)) (by lia) (by lia)) ?_) allNil ?_ (hlen := by simp; lia))) (V.addL (xs := (pairsOf E).map V.pairS) ?_)) ?_) tf)) ?_
  · simp [nats]
  · intro i hi
    have := List.mem_range.mp hi
    exact Ev.tup (EvL.cons Ev.str (EvL.cons (Ev.callT (Ev.glob rfl (L.glob rfl)) (EvL.cons (Ev.name rfl) EvL.nil) (V.strInt (by lia))) EvL.nil))
  · have := pairs_len E
    simp; lia
  · show D.list _ = D.list ((tableOf E).map V.pairS)
    unfold tableOf blanks
    rw [List.map_append, List.map_map]; rfl
  refine ExT.cons (Ex1.assign (d := hsD (tableOf E)) (Ev.methH0 H (Ev.name rfl) ((c_items (n := n) L H (by lia)).le (by lia)) H.items (by simp))) ?_
  have hget : (List.map (fun p : Str × Str => D.str p.2) ((tableOf E).filter fun p => Txt.lower p.1 == Txt.lower ⟨#[]⟩)) = (List.range E.length).map fun i => D.str (V.numStr i) := blanks_all hok
  refine ExT.cons (Ex1.lcL (LC.mapN (List.range E.length) (fun i => .str (V.numStr i)) (fun i => .str (toldText E i)) [(Str.ofString "pairs", Slot.d (hsD (tableOf E)))] (Src.cast (Src.list (Ev.methH H (Ev.name rfl) (EvL.cons (d := .str ⟨#[]⟩) (Ev.cast Ev.str (by rfl)) EvL.nil) EvK.nil ((c_getAll (n := n) L H (by lia) (by rw [lower_nil]; exact fine_nil) (by decide) fun p hp => (tf p hp).1.1).le (by lia)) H.getAll (by simp))) hget) (allCons ⟨rfl, rfl, rfl⟩ allNil) ?_ (hlen := by simp; lia))) ?_
  · intro i hi
    refine Ev.join (x := "") (ys := signs8.filter fun x => decide ((x, V.numStr i) ∈ tableOf E)) Ev.str (Ev.cast (Ev.lc (LC.filN signs8 D.str D.str (fun x => decide ((x, V.numStr i) ∈ tableOf E)) [(Str.ofString "pairs", Slot.d (hsD (tableOf E))), (Str.ofString "place", Slot.d (.str (V.numStr i)))] (Src.cast (Src.str Ev.str (by decide +kernel)) (by rfl)) (allCons ⟨rfl, rfl, rfl⟩ (allCons ⟨rfl, rfl, rfl⟩ allNil)) ?_ ?_)) (by rfl)) (by decide) ?_
    · intro x _
      exact Tst.cmp (a := V.pairS (x, V.numStr i)) (Ev.tup (EvL.cons (Ev.name rfl) (EvL.cons (Ev.name rfl) EvL.nil))) (Ev.name rfl) V.inPairs
    · intro x _ _; exact Ev.name rfl
    · have h1 : ∀ (l : List Str), (∀ x ∈ l, x.length ≤ 1) → ∀ p : Str → Bool, ((l.filter p).map (·.length)).sum ≤ l.length ∧ (l.filter p).length ≤ l.length := by
        intro l hl p
        refine ⟨?_, List.length_filter_le _ _⟩
        induction l with
        | nil => simp
        | cons x l ih =>
          have h2 := ih fun y hy => hl y (List.mem_cons_of_mem _ hy)
          have h3 := hl x (by simp)
          rw [List.filter_cons]
          split
          · simp only [List.map_cons, List.sum_cons, List.length_cons]; lia
          · simp only [List.length_cons]; lia
      obtain ⟨q1, q2⟩ := h1 signs8 (by decide) fun x => decide ((x, V.numStr i) ∈ tableOf E)
      have : signs8.length = 8 := rfl
      lia
  refine ExT.pre (Γ' := gTold a ns (E, lt)) h ?_
  have e : (Str.ofString "told", Slot.d (D.list ((List.range E.length).map fun i => D.str (toldText E i)))) = (Str.ofString "told", Slot.d (.list ((toldL E).map .str))) := by
    unfold toldL; rw [List.map_map]; rfl
  rw [e]
  exact fun _ _ h => h

theorem join_nil_cps : ∀ l : List Str, (Str.join "" l).cps.toList = l.flatMap fun x => x.cps.toList
  | [] => rfl
  | [x] => by simp [Str.join]
  | x :: y :: r => by
    have ih := join_nil_cps (y :: r)
    show (Str.append (Str.append x "") (Str.join "" (y :: r))).cps.toList = _
    have e0 : (Str.ofString "").cps = #[] := rfl
    simp only [Str.append, Array.toList_append, ih, e0]
    simp
theorem strOk_told {E : List Entry} {x : Str} (h : x ∈ toldL E) : PyData.strOk x = true := by
  obtain ⟨i, _, rfl⟩ := List.mem_map.mp h
  unfold PyData.strOk toldText
  rw [← Array.all_toList, join_nil_cps, List.all_eq_true]
  intro c hc
  obtain ⟨y, hy, hcy⟩ := List.mem_flatMap.mp hc
  have hy := (List.mem_filter.mp hy).1
  have : ∀ y ∈ signs8, ∀ c ∈ y.cps.toList, decide (c < 0x110000) = true := by decide
  exact this y hy c hcy
theorem lw_sorted (L : Lay C A) {a : Addr} {ns : List Nat} {b : List Entry × List Nat × Nat} (hp : (toldL b.1).Perm (dueL ns)) (hl : (toldL b.1).length < 64) {d : D}
    (h : ExT C (n+9) (scOf 75) (gTold a ns b) ((bodyOf 75).drop 17) d) : ExT C (n+9) (scOf 75) (gTold a ns b) ((bodyOf 75).drop 16) d := by
  refine ExT.ite (c := false) (Tst.own (Tst.sortedNe (l1 := toldL b.1) (l2 := dueL ns) (Ev.glob rfl (L.glob rfl)) (Ev.glob rfl (L.glob rfl)) (Ev.name rfl) (Ev.name rfl) hp hl fun x hx => strOk_told hx)) (fun h => by cases h) (fun _ => h)
end Mine
end
-- F21
section
open PySem PySem.W PyProof.Rows
set_option Elab.async false
set_option linter.all false
set_option maxRecDepth 100000
namespace Mine
variable {C : Cx} {n : Nat} {sc : Scope} {Γ Γ' Γ'' : Gam} {env : Env} {Pr : Addr → Obj → Prop} {U m : Addr → Prop} {ad : Str → Option Addr} {s s' s₁ : Shared} {A : Ads}
theorem putAll_nodup {α : Type} : ∀ (ps l : List (TKey × α)), (∀ p ∈ ps, p.1 ∉ l.map (·.1)) → (ps.map (·.1)).Nodup → putAll l ps = l ++ ps := fun ps => by
  induction ps with
  | nil => intro l _ _; exact (List.append_nil l).symm
  | cons p ps ih =>
    intro l h hn
    have h1 : putT l p.1 p.2 = l ++ [p] := by unfold putT; rw [if_neg (h p (by simp))]
    show putAll (putT l p.1 p.2) ps = _
    rw [List.map_cons, List.nodup_cons] at hn
    rw [h1, ih (l ++ [p]) ?_ hn.2]
    · exact List.append_assoc l [p] ps
    · intro q hq
      rw [List.map_append, List.mem_append]
      rintro (e | e)
      · exact h q (.tail _ hq) e
      · exact hn.1 ((List.mem_singleton.mp e : q.1 = p.1) ▸ List.mem_map_of_mem (f := (·.1)) hq)
theorem b2iNat {p : Prop} [Decidable p] : b2i (decide p) = ((if p then 1 else 0 : Nat) : Int) := by by_cases h : p <;> simp [h, b2i]

noncomputable def lawFor : Stmt := (bodyOf 75).getD 17 default
theorem code_lt (e : Entry) : codeE e < 81 := by
  unfold codeE
  have h : ∀ k, (if 0 < e.at k then 1 else 0) + (if 1 < e.at k then 1 else 0) ≤ 2 := fun k => by split <;> split <;> lia
  have h0 := h 0; have h1 := h 1; have h2 := h 2; have h3 := h 3
  simp only [List.range_succ, List.range_zero, List.map_append, List.map_cons, List.map_nil, List.nil_append, List.cons_append, List.sum_cons, List.sum_nil]
  generalize (if 0 < e.at 0 then 1 else 0) + (if 1 < e.at 0 then 1 else 0) = x0 at *
  generalize (if 0 < e.at 1 then 1 else 0) + (if 1 < e.at 1 then 1 else 0) = x1 at *
  generalize (if 0 < e.at 2 then 1 else 0) + (if 1 < e.at 2 then 1 else 0) = x2 at *
  generalize (if 0 < e.at 3 then 1 else 0) + (if 1 < e.at 3 then 1 else 0) = x3 at *
  lia

theorem Ev.callers {e : Entry} {x xp ip pos} (hx : Γ.lookup x = some (.d (dEntry e))) (hd : (x == ("__debug__" : Str)) = false := by decide) : Ev C n sc Γ (.Subscript (.Name x xp) (.Constant (.int 4) 0 ip) pos) (dCallers e.callers) := Ev.sub (Ev.name hx hd) Ev.int (V.itemT (by decide) (by decide) rfl)
theorem Ev.tally {e : Entry} {x xp ip pos} (hx : Γ.lookup x = some (.d (dEntry e))) (hd : (x == ("__debug__" : Str)) = false := by decide) : Ev C n sc Γ (.Subscript (.Name x xp) (.Constant (.int 5) 0 ip) pos) (.list (natsD e.tally)) := Ev.sub (Ev.name hx hd) Ev.int (V.itemT (by decide) (by decide) rfl)

theorem lw_entry (L : Lay C A) {a : Addr} {ns : List Nat} {b : List Entry × List Nat × Nat} {e : Entry} (h3 : ns.length = 3) (ok : EntryOK ns e) :
    ExN C (n+9) (scOf 75) ((Str.ofString "entry", Slot.d (dEntry e)) :: gTold a ns b) (forBody lawFor) (gTold a ns b) := by
  let Γe : Gam := (Str.ofString "entry", Slot.d (dEntry e)) :: gTold a ns b
  have hcode := code_lt e
  refine ExN.cons (Ex1.assign (d := .int (masksOf.getD (codeE e) 0 : Nat)) (Ev.sub (a := .list (natsD masksOf)) (b := .int (codeE e : Nat)) (Ev.name rfl) (Ev.callB (Ev.glob rfl (L.glob rfl)) (EvL.cons (Ev.cast (Ev.lc (LC.mapN (List.range 4) (fun (k : Nat) => .int (k : Int)) (fun k => .int ((3 ^ k * ((if 0 < e.at k then 1 else 0) + (if 1 < e.at k then 1 else 0)) : Nat) : Int)) [(Str.ofString "entry", Slot.d (dEntry e))] (Src.range (Ev.glob rfl (L.glob rfl)) Ev.int (by decide) (by decide)) (allCons ⟨rfl, rfl, rfl⟩ allNil) ?_)) ?_) EvL.nil) V.sumN) (V.itemL (by lia) (by lia) (natsD_get (by rw [masks_len]; exact hcode))))) ?_
  · intro k hk
    have hk := List.mem_range.mp hk
    refine Ev.cast (Ev.bin (Ev.bin Ev.int (Ev.name rfl) (V.pow3N (by lia))) (Ev.bin (Ev.cmp (Ev.num rfl (Ev.name rfl) hk) Ev.int V.gt) (Ev.cmp (Ev.num rfl (Ev.name rfl) hk) Ev.int V.gt) V.addb) (V.mul ?_)) ?_
    · rcases lt4 hk with rfl | rfl | rfl | rfl <;> exact IntMulOk.of_left (by decide)
    · rw [b2iNat, b2iNat, ← Int.natCast_add, ← Int.natCast_mul]
      congr 3
      · congr 1
        · congr 1
          exact propext (by lia)
        · congr 1
          exact propext (by lia)
  · show D.list _ = D.list (natsD _)
    unfold natsD
    rw [List.map_map]; rfl
  refine ExN.cons (Γ' := (Str.ofString "left", Slot.d (.int (masksOf.getD (codeE e) 0 : Nat))) :: Γe) (Ex1.ite (c := false) (Tst.cast (Tst.cmp (Ev.call L.cc (L.glob rfl) (EvL.cons (Ev.callers rfl) EvL.nil) ((c_cc (n := n) L e.callers).le (by lia))) (Ev.bin (a := .int ((16 : Nat) : Int)) (b := .int ((2 ^ e.size : Nat) : Int)) Ev.int (Ev.bin (b := .int (e.size : Nat)) Ev.int (Ev.cast (Ev.callB (Ev.glob rfl (L.glob rfl)) (EvL.cons (Ev.lc (LC.filN e.nums (fun (x : Nat) => .int (x : Int)) (fun (x : Nat) => .int (x : Int)) (fun x => decide (0 < x)) [] (Src.tup (Ev.slice (Ev.name rfl) EvO.none (EvO.some Ev.int) (V.sliceT (k := 4) (by simp) (by simp)))) allNil ?_ ?_ (hlen := by simp [Entry.nums]))) EvL.nil) (V.lenL ?_)) ?_) (V.pow2N ?_)) (V.divNN (Nat.pow_pos (by decide)) ?_)) V.lt) ?_) (fun h => by cases h) (fun _ => ExN.nil)) ?_
  · intro x _
    exact Tst.cast (Tst.cmp (Ev.name rfl) Ev.int V.gt) natPos
  · intro x _ _
    exact Ev.name rfl
  · rw [List.length_map]
    exact Nat.le_trans (List.length_filter_le _ _) (by simp [Entry.nums])
  · rw [List.length_map]; rfl
  · have : e.size ≤ 4 := by unfold Entry.size; exact Nat.le_trans (List.length_filter_le _ _) (by simp [Entry.nums])
    lia
  · have : e.size ≤ 4 := by unfold Entry.size; exact Nat.le_trans (List.length_filter_le _ _) (by simp [Entry.nums])
    exact Nat.lt_of_le_of_lt (Nat.pow_le_pow_right (by decide) this) (by decide)
  · have := ok.cnt
    rw [natLt, decide_eq_false_iff_not]
    unfold sumC at this
    lia
  refine ExN.cons (Γ' := (Str.ofString "left", Slot.d (.int (leftOf ns e : Nat))) :: Γe) (Ex1.fold (H := true) e.callers (fun p => keyD p.1) (fun l p => l &&& caseN (ns.getD p.1.2.1.toNat 0)) (masksOf.getD (codeE e) 0) (fun (l : Nat) => (Str.ofString "left", Slot.d (.int (l : Int))) :: Γe)
    (fun (l : Nat) p => (Str.ofString "name", Slot.d (.str p.1.2.2)) :: (Str.ofString "place", Slot.d (.int p.1.2.1)) :: (Str.ofString "text", Slot.d (.str p.1.1)) :: (Str.ofString "left", Slot.d (.int (l : Int))) :: Γe) (fun _ => True) trivial (Src.cast (Src.keysT (Ev.callers rfl)) (by simp)) (fun _ _ _ _ => trivial) (fun _ _ _ _ => As.tup (ps := [(Str.ofString "text", _), (Str.ofString "place", _), (Str.ofString "name", _)])) ?_) ?_
  · intro l p hp _
    obtain ⟨k, hk, hpk⟩ := ok.pl p hp
    have e1 : p.1.2.1.toNat = k := by rw [hpk]; rfl
    rw [e1, hpk]
    refine ExN.sub (ExN.ofEx1 (Ex1.assign (d := .int ((l &&& caseN (ns.getD k 0) : Nat) : Int)) (Ev.bin (Ev.name rfl) (Ev.sub (a := .list (natsD (ns.map caseN))) (b := .int (k : Int)) (d := .int (caseN (ns.getD k 0) : Nat)) (Ev.name rfl) (Ev.name rfl) ?_) V.bandN))) (cons_sub (skip_none rfl (skip_none rfl (skip_none rfl (skip_same sub_refl)))))
    have hk' : k < (ns.map caseN).length := by simp; lia
    have := natsD_get hk'
    refine V.itemL (by lia) (by lia) (this.trans ?_)
    congr 3
    rw [List.getD_eq_getElem?_getD, List.getD_eq_getElem?_getD, List.getElem?_map, List.getElem?_eq_getElem (by lia)]; rfl
  refine ExN.cons (Γ' := (Str.ofString "left", Slot.d (.int (leftOf ns e : Nat))) :: Γe) (Ex1.ite (c := false) (Tst.cast (Tst.cmp (Ev.name rfl) Ev.int V.ne) ?_) (fun h => by cases h) (fun _ => ExN.nil)) ?_
  · rw [ok.left]; rfl
  have hkeys : (tallyC ns e).map (fun p => (p.1, ((p.2 : Nat) : Int))) = ((List.range 3).filter fun k => decide (0 < e.tally.getD k 0)).map fun (k : Nat) => ((((ns.map textN).getD k "", (k : Int), "or") : TKey), ((e.tally.getD k 0 : Nat) : Int)) := by
    unfold tallyC; rw [List.map_map]; rfl
  refine ExN.cons (Γ' := (Str.ofString "left", Slot.d (.int (leftOf ns e : Nat))) :: Γe) (Ex1.ite (c := false) (Tst.cmp (a := .dictT ((e.callers.map fun p => (p.1, ((p.2 : Nat) : Int))).map fun p => (p.1, .int p.2))) (b := .dictT (((tallyC ns e).map fun p => (p.1, ((p.2 : Nat) : Int))).map fun p => (p.1, .int p.2))) (Ev.cast (Ev.callers rfl) ?_) (Ev.cast (Ev.dcT (List.range 3) (fun (k : Nat) => .int (k : Int)) (fun k => ((ns.map textN).getD k "", (k : Int), "or")) (fun k => .int (e.tally.getD k 0 : Nat)) (fun k => decide (0 < e.tally.getD k 0)) [(Str.ofString "entry", Slot.d (dEntry e)), (Str.ofString "texts", Slot.d (.list ((ns.map textN).map .str)))] (Src.range (Ev.glob rfl (L.glob rfl)) Ev.int (by decide) (by decide)) (allCons ⟨rfl, rfl, rfl⟩ (allCons ⟨rfl, rfl, rfl⟩ allNil)) ?_ ?_ ?_) ?_) (V.neT ?_ ?_)) (fun h => by cases h) (fun _ => ExN.nil)) ?_
  · rw [List.map_map]; rfl
  · intro k hk
    have hk := List.mem_range.mp hk
    exact Tst.cast (Tst.cmp (Ev.sub (Ev.tally rfl) (Ev.name rfl) (V.itemL (by lia) (by lia) (natsD_get (by rw [ok.tl]; exact hk)))) Ev.int V.gt) natPos
  · intro k hk _
    have hk := List.mem_range.mp hk
    refine Ev.tup (EvL.cons (Ev.sub (Ev.name rfl) (Ev.name rfl) (V.itemLM (f := D.str) (l := ns.map textN) (k := k) ?_ (by lia))) (EvL.cons (Ev.name rfl) (EvL.cons Ev.str EvL.nil)))
    rw [List.getD_eq_getElem?_getD, List.getElem?_eq_getElem (by simp; lia)]; rfl
  · intro k hk _
    have hk := List.mem_range.mp hk
    exact Ev.sub (Ev.tally rfl) (Ev.name rfl) (V.itemL (by lia) (by lia) (natsD_get (by rw [ok.tl]; exact hk)))
  · rw [putAll_nodup, List.nil_append, hkeys, List.map_map]
    · rfl
    · intro p _; simp
    · rw [List.map_map]
      have hnd : ((List.range 3).filter fun k => decide (0 < e.tally.getD k 0)).Pairwise (· ≠ ·) := List.Pairwise.filter _ (List.nodup_iff_pairwise_ne.mp List.nodup_range)
      rw [List.nodup_iff_pairwise_ne, List.pairwise_map]
      refine hnd.imp ?_
      intro x y hxy h
      simp only [Function.comp, Prod.mk.injEq] at h
      exact hxy (by lia)
  · simp [ok.len]
  · intro p hp
    obtain ⟨q, hq, rfl⟩ := List.mem_map.mp hp
    exact List.mem_map_of_mem (f := fun p => (p.1, ((p.2 : Nat) : Int))) (ok.mem q hq)
  refine ExN.sub (ExN.ofEx1 (Ex1.ite (Γ' := (Str.ofString "left", Slot.d (.int (leftOf ns e : Nat))) :: Γe) (c := false) (Tst.cast (Tst.cmp (Ev.call L.cc (L.glob rfl) (EvL.cons (Ev.callers rfl) EvL.nil) ((c_cc (n := n) L e.callers).le (by lia))) (Ev.callB (Ev.glob rfl (L.glob rfl)) (EvL.cons (Ev.tally rfl) EvL.nil) V.sumN) V.ne) ?_) (fun h => by cases h) (fun _ => ExN.nil))) (sub_cons rfl (sub_cons rfl fun _ _ h => h))
  have := ok.sum
  unfold sumC at this
  rw [natNe, this]; simp

theorem lw_end (L : Lay C A) {a : Addr} {ns : List Nat} {b : List Entry × List Nat × Nat} (h3 : ns.length = 3) (ok : ∀ e ∈ b.1, EntryOK ns e) :
    ExT C (n+9) (scOf 75) (gTold a ns b) ((bodyOf 75).drop 17) (.bool true) := by
  refine ExT.cons (Ex1.fold (H := false) b.1 dEntry (fun (u : Unit) _ => u) () (fun _ => gTold a ns b) (fun _ e => (Str.ofString "entry", Slot.d (dEntry e)) :: gTold a ns b) (fun _ => True) trivial (Src.list (Ev.name rfl)) (fun _ _ _ _ => trivial) (fun _ _ _ _ => As.name) (fun _ e he _ => lw_entry L h3 (ok e he))) (ExT.ret Ev.bool)

/-- the law: True -/
theorem ex_law (L : Lay C A) {a : Addr} {vs : Array Value} {xs : List Int} {ns : List Nat} (hb : ∀ (m : Addr → Prop) (s : Shared), GS C m s → s.heap.IsList a vs ∧ RepL C (vw s.heap m) vs.toList (xs.map .int)) (hlen : xs.length ≤ 63) (hns : numRun xs = ns.map fun (x : Nat) => (x : Int)) (h3 : ns.length = 3) (P : PL ns) :
    ExT C (n+9) (scOf 75) (params ["script"] [.raw (.ref a)]) (bodyOf 75) (.bool true) :=
  lw_numbers (ss := []) L hb hlen hns h3 <| lw_loop L P h3 fun E l t hI =>
    let F := P.fin E l t hI
    lw_cases L h3 <| lw_due L <| lw_told L (b := (E, l, t)) F.ok <| lw_sorted L (b := (E, l, t)) F.perm F.few <| lw_end L h3 F.es
end Mine
end
-- L1
section
open PySem PySem.W PyProof.Rows
set_option Elab.async false
set_option linter.all false
namespace Mine
-- the plain law: clauses
abbrev okv (v : Nat) : Prop := v = 0 ∨ v = 1 ∨ v = 8
noncomputable def okc (c : Nat → Nat) : Prop := ∀ k, k < 4 → okv (c k)
noncomputable def updC (c : Nat → Nat) (x v : Nat) : Nat → Nat := fun k => if k = x then v else c k
noncomputable def Entry.within (e : Entry) (c : Nat → Nat) : Prop := ∀ k, k < 4 → e.at k = 0 ∨ e.at k = c k
noncomputable def TT (E : List Entry) (c : Nat → Nat) : Prop := ∃ e ∈ E, e.within c
theorem sub_iff {o e : Entry} : o.sub e = true ↔ o.within e.at := by
  unfold Entry.sub Entry.within
  rw [List.all_eq_true]
  constructor
  · intro h k hk
    have := h k (List.mem_range.mpr hk)
    simp at this
    exact this
  · intro h k hk
    have := h k (List.mem_range.mp hk)
    simp
    exact this
theorem within_trans {o e : Entry} {c : Nat → Nat} (h1 : o.within e.at) (h2 : e.within c) : o.within c := fun k hk => by
  rcases h1 k hk with h | h
  · exact .inl h
  · rcases h2 k hk with g | g
    · exact .inl (by lia)
    · exact .inr (by lia)
theorem within_self (e : Entry) : e.within e.at := fun k hk => .inr rfl
theorem all4 {P : Nat → Prop} (h0 : P 0) (h1 : P 1) (h2 : P 2) (h3 : P 3) : ∀ k, k < 4 → P k := by
  intro k hk
  rcases lt4 hk with rfl | rfl | rfl | rfl <;> assumption
noncomputable def sg (n : Nat) : Nat := if 0 < n then 1 else 0
theorem sg_le1 (n : Nat) : sg n ≤ 1 := by unfold sg; split <;> decide
theorem sg_0 {n : Nat} (h : sg n = 0) : n = 0 := by
  cases n with
  | zero => rfl
  | succ n => exact absurd h (by unfold sg; rw [if_pos (Nat.succ_pos n)]; decide)
theorem sg_mono {a b : Nat} (h : a ≠ 0 → b ≠ 0) : sg a ≤ sg b := by
  cases b with
  | zero => cases a with
    | zero => exact Nat.le_refl _
    | succ a => exact absurd rfl (h (Nat.succ_ne_zero a))
  | succ b => exact sg_le1 a
theorem sg_len (a : Nat) (l : List Nat) : ((a :: l).filter fun x => decide (0 < x)).length = sg a + (l.filter fun x => decide (0 < x)).length := by
  cases a with
  | zero => exact (Nat.zero_add _).symm
  | succ a => exact Nat.add_comm _ _
theorem size_eq (e : Entry) : e.size = sg (e.at 0) + sg (e.at 1) + sg (e.at 2) + sg (e.at 3) := by
  obtain ⟨a, b, c, d, q, r⟩ := e
  show (([a, b, c, d] : List Nat).filter fun x => decide (0 < x)).length = sg a + sg b + sg c + sg d
  rw [sg_len, sg_len, sg_len, sg_len, Nat.add_assoc, Nat.add_assoc]; rfl
theorem sum4_eq {a b c d a' b' c' d' : Nat} (h : a + b + c + d ≤ a' + b' + c' + d') (h0 : a' ≤ a) (h1 : b' ≤ b) (h2 : c' ≤ c) (h3 : d' ≤ d) : a' = a ∧ b' = b ∧ c' = c ∧ d' = d := by lia
theorem size_same {o e : Entry} (h : o.within e.at) (hs : e.size ≤ o.size) : e.within o.at := by
  have g : ∀ k, k < 4 → sg (o.at k) ≤ sg (e.at k) := fun k hk => sg_mono fun q => (h k hk).elim (fun z => absurd z q) fun z => z ▸ q
  rw [size_eq, size_eq] at hs
  have s : ∀ k, k < 4 → sg (o.at k) = sg (e.at k) := by
    obtain ⟨q0, q1, q2, q3⟩ := sum4_eq hs (g 0 (by decide)) (g 1 (by decide)) (g 2 (by decide)) (g 3 (by decide))
    exact all4 q0 q1 q2 q3
  exact fun k hk => (h k hk).elim (fun z => .inl (sg_0 ((s k hk).symm.trans (by rw [z]; rfl)))) fun z => .inr z.symm

-- what least keeps
theorem keep_sublist (es kept : List Entry) : (es.foldl keepStep kept).Sublist (kept ++ es) := by
  induction es generalizing kept with
  | nil => simp
  | cons e es ih =>
    rw [List.foldl_cons]
    refine (ih _).trans ?_
    unfold keepStep
    split
    · exact List.Sublist.append_left (List.sublist_cons_self _ _) _
    · rw [List.append_assoc]; exact List.Sublist.refl _
theorem keep_mono (es kept : List Entry) : ∀ o ∈ kept, o ∈ es.foldl keepStep kept := by
  induction es generalizing kept with
  | nil => exact fun o h => h
  | cons e es ih =>
    intro o ho
    rw [List.foldl_cons]
    refine ih _ o ?_
    unfold keepStep
    split
    · exact ho
    · exact List.mem_append_left _ ho
theorem keep_covers (es kept : List Entry) : ∀ e ∈ es, ∃ o ∈ es.foldl keepStep kept, o.within e.at := by
  induction es generalizing kept with
  | nil => simp
  | cons e es ih =>
    intro f hf
    rw [List.foldl_cons]
    rcases List.mem_cons.mp hf with rfl | hf
    · by_cases h : kept.any fun o => o.sub f
      · obtain ⟨o, ho, hs⟩ := List.any_eq_true.mp h
        exact ⟨o, keep_mono _ _ o (by unfold keepStep; rw [if_pos h]; exact ho), sub_iff.mp hs⟩
      · exact ⟨f, keep_mono _ _ f (by unfold keepStep; rw [if_neg h]; simp), within_self f⟩
    · exact ih _ f hf
theorem keep_pair (es kept : List Entry) (h : kept.Pairwise fun o e => ¬ o.within e.at) : (es.foldl keepStep kept).Pairwise fun o e => ¬ o.within e.at := by
  induction es generalizing kept with
  | nil => exact h
  | cons e es ih =>
    rw [List.foldl_cons]
    refine ih _ ?_
    unfold keepStep
    split
    · exact h
    · rename_i hn
      rw [List.pairwise_append]
      refine ⟨h, by simp, ?_⟩
      intro o ho f hf
      rw [List.mem_singleton] at hf
      subst hf
      intro hw
      exact hn (List.any_eq_true.mpr ⟨o, ho, sub_iff.mpr hw⟩)
noncomputable def Anti (E : List Entry) : Prop := E.Pairwise fun o e => ¬ o.within e.at ∧ ¬ e.within o.at
theorem kept_sublist (es : List Entry) : (keptOf es).Sublist es := keep_sublist es []
theorem kept_anti {es : List Entry} (hs : (es.map Entry.size).Pairwise (· ≤ ·)) : Anti (keptOf es) := by
  have h1 : (keptOf es).Pairwise fun o e => ¬ o.within e.at := keep_pair es [] (by simp)
  have h2 : (keptOf es).Pairwise fun o e => o.size ≤ e.size := List.Pairwise.sublist (kept_sublist es) (List.pairwise_map.mp hs)
  refine (h1.and h2).imp ?_
  rintro o e ⟨g1, g2⟩
  exact ⟨g1, fun g3 => g1 (size_same g3 g2)⟩
theorem kept_T {es : List Entry} {c : Nat → Nat} : TT (keptOf es) c ↔ TT es c := by
  constructor
  · rintro ⟨e, he, hw⟩
    exact ⟨e, (kept_sublist es).subset he, hw⟩
  · rintro ⟨e, he, hw⟩
    obtain ⟨o, ho, h⟩ := keep_covers es [] e he
    exact ⟨o, ho, within_trans h hw⟩
theorem Anti.eq {E : List Entry} (h : Anti E) {o e : Entry} (ho : o ∈ E) (he : e ∈ E) (hw : o.within e.at) : o = e := by
  induction h with
  | nil => cases ho
  | @cons a l h1 _ ih =>
    rcases List.mem_cons.mp ho with rfl | ho'
    · rcases List.mem_cons.mp he with rfl | he'
      · rfl
      · exact absurd hw (h1 e he').1
    · rcases List.mem_cons.mp he with rfl | he'
      · exact absurd hw (h1 o ho').2
      · exact ih ho' he'
theorem Anti.sublist {E E' : List Entry} (h : Anti E) (s : E'.Sublist E) : Anti E' := List.Pairwise.sublist s h

-- two clauses added
theorem addE_at (o t : Entry) : ∀ k, k < 4 → (addE o t).at k = wholeOf (t.at k + o.at k) := all4 rfl rfl rfl rfl
theorem meets_at {o t : Entry} {x : Nat} (h : meets o t x = true) : o.at x < t.at x ∧ ∀ k, k < 4 → (t.at k + o.at k = 9 ↔ k = x) := by
  unfold meets at h
  rw [Bool.and_eq_true, decide_eq_true_eq, decide_eq_true_eq] at h
  refine ⟨h.1, fun k hk => ?_⟩
  have h2 : k ∈ (List.range 4).filter (fun k => t.at k + o.at k == 9) ↔ k ∈ [x] := by rw [h.2]
  rw [List.mem_filter, List.mem_singleton, List.mem_range] at h2
  simp [hk] at h2
  exact h2
theorem meets_of {o t : Entry} {x : Nat} (hx : x < 4) (h1 : o.at x < t.at x) (h2 : ∀ k, k < 4 → (t.at k + o.at k = 9 ↔ k = x)) : meets o t x = true := by
  unfold meets
  rw [Bool.and_eq_true, decide_eq_true_eq, decide_eq_true_eq]
  refine ⟨h1, ?_⟩
  have e : (List.range 4).filter (fun k => t.at k + o.at k == 9) = (List.range 4).filter (fun k => k == x) := List.filter_congr fun k hk => by
    have := h2 k (List.mem_range.mp hk)
    rw [Bool.eq_iff_iff]; simpa using this
  rw [e]
  rcases lt4 hx with rfl | rfl | rfl | rfl <;> rfl
theorem whole_lit {a b : Nat} (ha : okv a) (hb : okv b) (h : a + b ≠ 9) : (a ≠ 0 → wholeOf (a + b) = a) ∧ (b ≠ 0 → wholeOf (a + b) = b) ∧ (a = 0 → b = 0 → wholeOf (a + b) = 0) := by
  rcases ha with rfl | rfl | rfl <;> rcases hb with rfl | rfl | rfl <;> first | (exfalso; exact h rfl) | decide
theorem whole_ok {a b : Nat} (ha : okv a) (hb : okv b) : okv (wholeOf (a + b)) := by
  rcases ha with rfl | rfl | rfl <;> rcases hb with rfl | rfl | rfl <;> decide
end Mine
end
-- L2
section
open PySem PySem.W PyProof.Rows
set_option Elab.async false
set_option linter.all false
namespace Mine
-- what is made, as a flat list
noncomputable def mS (x : Nat) (o t : Entry) : List Entry := if meets o t x then [addE o t] else []
theorem foldl_flat {α β : Type} (f : List β → α → List β) (g : α → List β) (l : List α) (h : ∀ acc, ∀ a ∈ l, f acc a = acc ++ g a) : ∀ acc, l.foldl f acc = acc ++ l.flatMap g := by
  induction l with
  | nil => simp
  | cons a l ih =>
    intro acc
    rw [List.foldl_cons, h acc a (by simp), ih (fun acc b hb => h acc b (by simp [hb])), List.flatMap_cons, List.append_assoc]
theorem flatMap_same {α β : Type} {f g : α → List β} {l : List α} (h : ∀ a ∈ l, f a = g a) : l.flatMap f = l.flatMap g := by
  induction l with
  | nil => rfl
  | cons a l ih => rw [List.flatMap_cons, List.flatMap_cons, h a (by simp), ih fun b hb => h b (by simp [hb])]
theorem flat_places {β : Type} (es : List Entry) (x : Nat) (f : Nat → List β) (g : Entry → List β) (h : ∀ i e, es[i]? = some e → f i = g e) : (placesOf es x).flatMap f = (es.filter fun e => decide (0 < e.at x)).flatMap g := by
  have h1 : (placesOf es x).flatMap f = (es.zipIdx.filter fun p => decide (0 < p.1.at x)).flatMap fun p => g p.1 := by
    unfold placesOf
    rw [List.flatMap_map]
    refine flatMap_same fun p hp => ?_
    have := (List.mem_filter.mp hp).1
    rw [List.mem_zipIdx_iff_getElem?] at this
    exact h _ _ this
  have h2 : ∀ (l : List Entry) (n : Nat), ((l.zipIdx n).filter fun p => decide (0 < p.1.at x)).flatMap (fun p => g p.1) = (l.filter fun e => decide (0 < e.at x)).flatMap g := by
    intro l
    induction l with
    | nil => simp
    | cons e l ih =>
      intro n
      rw [List.zipIdx_cons, List.filter_cons, List.filter_cons]
      split
      · rw [List.flatMap_cons, List.flatMap_cons, ih]
      · exact ih _
  rw [h1, h2]
theorem madeOf_flat (es : List Entry) (x : Nat) : madeOf es x = (es.filter fun e => decide (0 < e.at x)).flatMap fun o => (es.filter fun e => decide (0 < e.at x)).flatMap fun t => mS x o t := by
  let ms : Nat → Nat → List Entry := fun i j => match es[i]?, es[j]? with
    | some o, some t => mS x o t
    | _, _ => []
  have hS : ∀ i made j, madeStep es x i made j = made ++ ms i j := by
    intro i made j
    simp only [madeStep, ms, mS]
    cases h1 : es[i]? with
    | none => simp
    | some o =>
      cases h2 : es[j]? with
      | none => simp
      | some t => dsimp only; split <;> simp
  have hR : ∀ made i, madeRow es x made i = made ++ (placesOf es x).flatMap (ms i) := fun made i => foldl_flat _ (ms i) _ (fun acc a _ => hS i acc a) made
  unfold madeOf
  rw [foldl_flat _ (fun i => (placesOf es x).flatMap (ms i)) _ (fun acc a _ => hR acc a), List.nil_append]
  refine flat_places es x _ _ fun i o ho => ?_
  refine flat_places es x _ _ fun j t ht => ?_
  simp only [ms, ho, ht]
theorem made_mem {es : List Entry} {x : Nat} {e : Entry} : e ∈ madeOf es x ↔ ∃ o ∈ es, ∃ t ∈ es, 0 < o.at x ∧ meets o t x = true ∧ e = addE o t := by
  rw [madeOf_flat]
  simp only [List.mem_flatMap, List.mem_filter, decide_eq_true_eq, mS]
  constructor
  · rintro ⟨o, ⟨ho, hox⟩, t, ⟨ht, htx⟩, h⟩
    by_cases hm : meets o t x = true
    · rw [if_pos hm, List.mem_singleton] at h
      exact ⟨o, ho, t, ht, hox, hm, h⟩
    · rw [if_neg hm] at h; cases h
  · rintro ⟨o, ho, t, ht, hox, hm, rfl⟩
    exact ⟨o, ⟨ho, hox⟩, t, ⟨ht, Nat.lt_trans hox (meets_at hm).1⟩, by rw [if_pos hm]; simp⟩
noncomputable def mcc (x : Nat) (A B : List Entry) : Nat := (A.map fun o => B.countP fun t => decide (0 < o.at x) && meets o t x).sum
theorem made_len (es : List Entry) (x : Nat) : (madeOf es x).length ≤ mcc x es es := by
  rw [madeOf_flat]
  have h1 : ∀ (o : Entry), 0 < o.at x → ∀ l : List Entry, ((l.filter fun e => decide (0 < e.at x)).flatMap fun t => mS x o t).length ≤ l.countP fun t => decide (0 < o.at x) && meets o t x := by
    intro o ho l
    induction l with
    | nil => simp
    | cons t l ih =>
      rw [List.filter_cons, List.countP_cons]
      split
      · rw [List.flatMap_cons, List.length_append]
        unfold mS at ih ⊢
        by_cases hm : meets o t x = true <;> simp [hm, ho] at ih ⊢ <;> omega
      · split <;> omega
  have h2 : ∀ l : List Entry, ((l.filter fun e => decide (0 < e.at x)).flatMap fun o => (es.filter fun e => decide (0 < e.at x)).flatMap fun t => mS x o t).length ≤ mcc x l es := by
    intro l
    unfold mcc
    induction l with
    | nil => simp
    | cons o l ih =>
      rw [List.filter_cons, List.map_cons, List.sum_cons]
      split
      · rename_i ho
        have ho : 0 < o.at x := by simpa using ho
        rw [List.flatMap_cons, List.length_append]
        have := h1 o ho es
        omega
      · omega
  exact h2 es

-- what holds of a clause
theorem updC_self (c : Nat → Nat) (x v : Nat) : updC c x v x = v := by simp [updC]
theorem updC_ne (c : Nat → Nat) {x k : Nat} (v : Nat) (h : k ≠ x) : updC c x v k = c k := by simp [updC, h]
theorem updC_comm (c : Nat → Nat) {x z : Nat} (v w : Nat) (h : z ≠ x) : updC (updC c x v) z w = updC (updC c z w) x v := by
  funext k
  simp only [updC]
  by_cases h1 : k = x <;> by_cases h2 : k = z <;> simp [h1, h2]
  · exfalso; lia
  · intro h3; exfalso; lia
  · intro h3; exfalso; lia
theorem updC_ok {c : Nat → Nat} {x v : Nat} (h : okc c) (hv : okv v) : okc (updC c x v) := fun k hk => by
  unfold updC; split
  · exact hv
  · exact h k hk
theorem ne_nine {o t c : Nat} (h1 : o = 0 ∨ o = c) (h2 : t = 0 ∨ t = c) (h3 : okv c) : t + o ≠ 9 := by
  rcases h1 with rfl | rfl <;> rcases h2 with rfl | rfl <;> rcases h3 with rfl | rfl | rfl <;> decide
theorem seen_lit {w a c : Nat} (h1 : w = a) (h0 : a ≠ 0) (h : w = 0 ∨ w = c) : a = c := h.elim (fun h => absurd (h1.symm.trans h) h0) fun h => h1.symm.trans h
theorem nine {o t : Nat} (ho : okv o) (ht : okv t) (h : t + o = 9) (hlt : o < t) : o = 1 ∧ t = 8 := by
  rcases ho with rfl | rfl | rfl
  · rcases ht with rfl | rfl | rfl <;> cases h
  · exact ⟨rfl, Nat.succ.inj h⟩
  · cases Nat.add_right_cancel (m := 8) (show t + 8 = 1 + 8 from h); exact absurd hlt (by decide)
theorem T_nz {E : List Entry} (hok : ∀ e ∈ E, e.ok) {c : Nat → Nat} (hc : okc c) {x : Nat} (hx : x < 4) (h0 : c x ≠ 0) : TT (E ++ madeOf E x) c ↔ TT E c := by
  constructor
  · rintro ⟨e, he, hw⟩
    rcases List.mem_append.mp he with he | he
    · exact ⟨e, he, hw⟩
    · obtain ⟨o, ho, t, ht, hox, hm, rfl⟩ := made_mem.mp he
      obtain ⟨hlt, hk⟩ := meets_at hm
      have h9 := (hk x hx).mpr rfl
      have ox := hok o ho x hx
      have tx := hok t ht x hx
      have side : ∀ k, k < 4 → k ≠ x → (o.at k = 0 ∨ o.at k = c k) ∧ (t.at k = 0 ∨ t.at k = c k) := by
        intro k hk4 hkx
        have h := hw k hk4
        rw [addE_at o t k hk4] at h
        have w := whole_lit (hok t ht k hk4) (hok o ho k hk4) (fun h => hkx ((hk k hk4).mp h))
        have wo := hok o ho k hk4
        have wt := hok t ht k hk4
        constructor
        · by_cases hz : o.at k = 0
          · exact .inl hz
          · exact .inr (seen_lit (w.2.1 hz) hz h)
        · by_cases hz : t.at k = 0
          · exact .inl hz
          · exact .inr (seen_lit (w.1 hz) hz h)
      rcases hc x hx with h | h | h
      · exact absurd h h0
      · refine ⟨o, ho, fun k hk4 => ?_⟩
        by_cases hkx : k = x
        · subst hkx; exact .inr ((nine ox tx h9 hlt).1.trans h.symm)
        · exact (side k hk4 hkx).1
      · refine ⟨t, ht, fun k hk4 => ?_⟩
        by_cases hkx : k = x
        · subst hkx; exact .inr ((nine ox tx h9 hlt).2.trans h.symm)
        · exact (side k hk4 hkx).2
  · rintro ⟨e, he, hw⟩
    exact ⟨e, List.mem_append_left _ he, hw⟩
theorem T_z {E : List Entry} (hok : ∀ e ∈ E, e.ok) {c : Nat → Nat} (hc : okc c) {x : Nat} (hx : x < 4) (h0 : c x = 0) : TT (E ++ madeOf E x) c ↔ TT E (updC c x 1) ∧ TT E (updC c x 8) := by
  constructor
  · rintro ⟨e, he, hw⟩
    rcases List.mem_append.mp he with he | he
    · have : ∀ v, e.within (updC c x v) := fun v k hk => by
        by_cases hkx : k = x
        · subst hkx; left; rcases hw k hk with h | h <;> lia
        · rw [updC_ne _ _ hkx]; exact hw k hk
      exact ⟨⟨e, he, this 1⟩, ⟨e, he, this 8⟩⟩
    · obtain ⟨o, ho, t, ht, hox, hm, rfl⟩ := made_mem.mp he
      obtain ⟨hlt, hk⟩ := meets_at hm
      have h9 := (hk x hx).mpr rfl
      have ox := hok o ho x hx
      have tx := hok t ht x hx
      have side : ∀ k, k < 4 → k ≠ x → (o.at k = 0 ∨ o.at k = c k) ∧ (t.at k = 0 ∨ t.at k = c k) := by
        intro k hk4 hkx
        have h := hw k hk4
        rw [addE_at o t k hk4] at h
        have w := whole_lit (hok t ht k hk4) (hok o ho k hk4) (fun h => hkx ((hk k hk4).mp h))
        constructor
        · by_cases hz : o.at k = 0
          · exact .inl hz
          · exact .inr (seen_lit (w.2.1 hz) hz h)
        · by_cases hz : t.at k = 0
          · exact .inl hz
          · exact .inr (seen_lit (w.1 hz) hz h)
      refine ⟨⟨o, ho, fun k hk4 => ?_⟩, ⟨t, ht, fun k hk4 => ?_⟩⟩
      · by_cases hkx : k = x
        · subst hkx; rw [updC_self]; exact .inr (nine ox tx h9 hlt).1
        · rw [updC_ne _ _ hkx]; exact (side k hk4 hkx).1
      · by_cases hkx : k = x
        · subst hkx; rw [updC_self]; exact .inr (nine ox tx h9 hlt).2
        · rw [updC_ne _ _ hkx]; exact (side k hk4 hkx).2
  · rintro ⟨⟨o, ho, hwo⟩, ⟨t, ht, hwt⟩⟩
    have ox := hwo x hx
    have tx := hwt x hx
    rw [updC_self] at ox tx
    have so : ∀ k, k < 4 → k ≠ x → o.at k = 0 ∨ o.at k = c k := fun k hk hkx => by have := hwo k hk; rwa [updC_ne _ _ hkx] at this
    have st : ∀ k, k < 4 → k ≠ x → t.at k = 0 ∨ t.at k = c k := fun k hk hkx => by have := hwt k hk; rwa [updC_ne _ _ hkx] at this
    rcases ox with ox | ox
    · refine ⟨o, List.mem_append_left _ ho, fun k hk => ?_⟩
      by_cases hkx : k = x
      · subst hkx; exact .inl ox
      · exact so k hk hkx
    rcases tx with tx | tx
    · refine ⟨t, List.mem_append_left _ ht, fun k hk => ?_⟩
      by_cases hkx : k = x
      · subst hkx; exact .inl tx
      · exact st k hk hkx
    have n9 : ∀ k, k < 4 → k ≠ x → t.at k + o.at k ≠ 9 := fun k hk hkx => by
      have h1 := so k hk hkx
      have h2 := st k hk hkx
      have h3 := hc k hk
      exact ne_nine h1 h2 h3
    have hm : meets o t x = true := meets_of hx (by lia) fun k hk => ⟨fun h => Classical.byContradiction fun hkx => n9 k hk hkx h, fun h => by subst h; lia⟩
    refine ⟨addE o t, List.mem_append_right _ (made_mem.mpr ⟨o, ho, t, ht, by lia, hm, rfl⟩), fun k hk => ?_⟩
    rw [addE_at o t k hk]
    by_cases hkx : k = x
    · subst hkx; left; rw [ox, tx]; rfl
    · have h1 := so k hk hkx
      have h2 := st k hk hkx
      have w := whole_lit (hok t ht k hk) (hok o ho k hk) (n9 k hk hkx)
      by_cases hoz : o.at k = 0
      · by_cases htz : t.at k = 0
        · left; exact w.2.2 htz hoz
        · right; rw [w.1 htz]; exact h2.resolve_left htz
      · right; rw [w.2.1 hoz]; exact h1.resolve_left hoz

noncomputable def Clos (P : (Nat → Nat) → Prop) (x : Nat) : Prop := ∀ c, okc c → c x = 0 → (P c ↔ P (updC c x 1) ∧ P (updC c x 8))
theorem ok1 : okv 1 := .inr (.inl rfl)
theorem ok8 : okv 8 := .inr (.inr rfl)
theorem clos_new {E : List Entry} (hok : ∀ e ∈ E, e.ok) {x : Nat} (hx : x < 4) : Clos (TT (E ++ madeOf E x)) x := fun c hc h0 => by
  rw [T_z hok hc hx h0, T_nz hok (updC_ok hc ok1) hx (by rw [updC_self]; decide), T_nz hok (updC_ok hc ok8) hx (by rw [updC_self]; decide)]
theorem clos_old {E : List Entry} (hok : ∀ e ∈ E, e.ok) {x z : Nat} (hx : x < 4) (hzx : z ≠ x) (h : Clos (TT E) z) : Clos (TT (E ++ madeOf E x)) z := fun c hc h0 => by
  have hxz : x ≠ z := fun e => hzx e.symm
  by_cases hcx : c x = 0
  · have e1 : ∀ v, okv v → (TT (E ++ madeOf E x) (updC c z v) ↔ TT E (updC (updC c z v) x 1) ∧ TT E (updC (updC c z v) x 8)) := fun v hv => T_z hok (updC_ok hc hv) hx (by rw [updC_ne _ _ hxz]; exact hcx)
    have e2 : ∀ v, okv v → (TT E (updC c x v) ↔ TT E (updC (updC c x v) z 1) ∧ TT E (updC (updC c x v) z 8)) := fun v hv => h _ (updC_ok hc hv) (by rw [updC_ne _ _ hzx]; exact h0)
    rw [T_z hok hc hx hcx, e1 1 ok1, e1 8 ok8, e2 1 ok1, e2 8 ok8]
    simp only [updC_comm c (x := x) (z := z) _ _ hzx]
    constructor
    · rintro ⟨⟨a, b⟩, c, d⟩; exact ⟨⟨a, c⟩, b, d⟩
    · rintro ⟨⟨a, b⟩, c, d⟩; exact ⟨⟨a, c⟩, b, d⟩
  · rw [T_nz hok hc hx hcx, T_nz hok (updC_ok hc ok1) hx (by rw [updC_ne _ _ hxz]; exact hcx), T_nz hok (updC_ok hc ok8) hx (by rw [updC_ne _ _ hxz]; exact hcx)]
    exact h c hc h0
theorem agree_step {A B : (Nat → Nat) → Prop} {i : Nat} (ha : Clos A i) (hb : Clos B i) (h : ∀ c, okc c → (∀ k, k < 4 → i ≤ k → c k ≠ 0) → (A c ↔ B c)) : ∀ c, okc c → (∀ k, k < 4 → i + 1 ≤ k → c k ≠ 0) → (A c ↔ B c) := by
  intro c hc hk
  by_cases h0 : c i = 0
  · have : ∀ v, okv v → v ≠ 0 → (A (updC c i v) ↔ B (updC c i v)) := fun v hv hv0 => h _ (updC_ok hc hv) fun k hk4 hik => by
      by_cases hki : k = i
      · subst hki; rw [updC_self]; exact hv0
      · rw [updC_ne _ _ hki]; exact hk k hk4 (by lia)
    rw [ha c hc h0, hb c hc h0, this 1 ok1 (by decide), this 8 ok8 (by decide)]
  · exact h c hc fun k hk4 hik => by
      by_cases hki : k = i
      · subst hki; exact h0
      · exact hk k hk4 (by lia)
theorem agree {A B : (Nat → Nat) → Prop} (ha : ∀ x, x < 4 → Clos A x) (hb : ∀ x, x < 4 → Clos B x) (h : ∀ c, okc c → (∀ k, k < 4 → c k ≠ 0) → (A c ↔ B c)) : ∀ c, okc c → (A c ↔ B c) := fun c hc =>
  agree_step (i := 3) (ha 3 (by decide)) (hb 3 (by decide)) (agree_step (i := 2) (ha 2 (by decide)) (hb 2 (by decide)) (agree_step (i := 1) (ha 1 (by decide)) (hb 1 (by decide)) (agree_step (i := 0) (ha 0 (by decide)) (hb 0 (by decide)) fun c hc hk => h c hc fun k hk4 => hk k hk4 (by lia)))) c hc fun k hk4 h => by lia
end Mine
end
-- L3
section
open PySem PySem.W PyProof.Rows
set_option Elab.async false
set_option linter.all false
namespace Mine
-- how many entries may stand
structure P4 (x y u v : Nat) : Prop where
  x4 : x < 4
  y4 : y < 4
  u4 : u < 4
  v4 : v < 4
  xy : x ≠ y
  xu : x ≠ u
  xv : x ≠ v
  yu : y ≠ u
  yv : y ≠ v
  uv : u ≠ v
theorem P4b : ((List.range 4).all fun x => (List.range 4).all fun y => (List.range 4).all fun u => (List.range 4).all fun v => (x == y || x == u || x == v || y == u || y == v || u == v) || (List.range 4).all fun k => k == x || (k == y || (k == u || k == v))) = true := by decide +kernel
theorem P4.all {x y u v : Nat} (h : P4 x y u v) {k : Nat} (hk : k < 4) : k = x ∨ k = y ∨ k = u ∨ k = v := by
  have q := List.all_eq_true.mp (List.all_eq_true.mp (List.all_eq_true.mp (List.all_eq_true.mp P4b x (List.mem_range.mpr h.x4)) y (List.mem_range.mpr h.y4)) u (List.mem_range.mpr h.u4)) v (List.mem_range.mpr h.v4)
  rw [beq_eq_false_iff_ne.mpr h.xy, beq_eq_false_iff_ne.mpr h.xu, beq_eq_false_iff_ne.mpr h.xv, beq_eq_false_iff_ne.mpr h.yu, beq_eq_false_iff_ne.mpr h.yv, beq_eq_false_iff_ne.mpr h.uv] at q
  have q := List.all_eq_true.mp q k (List.mem_range.mpr hk)
  simpa only [Bool.or_eq_true, beq_iff_eq] using q
theorem P4x : ∀ x y : Fin 4, x ≠ y → ∃ u v : Fin 4, x ≠ u ∧ x ≠ v ∧ y ≠ u ∧ y ≠ v ∧ u ≠ v := by decide +kernel
theorem P4.ex {x y : Nat} (hx : x < 4) (hy : y < 4) (h : x ≠ y) : ∃ u v, P4 x y u v := by
  obtain ⟨u, v, a, b, c, d, e⟩ := P4x ⟨x, hx⟩ ⟨y, hy⟩ fun q => h (congrArg Fin.val q)
  have n : ∀ {i j : Fin 4}, i ≠ j → i.1 ≠ j.1 := fun h q => h (Fin.ext q)
  exact ⟨u.1, v.1, hx, hy, u.2, v.2, h, n a, n b, n c, n d, n e⟩
noncomputable def ksub (a b : Nat) : Bool := (a / 4 == 0 || a / 4 == b / 4) && (a % 4 == 0 || b % 4 == 3 || a % 4 == b % 4)
noncomputable def nc (a b : Nat) : Bool := !ksub a b && !ksub b a && (a / 4 == 0 || b / 4 == 0 || a / 4 == b / 4 || (a % 4 == 1 && b % 4 == 2) || (a % 4 == 2 && b % 4 == 1))
noncomputable def kw (a : Nat) : Nat := if a % 4 = 0 then 1 else if a % 4 = 3 then 4 else 2
theorem kw_le (a : Nat) : kw a ≤ 4 := by
  unfold kw
  by_cases h : a % 4 = 0
  · rw [if_pos h]; decide
  · rw [if_neg h]
    by_cases h : a % 4 = 3
    · rw [if_pos h]; decide
    · rw [if_neg h]; decide
theorem nc3b : ((List.range 12).all fun a => (List.range 12).all fun b => !nc a b || (decide (kw a + kw b ≤ 8) && (List.range 12).all fun c => !(nc a c && nc b c) || (decide (kw a + kw b + kw c ≤ 8) && (List.range 12).all fun d => !(nc a d && nc b d && nc c d)))) = true := by decide +kernel
theorem nc3 (a : Nat) (ha : a < 12) (b : Nat) (hb : b < 12) (hab : nc a b = true) : kw a + kw b ≤ 8 ∧ ∀ c, c < 12 → nc a c = true → nc b c = true → kw a + kw b + kw c ≤ 8 ∧ ∀ d, d < 12 → nc a d = true → nc b d = true → nc c d = false := by
  have h := List.all_eq_true.mp (List.all_eq_true.mp nc3b a (List.mem_range.mpr ha)) b (List.mem_range.mpr hb)
  rw [hab, Bool.not_true, Bool.false_or, Bool.and_eq_true] at h
  refine ⟨of_decide_eq_true h.1, fun c hc hac hbc => ?_⟩
  have h := List.all_eq_true.mp h.2 c (List.mem_range.mpr hc)
  rw [hac, hbc, Bool.and_true, Bool.not_true, Bool.false_or, Bool.and_eq_true] at h
  refine ⟨of_decide_eq_true h.1, fun d hd had hbd => ?_⟩
  have h := List.all_eq_true.mp h.2 d (List.mem_range.mpr hd)
  rw [had, hbd, Bool.and_true, Bool.true_and] at h
  simpa using h
theorem keys_few {K : List Nat} (h12 : ∀ a ∈ K, a < 12) (h : K.Pairwise fun a b => nc a b = true) : K.length ≤ 3 ∧ (K.map kw).sum ≤ 8 := by
  rcases K with _ | ⟨a, K⟩
  · exact ⟨by decide, by decide⟩
  have ha := h12 a (.head _)
  obtain ⟨pa, h⟩ := List.pairwise_cons.mp h
  rcases K with _ | ⟨b, K⟩
  · exact ⟨(by decide : 1 ≤ 3), Nat.le_trans (kw_le a) (by decide)⟩
  have hb := h12 b (.tail _ (.head _))
  obtain ⟨pb, h⟩ := List.pairwise_cons.mp h
  have N := nc3 a ha b hb (pa b (.head _))
  rcases K with _ | ⟨c, K⟩
  · exact ⟨(by decide : 2 ≤ 3), N.1⟩
  have hc := h12 c (.tail _ (.tail _ (.head _)))
  obtain ⟨pc, h⟩ := List.pairwise_cons.mp h
  have N := N.2 c hc (pa c (.tail _ (.head _))) (pb c (.head _))
  rcases K with _ | ⟨d, K⟩
  · exact ⟨(by decide : 3 ≤ 3), by show kw a + (kw b + (kw c + 0)) ≤ 8; rw [Nat.add_zero, ← Nat.add_assoc]; exact N.1⟩
  have q := N.2 d (h12 d (.tail _ (.tail _ (.tail _ (.head _))))) (pa d (.tail _ (.tail _ (.head _)))) (pb d (.tail _ (.head _)))
  rw [pc d (.head _)] at q; cases q
noncomputable def onL (u v p q : Nat) (e : Entry) : Bool := (e.at u == 0 || e.at u == p) && (e.at v == 0 || e.at v == q)
noncomputable def keyE (x u v : Nat) (e : Entry) : Nat := 4 * (if e.at x = 0 then 0 else if e.at x = 1 then 1 else 2) + (if e.at u = 0 then 0 else 1) + (if e.at v = 0 then 0 else 2)
theorem keyE_lt (x u v : Nat) (e : Entry) : keyE x u v e < 12 := by
  unfold keyE
  split
  · split <;> split <;> lia
  · split <;> split <;> split <;> lia
theorem onL_iff {u v p q : Nat} {e : Entry} : onL u v p q e = true ↔ (e.at u = 0 ∨ e.at u = p) ∧ (e.at v = 0 ∨ e.at v = q) := by simp [onL]
theorem gside {g o t p : Nat} (h1 : o = 0 ∨ o = p) (h2 : t = 0 ∨ t = p) (hg : g = 0 ∨ g = if o = 0 then t else p) : ((o ≠ 0 ∨ t = 0) → (g = 0 ∨ g = o)) ∧ ((o = 0 ∨ t ≠ 0) → (g = 0 ∨ g = t)) := by
  by_cases o0 : o = 0
  · rw [if_pos o0] at hg
    exact ⟨fun h => h.elim (absurd o0) fun t0 => .inl (hg.elim id fun q => q.trans t0), fun _ => hg⟩
  · rw [if_neg o0] at hg
    have op := h1.resolve_left o0
    exact ⟨fun _ => op ▸ hg, fun h => h.elim (fun q => absurd q o0) fun t0 => h2.resolve_left t0 ▸ hg⟩
noncomputable def xc (n : Nat) : Nat := if n = 0 then 0 else if n = 1 then 1 else 2
noncomputable def mk (a b : Nat) : Nat := (if a = 0 then 0 else 1) + (if b = 0 then 0 else 2)
theorem key_arith {a b c : Nat} (hb : b ≤ 1) (hc : c = 0 ∨ c = 2) : (4 * a + b + c) / 4 = a ∧ (4 * a + b + c) % 4 = b + c := by
  have h : b + c < 4 := Nat.lt_of_le_of_lt (Nat.add_le_add hb (show c ≤ 2 by rcases hc with rfl | rfl <;> decide)) (by decide)
  rw [Nat.add_assoc]
  exact ⟨by rw [Nat.mul_add_div (by decide), Nat.div_eq_of_lt h, Nat.add_zero], by rw [Nat.mul_add_mod, Nat.mod_eq_of_lt h]⟩
theorem key_parts (x u v : Nat) (e : Entry) : keyE x u v e / 4 = xc (e.at x) ∧ keyE x u v e % 4 = mk (e.at u) (e.at v) :=
  key_arith (by split <;> decide) (by split; exact .inl rfl; exact .inr rfl)
theorem xc_sub {a b : Nat} (ha : okv a) (hb : okv b) (h : (xc a == 0 || xc a == xc b) = true) : a = 0 ∨ a = b := by
  rcases ha with rfl | rfl | rfl <;> rcases hb with rfl | rfl | rfl <;> first | exact .inl rfl | exact .inr rfl | exact absurd h (by decide)
theorem mk_flag {a b c d : Nat} (h : (mk a b == 0 || mk c d == 3 || mk a b == mk c d) = true) : (a ≠ 0 → c ≠ 0) ∧ (b ≠ 0 → d ≠ 0) := by
  unfold mk at h
  refine ⟨fun a0 c0 => ?_, fun b0 d0 => ?_⟩
  · rw [if_neg a0, if_pos c0] at h
    by_cases b0 : b = 0 <;> by_cases d0 : d = 0 <;> first | rw [if_pos b0, if_pos d0] at h; cases h | rw [if_pos b0, if_neg d0] at h; cases h | rw [if_neg b0, if_pos d0] at h; cases h | rw [if_neg b0, if_neg d0] at h; cases h
  · rw [if_neg b0, if_pos d0] at h
    by_cases a0 : a = 0 <;> by_cases c0 : c = 0 <;> first | rw [if_pos a0, if_pos c0] at h; cases h | rw [if_pos a0, if_neg c0] at h; cases h | rw [if_neg a0, if_pos c0] at h; cases h | rw [if_neg a0, if_neg c0] at h; cases h
theorem mk_sub {a b c d p q : Nat} (h1 : a = 0 ∨ a = p) (h2 : b = 0 ∨ b = q) (h3 : c = 0 ∨ c = p) (h4 : d = 0 ∨ d = q) (h : (mk a b == 0 || mk c d == 3 || mk a b == mk c d) = true) : (a = 0 ∨ a = c) ∧ (b = 0 ∨ b = d) := by
  have f := mk_flag h
  exact ⟨h1.elim .inl fun e => (Decidable.em (a = 0)).elim .inl fun n => .inr (e.trans (h3.resolve_left (f.1 n)).symm), h2.elim .inl fun e => (Decidable.em (b = 0)).elim .inl fun n => .inr (e.trans (h4.resolve_left (f.2 n)).symm)⟩
theorem ksub_parts {x u v : Nat} {e f : Entry} (h : ksub (keyE x u v e) (keyE x u v f) = true) : (xc (e.at x) == 0 || xc (e.at x) == xc (f.at x)) = true ∧ (mk (e.at u) (e.at v) == 0 || mk (f.at u) (f.at v) == 3 || mk (e.at u) (e.at v) == mk (f.at u) (f.at v)) = true := by
  unfold ksub at h
  rw [(key_parts x u v e).1, (key_parts x u v e).2, (key_parts x u v f).1, (key_parts x u v f).2] at h
  exact Bool.and_eq_true_iff.mp h
theorem P4.to {x y u v : Nat} (h4 : P4 x y u v) {P : Nat → Prop} (hx : P x) (hy : P y) (hu : P u) (hv : P v) (k : Nat) (hk : k < 4) : P k := by
  rcases h4.all hk with rfl | rfl | rfl | rfl
  · exact hx
  · exact hy
  · exact hu
  · exact hv
noncomputable def mixC (x y u v a b c : Nat) (k : Nat) : Nat := if k = x then 0 else if k = y then a else if k = u then b else c
theorem P4.mix {x y u v : Nat} (h4 : P4 x y u v) (a b c : Nat) : mixC x y u v a b c x = 0 ∧ mixC x y u v a b c y = a ∧ mixC x y u v a b c u = b ∧ mixC x y u v a b c v = c :=
  ⟨if_pos rfl, (if_neg h4.xy.symm).trans (if_pos rfl), (if_neg h4.xu.symm).trans ((if_neg h4.yu.symm).trans (if_pos rfl)), (if_neg h4.xv.symm).trans ((if_neg h4.yv.symm).trans (if_neg h4.uv.symm))⟩
noncomputable def selC (o t p : Nat) : Nat := if o = 0 then t else p
theorem selC_o {o t p : Nat} (h : o = 0 ∨ o = p) : o = 0 ∨ o = selC o t p := h.elim .inl fun e => (Decidable.em (o = 0)).elim .inl fun n => .inr (e.trans (if_neg n).symm)
theorem selC_t {o t p : Nat} (h : t = 0 ∨ t = p) : t = 0 ∨ t = selC o t p := by
  unfold selC; split
  · exact .inr rfl
  · exact h
theorem selC_ok {o t p : Nat} (h : okv t) (hp : p = 1 ∨ p = 8) : okv (selC o t p) := by
  unfold selC; split
  · exact h
  · exact .inr hp
theorem side_cl {ou tu ov tv gu gv : Nat} (U : ((ou ≠ 0 ∨ tu = 0) → (gu = 0 ∨ gu = ou)) ∧ ((ou = 0 ∨ tu ≠ 0) → (gu = 0 ∨ gu = tu))) (V : ((ov ≠ 0 ∨ tv = 0) → (gv = 0 ∨ gv = ov)) ∧ ((ov = 0 ∨ tv ≠ 0) → (gv = 0 ∨ gv = tv)))
    (no : (gu = 0 ∨ gu = ou) → (gv = 0 ∨ gv = ov) → False) (nt : (gu = 0 ∨ gu = tu) → (gv = 0 ∨ gv = tv) → False) : ((ou = 0 ∧ ov ≠ 0) ∧ tu ≠ 0 ∧ tv = 0) ∨ ((ou ≠ 0 ∧ ov = 0) ∧ tu = 0 ∧ tv ≠ 0) := by
  by_cases a : ou ≠ 0 ∨ tu = 0
  · by_cases b : ov ≠ 0 ∨ tv = 0
    · exact (no (U.1 a) (V.1 b)).elim
    · have ov := Decidable.byContradiction fun q => b (.inl q)
      by_cases c : ou = 0 ∨ tu ≠ 0
      · exact (nt (U.2 c) (V.2 (.inl ov))).elim
      · exact .inr ⟨⟨fun q => c (.inl q), ov⟩, Decidable.byContradiction fun q => c (.inr q), fun q => b (.inr q)⟩
  · have ou := Decidable.byContradiction fun q => a (.inl q)
    by_cases c : ov = 0 ∨ tv ≠ 0
    · exact (nt (U.2 (.inl ou)) (V.2 c)).elim
    · exact .inl ⟨⟨ou, fun q => c (.inl q)⟩, fun q => a (.inr q), Decidable.byContradiction fun q => c (.inr q)⟩
/-- a clause of both ends closes -/
theorem line_cl {E : List Entry} (hok : ∀ e ∈ E, e.ok) (ha : Anti E) {x y u v : Nat} (h4 : P4 x y u v) (hc : Clos (TT E) x) {p q : Nat} (hp : p = 1 ∨ p = 8) (hq : q = 1 ∨ q = 8) {o t : Entry} (ho : o ∈ E) (ht : t ∈ E) (hy : o.at y = t.at y) (hox : o.at x = 1) (htx : t.at x = 8)
    (h1 : (o.at u = 0 ∨ o.at u = p) ∧ (o.at v = 0 ∨ o.at v = q)) (h2 : (t.at u = 0 ∨ t.at u = p) ∧ (t.at v = 0 ∨ t.at v = q)) :
    ((o.at u = 0 ∧ o.at v ≠ 0) ∧ t.at u ≠ 0 ∧ t.at v = 0) ∨ ((o.at u ≠ 0 ∧ o.at v = 0) ∧ t.at u = 0 ∧ t.at v ≠ 0) := by
  obtain ⟨cx, cy, cu, cv⟩ := h4.mix (o.at y) (selC (o.at u) (t.at u) p) (selC (o.at v) (t.at v) q)
  generalize mixC x y u v (o.at y) (selC (o.at u) (t.at u) p) (selC (o.at v) (t.at v) q) = c at cx cy cu cv
  have hcok : okc c := h4.to (cx ▸ .inl rfl) (cy ▸ hok o ho y h4.y4) (cu ▸ selC_ok (hok t ht u h4.u4) hp) (cv ▸ selC_ok (hok t ht v h4.v4) hq)
  have wo : o.within (updC c x 1) := h4.to (by rw [updC_self]; exact .inr hox) (by rw [updC_ne _ _ h4.xy.symm, cy]; exact .inr rfl) (by rw [updC_ne _ _ h4.xu.symm, cu]; exact selC_o h1.1) (by rw [updC_ne _ _ h4.xv.symm, cv]; exact selC_o h1.2)
  have wt : t.within (updC c x 8) := h4.to (by rw [updC_self]; exact .inr htx) (by rw [updC_ne _ _ h4.xy.symm, cy]; exact .inr hy.symm) (by rw [updC_ne _ _ h4.xu.symm, cu]; exact selC_t h2.1) (by rw [updC_ne _ _ h4.xv.symm, cv]; exact selC_t h2.2)
  obtain ⟨g, hg, hw⟩ := (hc c hcok cx).mpr ⟨⟨o, ho, wo⟩, ⟨t, ht, wt⟩⟩
  have gx := hw x h4.x4
  have gy := hw y h4.y4
  have gu := hw u h4.u4
  have gv := hw v h4.v4
  rw [cx] at gx; rw [cy] at gy; rw [cu] at gu; rw [cv] at gv
  have gx : g.at x = 0 := gx.elim id id
  clear wo wt hcok cx cy cu cv
  have no : ¬ g.within o.at := fun h => by
    rw [ha.eq hg ho h, hox] at gx; cases gx
  have nt : ¬ g.within t.at := fun h => by
    rw [ha.eq hg ht h, htx] at gx; cases gx
  have ww : ∀ {t : Entry}, (g.at y = 0 ∨ g.at y = t.at y) → (g.at u = 0 ∨ g.at u = t.at u) → (g.at v = 0 ∨ g.at v = t.at v) → g.within t.at := fun a1 a3 a4 => h4.to (.inl gx) a1 a3 a4
  have gyt : g.at y = 0 ∨ g.at y = t.at y := hy ▸ gy
  exact side_cl (gside h1.1 h2.1 gu) (gside h1.2 h2.2 gv) (fun a b => no (ww gy a b)) fun a b => nt (ww gyt a b)
noncomputable def ncT (X Y M N : Nat) : Bool := X == 0 || Y == 0 || X == Y || (M == 1 && N == 2) || (M == 2 && N == 1)
theorem nc_tail {ex fx a b c d : Nat} (hex : okv ex) (hfx : okv fx) (c1 : ex = 1 → fx = 8 → ((a = 0 ∧ b ≠ 0) ∧ c ≠ 0 ∧ d = 0) ∨ ((a ≠ 0 ∧ b = 0) ∧ c = 0 ∧ d ≠ 0)) (c2 : fx = 1 → ex = 8 → ((c = 0 ∧ d ≠ 0) ∧ a ≠ 0 ∧ b = 0) ∨ ((c ≠ 0 ∧ d = 0) ∧ a = 0 ∧ b ≠ 0)) :
    ncT (xc ex) (xc fx) (mk a b) (mk c d) = true := by
  have m1 : ∀ {a b}, a = 0 → b ≠ 0 → mk a b = 2 := fun h g => by unfold mk; rw [if_pos h, if_neg g]
  have m2 : ∀ {a b}, a ≠ 0 → b = 0 → mk a b = 1 := fun h g => by unfold mk; rw [if_neg h, if_pos g]
  have k1 : mk a b = 2 → mk c d = 1 → ncT (xc ex) (xc fx) (mk a b) (mk c d) = true := fun h g => by rw [h, g]; exact Bool.or_true _
  have k2 : mk a b = 1 → mk c d = 2 → ncT (xc ex) (xc fx) (mk a b) (mk c d) = true := fun h g => by rw [h, g]; exact Bool.or_eq_true_iff.mpr (.inl (Bool.or_true _))
  rcases hex with rfl | rfl | rfl
  · rfl
  · rcases hfx with rfl | rfl | rfl
    · rfl
    · rfl
    · rcases c1 rfl rfl with ⟨⟨a, b⟩, c, d⟩ | ⟨⟨a, b⟩, c, d⟩
      · exact k1 (m1 a b) (m2 c d)
      · exact k2 (m2 a b) (m1 c d)
  · rcases hfx with rfl | rfl | rfl
    · rfl
    · rcases c2 rfl rfl with ⟨⟨a, b⟩, c, d⟩ | ⟨⟨a, b⟩, c, d⟩
      · exact k2 (m2 c d) (m1 a b)
      · exact k1 (m1 c d) (m2 a b)
    · rfl
/-- two entries of one line, of one side of y -/
theorem line_nc {E : List Entry} (hok : ∀ e ∈ E, e.ok) (ha : Anti E) {x y u v : Nat} (h4 : P4 x y u v) (hc : Clos (TT E) x) {p q : Nat} (hp : p = 1 ∨ p = 8) (hq : q = 1 ∨ q = 8) {e f : Entry} (he : e ∈ E) (hf : f ∈ E) (hy : e.at y = f.at y) (h1 : onL u v p q e = true) (h2 : onL u v p q f = true) (n1 : ¬ e.within f.at) (n2 : ¬ f.within e.at) : nc (keyE x u v e) (keyE x u v f) = true := by
  rw [onL_iff] at h1 h2
  have ex := hok e he x h4.x4
  have fx := hok f hf x h4.x4
  have s1 : ksub (keyE x u v e) (keyE x u v f) = false := Bool.eq_false_iff.mpr fun q => by
    obtain ⟨a, b⟩ := ksub_parts q
    have b := mk_sub h1.1 h1.2 h2.1 h2.2 b
    exact n1 (h4.to (xc_sub ex fx a) (.inr hy) b.1 b.2)
  have s2 : ksub (keyE x u v f) (keyE x u v e) = false := Bool.eq_false_iff.mpr fun q => by
    obtain ⟨a, b⟩ := ksub_parts q
    have b := mk_sub h2.1 h2.2 h1.1 h1.2 b
    exact n2 (h4.to (xc_sub fx ex a) (.inr hy.symm) b.1 b.2)
  unfold nc
  rw [s1, s2, (key_parts x u v e).1, (key_parts x u v e).2, (key_parts x u v f).1, (key_parts x u v f).2]
  exact nc_tail ex fx (fun a b => line_cl hok ha h4 hc hp hq he hf hy a b h1 h2) fun a b => line_cl hok ha h4 hc hp hq hf he hy.symm a b h2 h1
end Mine
end
-- L4
section
open PySem PySem.W PyProof.Rows
set_option Elab.async false
set_option linter.all false
namespace Mine
noncomputable def ofY (y s : Nat) (e : Entry) : Bool := e.at y == s
noncomputable def wE (u v : Nat) (e : Entry) : Nat := (if e.at u = 0 then 1 else 2) * (if e.at v = 0 then 1 else 2)
theorem kw_key (x u v : Nat) (e : Entry) : kw (keyE x u v e) = wE u v e := by
  unfold kw keyE wE
  by_cases h1 : e.at x = 0 <;> by_cases h2 : e.at x = 1 <;> by_cases h3 : e.at u = 0 <;> by_cases h4 : e.at v = 0 <;> simp [h1, h2, h3, h4]
theorem line_few {E : List Entry} (hok : ∀ e ∈ E, e.ok) (ha : Anti E) {x y u v : Nat} (h4 : P4 x y u v) (hc : Clos (TT E) x) {p q : Nat} (hp : p = 1 ∨ p = 8) (hq : q = 1 ∨ q = 8) (s : Nat) :
    (E.filter fun e => ofY y s e && onL u v p q e).length ≤ 3 ∧ ((E.filter fun e => ofY y s e && onL u v p q e).map (wE u v)).sum ≤ 8 := by
  have hS : Anti (E.filter fun e => ofY y s e && onL u v p q e) := ha.sublist List.filter_sublist
  have := keys_few (K := (E.filter fun e => ofY y s e && onL u v p q e).map (keyE x u v)) ?_ ?_
  · rw [List.length_map, List.map_map] at this
    refine ⟨this.1, ?_⟩
    have h2 := this.2
    rw [show (kw ∘ keyE x u v) = wE u v from funext fun e => kw_key x u v e] at h2
    exact h2
  · intro a ha
    obtain ⟨e, _, rfl⟩ := List.mem_map.mp ha
    exact keyE_lt _ _ _ _
  · rw [List.pairwise_map]
    refine List.Pairwise.imp_of_mem ?_ hS
    rintro e f he hf ⟨n1, n2⟩
    obtain ⟨he, g1⟩ := List.mem_filter.mp he
    obtain ⟨hf, g2⟩ := List.mem_filter.mp hf
    rw [Bool.and_eq_true] at g1 g2
    have y1 : e.at y = s := by simpa [ofY] using g1.1
    have y2 : f.at y = s := by simpa [ofY] using g2.1
    exact line_nc hok ha h4 hc hp hq he hf (by rw [y1, y2]) g1.2 g2.2 n1 n2
noncomputable def wl (u v p q : Nat) (e : Entry) : Nat := if onL u v p q e then wE u v e else 0
theorem wl_sum {u v : Nat} {e : Entry} (hu : okv (e.at u)) (hv : okv (e.at v)) : wl u v 1 1 e + wl u v 1 8 e + wl u v 8 1 e + wl u v 8 8 e = 4 := by
  unfold wl onL wE
  rcases hu with h | h | h <;> rcases hv with g | g | g <;> rw [h, g] <;> rfl
theorem sum_filter (f : Entry → Bool) (w : Entry → Nat) (l : List Entry) : ((l.filter f).map w).sum = (l.map fun e => if f e then w e else 0).sum := by
  induction l with
  | nil => rfl
  | cons e l ih =>
    rw [List.filter_cons, List.map_cons, List.sum_cons]
    split <;> rename_i h <;> simp [h, ih]
theorem sum4 (f1 f2 f3 f4 : Entry → Nat) (l : List Entry) : (l.map fun e => f1 e + f2 e + f3 e + f4 e).sum = (l.map f1).sum + (l.map f2).sum + (l.map f3).sum + (l.map f4).sum := by
  induction l with
  | nil => rfl
  | cons e l ih => simp only [List.map_cons, List.sum_cons, ih]; lia
theorem sum_const (f : Entry → Nat) (l : List Entry) (h : ∀ e ∈ l, f e = 4) : (l.map f).sum = 4 * l.length := by
  induction l with
  | nil => rfl
  | cons e l ih => rw [List.map_cons, List.sum_cons, h e (by simp), ih (fun e he => h e (by simp [he])), List.length_cons]; lia
theorem side_few {E : List Entry} (hok : ∀ e ∈ E, e.ok) (ha : Anti E) {x y u v : Nat} (h4 : P4 x y u v) (hc : Clos (TT E) x) (s : Nat) : (E.filter (ofY y s)).length ≤ 8 := by
  have l1 : ∀ {p q : Nat}, (p = 1 ∨ p = 8) → (q = 1 ∨ q = 8) → ((E.filter (ofY y s)).map (wl u v p q)).sum ≤ 8 := by
    intro p q hp hq
    have := (line_few hok ha h4 hc hp hq s).2
    have e : (E.filter fun e => ofY y s e && onL u v p q e) = (E.filter (ofY y s)).filter (onL u v p q) := by
      rw [List.filter_filter]; exact List.filter_congr fun e _ => Bool.and_comm _ _
    rw [e, sum_filter] at this
    exact this
  have t := sum_const (fun e => wl u v 1 1 e + wl u v 1 8 e + wl u v 8 1 e + wl u v 8 8 e) (E.filter (ofY y s)) fun e he => by
    have he := (List.mem_filter.mp he).1
    exact wl_sum (hok e he u h4.u4) (hok e he v h4.v4)
  rw [sum4] at t
  have a1 := l1 (.inl rfl) (.inl rfl)
  have a2 := l1 (.inl rfl) (.inr rfl)
  have a3 := l1 (.inr rfl) (.inl rfl)
  have a4 := l1 (.inr rfl) (.inr rfl)
  lia
theorem three_sides {E : List Entry} (hok : ∀ e ∈ E, e.ok) {y : Nat} (hy : y < 4) : E.length = (E.filter (ofY y 0)).length + (E.filter (ofY y 1)).length + (E.filter (ofY y 8)).length := by
  induction E with
  | nil => rfl
  | cons e l ih =>
    have := ih fun e he => hok e (by simp [he])
    have h := hok e (by simp) y hy
    rw [List.length_cons, this]
    rcases h with h | h | h <;> simp [List.filter_cons, ofY, h] <;> lia
theorem all_few {E : List Entry} (hok : ∀ e ∈ E, e.ok) (ha : Anti E) {x y : Nat} (hx : x < 4) (hy : y < 4) (hxy : x ≠ y) (hc : Clos (TT E) x) : E.length ≤ 24 := by
  obtain ⟨u, v, h4⟩ := P4.ex hx hy hxy
  rw [three_sides hok hy]
  have a0 := side_few hok ha h4 hc 0
  have a1 := side_few hok ha h4 hc 1
  have a8 := side_few hok ha h4 hc 8
  lia

-- the pairs that meet
theorem cf_cons {α : Type} (f : Bool) (g : α → Bool) (t : α) (l : List α) : (if f then (t :: l).countP g else 0) = (if f then l.countP g else 0) + (if (f && g t) = true then 1 else 0) := by
  cases f with
  | false => rfl
  | true => exact List.countP_cons
theorem cf_one {f g : Bool} (a : f = true) (b : g = true) : (if (f && g) = true then 1 else 0) = 1 := by rw [a, b]; rfl
theorem cf_sum {n a b c d q p1 p2 p3 p4 : Nat} (ih : n ≤ a + b + c + d) (h : q ≤ p1 + p2 + p3 + p4) : n + q ≤ (a + p1) + (b + p2) + (c + p3) + (d + p4) := by lia
theorem countP_four {α : Type} (Q : α → Bool) (g1 g2 g3 g4 : α → Bool) (f1 f2 f3 f4 : Bool) (l : List α) (h : ∀ t ∈ l, Q t = true → (f1 = true ∧ g1 t = true) ∨ (f2 = true ∧ g2 t = true) ∨ (f3 = true ∧ g3 t = true) ∨ (f4 = true ∧ g4 t = true)) :
    l.countP Q ≤ (if f1 then l.countP g1 else 0) + (if f2 then l.countP g2 else 0) + (if f3 then l.countP g3 else 0) + (if f4 then l.countP g4 else 0) := by
  induction l with
  | nil => exact Nat.zero_le _
  | cons t l ih =>
    have ih := ih fun x hx => h x (.tail _ hx)
    have h := h t (.head _)
    rw [cf_cons, cf_cons, cf_cons, cf_cons, List.countP_cons]
    refine cf_sum ih ?_
    by_cases hQ : Q t = true
    · rw [if_pos hQ]
      rcases h hQ with ⟨a, b⟩ | ⟨a, b⟩ | ⟨a, b⟩ | ⟨a, b⟩
      · rw [cf_one a b]; exact Nat.le_trans (Nat.le_add_right _ _) (Nat.le_trans (Nat.le_add_right _ _) (Nat.le_add_right _ _))
      · rw [cf_one a b]; exact Nat.le_trans (Nat.le_add_left _ _) (Nat.le_trans (Nat.le_add_right _ _) (Nat.le_add_right _ _))
      · rw [cf_one a b]; exact Nat.le_trans (Nat.le_add_left _ _) (Nat.le_add_right _ _)
      · rw [cf_one a b]; exact Nat.le_add_left _ _
    · rw [if_neg hQ]; exact Nat.zero_le _
theorem sum_count {α : Type} (f : α → Bool) (c : Nat) (l : List α) : (l.map fun o => if f o then c else 0).sum = l.countP f * c := by
  induction l with
  | nil => simp
  | cons a l ih =>
    rw [List.map_cons, List.sum_cons, List.countP_cons, ih]
    split
    · rw [Nat.add_mul]; lia
    · simp
theorem sum_le {α : Type} (f g : α → Nat) (l : List α) (h : ∀ a ∈ l, f a ≤ g a) : (l.map f).sum ≤ (l.map g).sum := by
  induction l with
  | nil => exact Nat.le_refl _
  | cons a l ih =>
    simp only [List.map_cons, List.sum_cons]
    have := h a (by simp)
    have := ih fun a ha => h a (by simp [ha])
    lia
noncomputable def lineB (y u v s p q : Nat) (e : Entry) : Bool := ofY y s e && onL u v p q e
theorem side_two {a b : Nat} (ha : okv a) (hb : okv b) (h : b + a ≠ 9) : (((a == 0 || a == 1) = true) ∧ ((b == 0 || b == 1) = true)) ∨ (((a == 0 || a == 8) = true) ∧ ((b == 0 || b == 8) = true)) := by
  rcases ha with rfl | rfl | rfl <;> rcases hb with rfl | rfl | rfl <;> first | exact absurd rfl h | exact .inl ⟨rfl, rfl⟩ | exact .inr ⟨rfl, rfl⟩
theorem meets_line {o t : Entry} (ho : o.ok) (ht : t.ok) {x y u v : Nat} (h4 : P4 x y u v) (h0 : 0 < o.at y) (hm : meets o t y = true) :
    (lineB y u v 1 1 1 o = true ∧ lineB y u v 8 1 1 t = true) ∨ (lineB y u v 1 1 8 o = true ∧ lineB y u v 8 1 8 t = true) ∨ (lineB y u v 1 8 1 o = true ∧ lineB y u v 8 8 1 t = true) ∨ (lineB y u v 1 8 8 o = true ∧ lineB y u v 8 8 8 t = true) := by
  obtain ⟨hlt, hk⟩ := meets_at hm
  have nu : t.at u + o.at u ≠ 9 := fun h => h4.yu ((hk u h4.u4).mp h).symm
  have nv : t.at v + o.at v ≠ 9 := fun h => h4.yv ((hk v h4.v4).mp h).symm
  have oy := ho y h4.y4
  have ty := ht y h4.y4
  have h1 : o.at y = 1 ∧ t.at y = 8 := by rcases oy with h | h | h <;> rcases ty with g | g | g <;> lia
  have U := side_two (ho u h4.u4) (ht u h4.u4) nu
  have V := side_two (ho v h4.v4) (ht v h4.v4) nv
  unfold lineB ofY onL
  rw [h1.1, h1.2]
  clear hk hlt nu nv h1 hm h0
  rcases U with ⟨a, b⟩ | ⟨a, b⟩ <;> rcases V with ⟨c, d⟩ | ⟨c, d⟩ <;> rw [a, b, c, d]
  · exact .inl ⟨rfl, rfl⟩
  · exact .inr (.inl ⟨rfl, rfl⟩)
  · exact .inr (.inr (.inl ⟨rfl, rfl⟩))
  · exact .inr (.inr (.inr ⟨rfl, rfl⟩))
theorem pairs_few {E : List Entry} (hok : ∀ e ∈ E, e.ok) (ha : Anti E) {x y : Nat} (hx : x < 4) (hy : y < 4) (hxy : x ≠ y) (hc : Clos (TT E) x) : mcc y E E ≤ 36 := by
  obtain ⟨u, v, h4⟩ := P4.ex hx hy hxy
  have l1 : ∀ {p q : Nat} (s : Nat), (p = 1 ∨ p = 8) → (q = 1 ∨ q = 8) → E.countP (lineB y u v s p q) ≤ 3 := by
    intro p q s hp hq
    rw [List.countP_eq_length_filter]
    exact (line_few hok ha h4 hc hp hq s).1
  have h := sum_le (fun o => E.countP fun t => decide (0 < o.at y) && meets o t y) _ E fun o ho => countP_four _ (lineB y u v 8 1 1) (lineB y u v 8 1 8) (lineB y u v 8 8 1) (lineB y u v 8 8 8) (lineB y u v 1 1 1 o) (lineB y u v 1 1 8 o) (lineB y u v 1 8 1 o) (lineB y u v 1 8 8 o) E fun t ht hq => by
    rw [Bool.and_eq_true, decide_eq_true_eq] at hq
    exact meets_line (hok o ho) (hok t ht) h4 hq.1 hq.2
  rw [sum4, sum_count, sum_count, sum_count, sum_count] at h
  have a1 := Nat.mul_le_mul (l1 1 (.inl rfl) (.inl rfl)) (l1 8 (.inl rfl) (.inl rfl))
  have a2 := Nat.mul_le_mul (l1 1 (.inl rfl) (.inr rfl)) (l1 8 (.inl rfl) (.inr rfl))
  have a3 := Nat.mul_le_mul (l1 1 (.inr rfl) (.inl rfl)) (l1 8 (.inr rfl) (.inl rfl))
  have a4 := Nat.mul_le_mul (l1 1 (.inr rfl) (.inr rfl)) (l1 8 (.inr rfl) (.inr rfl))
  show (E.map fun o => E.countP fun t => decide (0 < o.at y) && meets o t y).sum ≤ 36
  lia
end Mine
end
-- L5
section
open PySem PySem.W PyProof.Rows
set_option Elab.async false
set_option linter.all false
namespace Mine
-- callers
noncomputable def keyN (ns : List Nat) (k : Nat) : TKey := ((ns.map textN).getD k "", (k : Int), "or")
theorem keyN_inj {ns : List Nat} {k i : Nat} (h : keyN ns k = keyN ns i) : k = i := by
  have := congrArg (fun x : TKey => x.2.1) h
  exact Int.ofNat.inj this
noncomputable def rowC (ns : List Nat) (A : List Nat) (g : Nat → Nat) : Callers := A.map fun k => (keyN ns k, g k)
theorem rowC_keys (ns A g) : (rowC ns A g).map (·.1) = A.map (keyN ns) := by simp [rowC]
theorem rowC_mem (ns : List Nat) (A g) (k : Nat) : keyN ns k ∈ (rowC ns A g).map (·.1) ↔ k ∈ A := by
  rw [rowC_keys, List.mem_map]
  constructor
  · rintro ⟨i, hi, h⟩; rw [← keyN_inj h]; exact hi
  · intro h; exact ⟨k, h, rfl⟩
theorem rowC_find (ns : List Nat) (A : List Nat) (g : Nat → Nat) (k : Nat) (h : k ∈ A) : cGet (rowC ns A g) (keyN ns k) = g k := by
  unfold cGet rowC
  induction A with
  | nil => cases h
  | cons a A ih =>
    rw [List.map_cons, List.find?_cons]
    by_cases ha : keyN ns a = keyN ns k
    · have e := keyN_inj ha
      subst e
      simp
    · have : k ∈ A := by
        rcases List.mem_cons.mp h with rfl | h
        · exact absurd rfl ha
        · exact h
      simp only [ha, decide_false]
      exact ih this
theorem rowC_put (ns : List Nat) (A : List Nat) (g : Nat → Nat) (k v : Nat) : putT (rowC ns A g) (keyN ns k) v = rowC ns (if k ∈ A then A else A ++ [k]) (fun i => if i = k then v else g i) := by
  unfold putT
  by_cases h : k ∈ A
  · rw [if_pos ((rowC_mem ns A g k).mpr h), if_pos h]
    unfold rowC
    rw [List.map_map]
    refine List.map_congr_left fun i _ => ?_
    simp only [Function.comp]
    by_cases hi : i = k
    · subst hi; simp
    · have : ¬ keyN ns i = keyN ns k := fun e => hi (keyN_inj e)
      simp [hi, this]
  · rw [if_neg (fun hh => h ((rowC_mem ns A g k).mp hh)), if_neg h]
    unfold rowC
    rw [List.map_append]
    congr 1
    · refine List.map_congr_left fun i hi => ?_
      have : i ≠ k := fun e => h (e ▸ hi)
      simp [this]
    · simp
theorem rowC_congr {ns : List Nat} {A : List Nat} {g h : Nat → Nat} (e : ∀ i ∈ A, g i = h i) : rowC ns A g = rowC ns A h := List.map_congr_left fun i hi => by rw [e i hi]
theorem rowC_add (ns : List Nat) (A : List Nat) (g : Nat → Nat) (k v : Nat) (h0 : k ∉ A → g k = 0) : addStep (rowC ns A g) (keyN ns k, v) = rowC ns (if k ∈ A then A else A ++ [k]) (fun i => g i + if i = k then v else 0) := by
  unfold addStep
  dsimp only
  by_cases h : k ∈ A
  · rw [if_pos ((rowC_mem ns A g k).mpr h), rowC_put, rowC_find ns A g k h]
    refine rowC_congr fun i _ => ?_
    by_cases hi : i = k
    · subst hi; simp
    · simp [hi]
  · rw [if_neg (fun hh => h ((rowC_mem ns A g k).mp hh)), rowC_put]
    refine rowC_congr fun i _ => ?_
    by_cases hi : i = k
    · subst hi; simp [h0 h]
    · simp [hi]
theorem rowC_first (ns : List Nat) (T : List Nat) (f : Nat → Nat) : ∀ (A : List Nat) (g : Nat → Nat), (A ++ T).Nodup → (∀ i ∈ T, g i = f i) → (rowC ns T f).foldl (fun acc p => putT acc p.1 p.2) (rowC ns A g) = rowC ns (A ++ T) g := by
  induction T with
  | nil => intro A g _ _; simp [rowC]
  | cons k T ih =>
    intro A g hn hg
    show ((rowC ns T f).foldl _ (putT (rowC ns A g) (keyN ns k) (f k))) = _
    have hk : k ∉ A := fun h => by
      rw [List.nodup_append] at hn
      exact hn.2.2 k h k (by simp) rfl
    rw [rowC_put, if_neg hk]
    have e : rowC ns (A ++ [k]) (fun i => if i = k then f k else g i) = rowC ns (A ++ [k]) g := rowC_congr fun i _ => by
      by_cases hi : i = k
      · subst hi; simp [hg i (by simp)]
      · simp [hi]
    rw [e, ih (A ++ [k]) g (by simpa using hn) fun i hi => hg i (by simp [hi])]
    simp
theorem rowC_fold (ns : List Nat) (T : List Nat) (f : Nat → Nat) : ∀ (A : List Nat) (g : Nat → Nat), A.Nodup → T.Nodup → (∀ i, i ∉ A → g i = 0) → ∃ A', A'.Nodup ∧ (∀ i, i ∈ A' ↔ i ∈ A ∨ i ∈ T) ∧ (rowC ns T f).foldl addStep (rowC ns A g) = rowC ns A' (fun i => g i + if i ∈ T then f i else 0) := by
  induction T with
  | nil => intro A g hA _ _; exact ⟨A, hA, by simp, by simp [rowC]⟩
  | cons k T ih =>
    intro A g hA hT h0
    obtain ⟨hkT, hT⟩ := List.nodup_cons.mp hT
    show ∃ A' : List Nat, _ ∧ _ ∧ ((rowC ns T f).foldl addStep (addStep (rowC ns A g) (keyN ns k, f k))) = _
    rw [rowC_add ns A g k (f k) (h0 k)]
    obtain ⟨A', h1, h2, h3⟩ := ih (if k ∈ A then A else A ++ [k]) (fun i => g i + if i = k then f k else 0) (by
      split
      · exact hA
      · rename_i h
        rw [List.nodup_append]
        refine ⟨hA, by simp, ?_⟩
        intro a ha b hb e
        rw [List.mem_singleton] at hb
        subst hb; subst e
        exact h ha) hT (fun i hi => by
      have hik : i ≠ k := fun e => by
        subst e
        split at hi
        · rename_i h; exact hi h
        · simp at hi
      have hiA : i ∉ A := fun h => by
        split at hi
        · exact hi h
        · exact hi (List.mem_append_left _ h)
      simp [h0 i hiA, hik])
    refine ⟨A', h1, fun i => ?_, ?_⟩
    · rw [h2 i]
      by_cases hi : k ∈ A
      · rw [if_pos hi]; constructor
        · rintro (h | h) <;> simp [h]
        · rintro (h | h)
          · exact .inl h
          · rcases List.mem_cons.mp h with rfl | h
            · exact .inl hi
            · exact .inr h
      · rw [if_neg hi]; simp only [List.mem_append, List.mem_cons, List.not_mem_nil, or_false]
        constructor
        · rintro ((h | h) | h)
          · exact .inl h
          · exact .inr (.inl h)
          · exact .inr (.inr h)
        · rintro (h | h | h)
          · exact .inl (.inl h)
          · exact .inl (.inr h)
          · exact .inr h
    · rw [h3]
      refine rowC_congr fun i _ => ?_
      by_cases hi : i = k
      · subst hi; simp [hkT]
      · simp [hi]
structure CallOK (ns : List Nat) (e : Entry) (ord : List Nat) : Prop where
  nd : ord.Nodup
  mem : ∀ k, k ∈ ord ↔ k < 3 ∧ 0 < e.tally.getD k 0
  eq : e.callers = rowC ns ord fun k => e.tally.getD k 0
theorem tally_three {l : List Nat} (h : l.length = 3) : ∃ a b c, l = [a, b, c] := threeOf h
theorem tally_get (a b c : Nat) (k : Nat) : ([a, b, c] : List Nat).getD k 0 = if k = 0 then a else if k = 1 then b else if k = 2 then c else 0 := by
  match k with
  | 0 => rfl
  | 1 => rfl
  | 2 => rfl
  | k+3 => simp
theorem tally_add {o t : Entry} (ho : o.tally.length = 3) (ht : t.tally.length = 3) : (addE o t).tally.length = 3 ∧ (∀ k, (addE o t).tally.getD k 0 = o.tally.getD k 0 + t.tally.getD k 0) ∧ (addE o t).tally.sum = o.tally.sum + t.tally.sum := by
  obtain ⟨a, b, c, h1⟩ := tally_three ho
  obtain ⟨a', b', c', h2⟩ := tally_three ht
  have e : (addE o t).tally = [a + a', b + b', c + c'] := by show (o.tally.zip t.tally).map _ = _; rw [h1, h2]; rfl
  refine ⟨by rw [e]; rfl, fun k => ?_, ?_⟩
  · rw [e, h1, h2, tally_get, tally_get, tally_get]
    (repeat' split) <;> lia
  · rw [e, h1, h2]; simp; lia
theorem call_add {ns : List Nat} {o t : Entry} (ho : o.tally.length = 3) (ht : t.tally.length = 3) (h1 : ∃ A, CallOK ns o A) (h2 : ∃ A, CallOK ns t A) : ∃ A, CallOK ns (addE o t) A := by
  obtain ⟨A, ha⟩ := h1
  obtain ⟨B, hb⟩ := h2
  obtain ⟨_, tg, _⟩ := tally_add ho ht
  have z : ∀ {e : Entry} {A : List Nat}, e.tally.length = 3 → CallOK ns e A → ∀ i, i ∉ A → e.tally.getD i 0 = 0 := by
    intro e A he h i hi
    rw [h.mem] at hi
    by_cases hl : i < 3
    · lia
    · rw [List.getD_eq_getElem?_getD, List.getElem?_eq_none (by lia)]; rfl
  have e1 : (o.callers.foldl (fun acc p => putT acc p.1 p.2) []) = o.callers := by
    rw [ha.eq]
    have := rowC_first ns A (fun k => o.tally.getD k 0) [] (fun k => o.tally.getD k 0) (by simpa using ha.nd) (fun _ _ => rfl)
    exact this
  obtain ⟨A', n', m', eq'⟩ := rowC_fold ns B (fun k => t.tally.getD k 0) A (fun k => o.tally.getD k 0) ha.nd hb.nd (z ho ha)
  refine ⟨A', n', fun k => ?_, ?_⟩
  · rw [m', ha.mem, hb.mem, tg]
    constructor
    · rintro (h | h) <;> lia
    · rintro ⟨h, g⟩
      by_cases h0 : 0 < o.tally.getD k 0
      · exact .inl ⟨h, h0⟩
      · exact .inr ⟨h, by lia⟩
  · show addC o.callers t.callers = _
    unfold addC
    rw [e1]
    conv => lhs; rw [ha.eq, hb.eq]
    rw [eq']
    refine rowC_congr fun i _ => ?_
    rw [tg]
    by_cases hi : i ∈ B
    · rw [if_pos hi]
    · rw [if_neg hi, z ht hb i hi]
theorem tallyC_row (ns : List Nat) (e : Entry) : tallyC ns e = rowC ns ((List.range 3).filter fun k => decide (0 < e.tally.getD k 0)) fun k => e.tally.getD k 0 := rfl
theorem call_perm {ns : List Nat} {e : Entry} {A : List Nat} (h : CallOK ns e A) : A.Perm ((List.range 3).filter fun k => decide (0 < e.tally.getD k 0)) :=
  (List.perm_ext_iff_of_nodup h.nd (List.Nodup.sublist List.filter_sublist List.nodup_range)).mpr fun k => by
    rw [h.mem, List.mem_filter, List.mem_range, decide_eq_true_eq]
theorem call_facts {ns : List Nat} {e : Entry} (ht : e.tally.length = 3) (h : ∃ A, CallOK ns e A) : e.callers.Perm (tallyC ns e) ∧ sumC e = e.tally.sum ∧ e.callers.length ≤ 3 := by
  obtain ⟨A, h⟩ := h
  have p := call_perm h
  have p1 : e.callers.Perm (tallyC ns e) := by rw [h.eq, tallyC_row]; exact p.map _
  refine ⟨p1, ?_, ?_⟩
  · unfold sumC
    rw [(p1.map (·.2)).sum_nat, tallyC_row]
    obtain ⟨a, b, c, h1⟩ := tally_three ht
    rw [h1]
    show (((([0, 1, 2] : List Nat).filter fun k => decide (0 < ([a, b, c] : List Nat).getD k 0)).map fun k => (keyN ns k, ([a, b, c] : List Nat).getD k 0)).map (·.2)).sum = _
    rw [List.map_map]
    simp only [List.filter_cons, List.filter_nil]
    by_cases ha : 0 < a <;> by_cases hb : 0 < b <;> by_cases hc : 0 < c <;> simp [ha, hb, hc] <;> lia
  · rw [p1.length_eq, tallyC_row]
    unfold rowC
    rw [List.length_map]
    exact Nat.le_trans (List.length_filter_le _ _) (by simp)
end Mine
end
-- L6
section
open PySem PySem.W PyProof.Rows
set_option Elab.async false
set_option linter.all false
namespace Mine
-- points and masks
abbrev litOK (v b : Nat) : Prop := v = 0 ∨ (v = 1 ∧ b = 0) ∨ (v = 8 ∧ b = 1)
noncomputable def falsC (c : Nat → Nat) (j : Nat) : Prop := ∀ k, k < 4 → litOK (c k) (j / 2 ^ k % 2)
noncomputable def Impl (Bad : Nat → Prop) (c : Nat → Nat) : Prop := ∀ j, j < 16 → falsC c j → Bad j
noncomputable def dg (v : Nat) : Nat := (if 0 < v then 1 else 0) + (if 1 < v then 1 else 0)
noncomputable def litD (d b : Nat) : Bool := d == 0 || (d == 1 && b == 0) || (d == 2 && b == 1)
noncomputable def codeC (c : Nat → Nat) : Nat := dg (c 0) + 3 * dg (c 1) + 9 * dg (c 2) + 27 * dg (c 3)
theorem codeE_eq (e : Entry) : codeE e = codeC e.at := by
  show (3 ^ 0 * dg (e.at 0) + (3 ^ 1 * dg (e.at 1) + (3 ^ 2 * dg (e.at 2) + (3 ^ 3 * dg (e.at 3) + 0)))) = _
  unfold codeC; lia
theorem dg_lt {v : Nat} (h : okv v) : dg v < 3 := by rcases h with rfl | rfl | rfl <;> decide
theorem dg_table : ∀ a b c d : _root_.Fin 3, (a : Nat) + 3 * (b : Nat) + 9 * (c : Nat) + 27 * (d : Nat) < 81 ∧ ((a : Nat) + 3 * (b : Nat) + 9 * (c : Nat) + 27 * (d : Nat)) / 3 ^ 0 % 3 = (a : Nat) ∧ ((a : Nat) + 3 * (b : Nat) + 9 * (c : Nat) + 27 * (d : Nat)) / 3 ^ 1 % 3 = (b : Nat) ∧ ((a : Nat) + 3 * (b : Nat) + 9 * (c : Nat) + 27 * (d : Nat)) / 3 ^ 2 % 3 = (c : Nat) ∧ ((a : Nat) + 3 * (b : Nat) + 9 * (c : Nat) + 27 * (d : Nat)) / 3 ^ 3 % 3 = (d : Nat) := by decide +kernel
theorem codeC_lt {c : Nat → Nat} (h : okc c) : codeC c < 81 := by
  have h0 := dg_lt (h 0 (by decide))
  have h1 := dg_lt (h 1 (by decide))
  have h2 := dg_lt (h 2 (by decide))
  have h3 := dg_lt (h 3 (by decide))
  unfold codeC; exact (dg_table ⟨_, h0⟩ ⟨_, h1⟩ ⟨_, h2⟩ ⟨_, h3⟩).1
theorem digit_code {c : Nat → Nat} (h : okc c) : ∀ k, k < 4 → digit (codeC c) k = dg (c k) := by
  have h0 := dg_lt (h 0 (by decide))
  have h1 := dg_lt (h 1 (by decide))
  have h2 := dg_lt (h 2 (by decide))
  have h3 := dg_lt (h 3 (by decide))
  unfold digit codeC
  obtain ⟨_, e0, e1, e2, e3⟩ := dg_table ⟨_, h0⟩ ⟨_, h1⟩ ⟨_, h2⟩ ⟨_, h3⟩
  exact all4 e0 e1 e2 e3
noncomputable def atD (d : Nat) : Nat := if d = 0 then 0 else if d = 1 then 1 else 8
noncomputable def decC (code k : Nat) : Nat := atD (digit code k)
theorem atD_ok (d : Nat) : okv (atD d) := by
  unfold atD; split
  · exact .inl rfl
  · split
    · exact ok1
    · exact ok8
theorem decC_ok (code : Nat) : okc (decC code) := fun k _ => atD_ok _
theorem dg_atD {d : Nat} (h : d < 3) : dg (atD d) = d := by rcases lt3 h with rfl | rfl | rfl <;> rfl
theorem atD_dg {v : Nat} (h : okv v) : atD (dg v) = v := by rcases h with rfl | rfl | rfl <;> rfl
theorem code_table : ((List.range 81).all fun m => codeC (decC m) == m) = true := by decide +kernel
theorem codeC_decC {code : Nat} (h : code < 81) : codeC (decC code) = code := by
  exact eq_of_beq (List.all_eq_true.mp code_table code (List.mem_range.mpr h))
theorem decC_codeC {c : Nat → Nat} (h : okc c) : ∀ k, k < 4 → decC (codeC c) k = c k := fun k hk => by
  unfold decC; rw [digit_code h k hk, atD_dg (h k hk)]
theorem masks_bits : (masksOf.zipIdx.all fun p => (List.range 16).all fun j => p.1.testBit j == (List.range 4).all fun k => litD (digit p.2 k) (j / 2 ^ k % 2)) = true := by decide +kernel
theorem masks_low : (masksOf.all fun m => decide (m < 65536)) = true := by decide +kernel
theorem masks_len81 : masksOf.length = 81 := by decide +kernel
theorem mask_bit {code j : Nat} (h : code < 81) (hj : j < 16) : (masksOf.getD code 0).testBit j = (List.range 4).all fun k => litD (digit code k) (j / 2 ^ k % 2) := by
  have h2 : masksOf[code]? = some (masksOf.getD code 0) := by rw [List.getD_eq_getElem?_getD, List.getElem?_eq_getElem (by rw [masks_len81]; exact h)]; rfl
  have h1 : (masksOf.getD code 0, code) ∈ masksOf.zipIdx := by rw [List.mem_zipIdx_iff_getElem?]; exact h2
  exact eq_of_beq (List.all_eq_true.mp (List.all_eq_true.mp masks_bits _ h1) j (List.mem_range.mpr hj))
theorem mask_lt (code : Nat) : masksOf.getD code 0 < 2 ^ 16 := by
  rw [List.getD_eq_getElem?_getD]
  cases h : masksOf[code]? with
  | none => decide
  | some m => exact of_decide_eq_true (List.all_eq_true.mp masks_low m (List.mem_of_getElem? h))
theorem litD_iff {v b : Nat} (h : okv v) : litD (dg v) b = true ↔ litOK v b := by
  rcases h with rfl | rfl | rfl <;> simp [litD, dg, litOK]
theorem mask_fals {c : Nat → Nat} (h : okc c) {j : Nat} (hj : j < 16) : (masksOf.getD (codeC c) 0).testBit j = true ↔ falsC c j := by
  rw [mask_bit (codeC_lt h) hj, List.all_eq_true]
  constructor
  · intro g k hk
    have := g k (List.mem_range.mpr hk)
    rw [digit_code h k hk, litD_iff (h k hk)] at this
    exact this
  · intro g k hk
    have hk := List.mem_range.mp hk
    rw [digit_code h k hk, litD_iff (h k hk)]
    exact g k hk
theorem zero_iff {m : Nat} (h : m < 2 ^ 16) : m = 0 ↔ ∀ j, j < 16 → m.testBit j = false := by
  constructor
  · rintro rfl j _; simp
  · intro g
    refine Nat.eq_of_testBit_eq fun j => ?_
    rw [Nat.zero_testBit]
    by_cases hj : j < 16
    · exact g j hj
    · exact Nat.testBit_lt_two_pow (Nat.lt_of_lt_of_le h (Nat.pow_le_pow_right (by decide) (by omega)))
noncomputable def badN (ns : List Nat) (k j : Nat) : Prop := (caseN (ns.getD k 0)).testBit j = false
noncomputable def Bad (ns : List Nat) (j : Nat) : Prop := ∃ k, k < 3 ∧ badN ns k j
theorem fold_bit (f : (TKey × Nat) → Nat) (l : Callers) (m j : Nat) : (l.foldl (fun a p => a &&& f p) m).testBit j = (m.testBit j && l.all fun p => (f p).testBit j) := by
  induction l generalizing m with
  | nil => simp
  | cons p l ih => rw [List.foldl_cons, ih, Nat.testBit_and, List.all_cons, Bool.and_assoc]
theorem fold_le (f : (TKey × Nat) → Nat) (l : Callers) (m : Nat) (h : m < 2 ^ 16) : l.foldl (fun a p => a &&& f p) m < 2 ^ 16 := by
  induction l generalizing m with
  | nil => exact h
  | cons p l ih => exact ih _ (Nat.lt_of_le_of_lt Nat.and_le_left h)
/-- what holds of every entry -/
structure EG (ns : List Nat) (e : Entry) : Prop where
  ok : e.ok
  tl : e.tally.length = 3
  call : ∃ A, CallOK ns e A
  cnt : 16 / 2 ^ e.size ≤ e.tally.sum
  sound : ∀ j, j < 16 → falsC e.at j → ∃ k, k < 3 ∧ 0 < e.tally.getD k 0 ∧ badN ns k j
theorem left_zero {ns : List Nat} {e : Entry} (g : EG ns e) : leftOf ns e = 0 := by
  unfold leftOf
  rw [codeE_eq]
  obtain ⟨A, hA⟩ := g.call
  refine (zero_iff (fold_le _ _ _ (mask_lt _))).mpr fun j hj => ?_
  rw [fold_bit, Bool.and_eq_false_iff]
  by_cases hf : falsC e.at j
  · right
    obtain ⟨k, hk, hp, hb⟩ := g.sound j hj hf
    have hm : (keyN ns k, e.tally.getD k 0) ∈ e.callers := by
      rw [hA.eq]
      exact List.mem_map.mpr ⟨k, (hA.mem k).mpr ⟨hk, hp⟩, rfl⟩
    refine Bool.eq_false_iff.mpr fun hall => ?_
    have := List.all_eq_true.mp hall _ hm
    have e2 : ((keyN ns k, e.tally.getD k 0) : TKey × Nat).1.2.1.toNat = k := Int.toNat_natCast k
    rw [e2] at this
    unfold badN at hb
    rw [this] at hb; cases hb
  · left
    refine Bool.eq_false_iff.mpr fun h => hf ((mask_fals g.ok hj).mp h)
theorem EG.entry {ns : List Nat} {e : Entry} (g : EG ns e) : EntryOK ns e := by
  obtain ⟨p, hs, _⟩ := call_facts g.tl g.call
  refine ⟨g.tl, ?_, by rw [hs]; exact g.cnt, left_zero g, p.length_eq, fun x hx => p.subset hx, hs⟩
  obtain ⟨A, hA⟩ := g.call
  intro x hx
  rw [hA.eq] at hx
  obtain ⟨k, hk, rfl⟩ := List.mem_map.mp hx
  exact ⟨k, ((hA.mem k).mp hk).1, rfl⟩

theorem addE_ok {o t : Entry} (ho : o.ok) (ht : t.ok) : (addE o t).ok := fun k hk => by
  rw [addE_at o t k hk]; exact whole_ok (ht k hk) (ho k hk)
/-- o's letters but x are e's, and x is not e's -/
theorem drop4 {a b c d a' b' c' d' : Nat} (ha : a' ≤ 1) (hb : b' ≤ 1) (hc : c' ≤ 1) (hd : d' ≤ 1) (xa : a ≤ 1) (h1 : b ≤ b') (h2 : c ≤ c') (h3 : d ≤ d') (h0 : a' = 0) : a + b + c + d ≤ a' + b' + c' + d' + 1 ∧ a' + b' + c' + d' ≤ 3 := by lia
theorem size_drop {o e : Entry} {x : Nat} (hx : x < 4) (h : ∀ k, k < 4 → k ≠ x → o.at k ≠ 0 → e.at k ≠ 0) (h0 : e.at x = 0) : o.size ≤ e.size + 1 ∧ e.size ≤ 3 := by
  have g : ∀ k, k < 4 → k ≠ x → sg (o.at k) ≤ sg (e.at k) := fun k hk hkx => sg_mono (h k hk hkx)
  have z : sg (e.at x) = 0 := by rw [h0]; rfl
  rw [size_eq, size_eq]
  clear h h0
  have l := sg_le1
  rcases lt4 hx with rfl | rfl | rfl | rfl
  · exact drop4 (l _) (l _) (l _) (l _) (l _) (g 1 (by decide) (by decide)) (g 2 (by decide) (by decide)) (g 3 (by decide) (by decide)) z
  · rw [Nat.add_comm (sg (o.at 0)), Nat.add_comm (sg (e.at 0))]
    exact drop4 (l _) (l _) (l _) (l _) (l _) (g 0 (by decide) (by decide)) (g 2 (by decide) (by decide)) (g 3 (by decide) (by decide)) z
  · rw [Nat.add_comm (_ + _) (sg (o.at 2)), Nat.add_comm (_ + _) (sg (e.at 2)), ← Nat.add_assoc, ← Nat.add_assoc]
    exact drop4 (l _) (l _) (l _) (l _) (l _) (g 0 (by decide) (by decide)) (g 1 (by decide) (by decide)) (g 3 (by decide) (by decide)) z
  · rw [Nat.add_comm (_ + _) (sg (o.at 3)), Nat.add_comm (_ + _) (sg (e.at 3)), ← Nat.add_assoc, ← Nat.add_assoc, ← Nat.add_assoc, ← Nat.add_assoc]
    exact drop4 (l _) (l _) (l _) (l _) (l _) (g 0 (by decide) (by decide)) (g 1 (by decide) (by decide)) (g 2 (by decide) (by decide)) z
theorem pow_half {a b c : Nat} (ha : a ≤ c + 1) (hb : b ≤ c + 1) (hc : c ≤ 3) : 16 / 2 ^ c ≤ 16 / 2 ^ a + 16 / 2 ^ b := by
  have h1 : 16 / 2 ^ (c + 1) ≤ 16 / 2 ^ a := Nat.div_le_div_left (Nat.pow_le_pow_right (by decide) ha) (Nat.pow_pos (by decide))
  have h2 : 16 / 2 ^ (c + 1) ≤ 16 / 2 ^ b := Nat.div_le_div_left (Nat.pow_le_pow_right (by decide) hb) (Nat.pow_pos (by decide))
  have h3 : 16 / 2 ^ c = 16 / 2 ^ (c + 1) + 16 / 2 ^ (c + 1) := by
    rcases (show c = 0 ∨ c = 1 ∨ c = 2 ∨ c = 3 by lia) with rfl | rfl | rfl | rfl <;> decide
  lia
theorem EG.add {ns : List Nat} {o t : Entry} (ho : EG ns o) (ht : EG ns t) {x : Nat} (hx : x < 4) (h0 : 0 < o.at x) (hm : meets o t x = true) : EG ns (addE o t) := by
  obtain ⟨hlt, hk⟩ := meets_at hm
  have h9 := (hk x hx).mpr rfl
  obtain ⟨t1, t2, t3⟩ := tally_add ho.tl ht.tl
  have ox := ho.ok x hx
  have tx := ht.ok x hx
  have ho1 : o.at x = 1 := by rcases ox with h | h | h <;> rcases tx with g | g | g <;> lia
  have ht8 : t.at x = 8 := by lia
  have ex : (addE o t).at x = 0 := by rw [addE_at o t x hx, h9]; rfl
  have side : ∀ k, k < 4 → k ≠ x → (o.at k ≠ 0 → (addE o t).at k = o.at k) ∧ (t.at k ≠ 0 → (addE o t).at k = t.at k) := fun k hk4 hkx => by
    have w := whole_lit (ht.ok k hk4) (ho.ok k hk4) (fun h => hkx ((hk k hk4).mp h))
    rw [addE_at o t k hk4]
    exact ⟨w.2.1, w.1⟩
  refine ⟨addE_ok ho.ok ht.ok, t1, call_add ho.tl ht.tl ho.call ht.call, ?_, ?_⟩
  · rw [t3]
    have s1 := size_drop (o := o) (e := addE o t) hx (fun k hk4 hkx h => by rw [(side k hk4 hkx).1 h]; exact h) ex
    have s2 := size_drop (o := t) (e := addE o t) hx (fun k hk4 hkx h => by rw [(side k hk4 hkx).2 h]; exact h) ex
    have := pow_half s1.1 s2.1 s1.2
    have := ho.cnt
    have := ht.cnt
    lia
  · intro j hj hf
    have hb : j / 2 ^ x % 2 = 0 ∨ j / 2 ^ x % 2 = 1 := by lia
    rcases hb with hb | hb
    · have : falsC o.at j := fun k hk4 => by
        by_cases hkx : k = x
        · subst hkx; exact .inr (.inl ⟨ho1, hb⟩)
        · by_cases hz : o.at k = 0
          · exact .inl hz
          · have := hf k hk4; rw [(side k hk4 hkx).1 hz] at this; exact this
      obtain ⟨k, a, b, c⟩ := ho.sound j hj this
      exact ⟨k, a, by rw [t2]; lia, c⟩
    · have : falsC t.at j := fun k hk4 => by
        by_cases hkx : k = x
        · subst hkx; exact .inr (.inr ⟨ht8, hb⟩)
        · by_cases hz : t.at k = 0
          · exact .inl hz
          · have := hf k hk4; rw [(side k hk4 hkx).2 hz] at this; exact this
      obtain ⟨k, a, b, c⟩ := ht.sound j hj this
      exact ⟨k, a, by rw [t2]; lia, c⟩
theorem Impl.clos (B : Nat → Prop) {x : Nat} (hx : x < 4) : Clos (Impl B) x := fun c hc h0 => by
  constructor
  · intro h
    have : ∀ v, Impl B (updC c x v) := fun v j hj hf => h j hj fun k hk => by
      by_cases hkx : k = x
      · subst hkx; exact .inl h0
      · have := hf k hk; rwa [updC_ne _ _ hkx] at this
    exact ⟨this 1, this 8⟩
  · rintro ⟨h1, h8⟩ j hj hf
    have hb : j / 2 ^ x % 2 = 0 ∨ j / 2 ^ x % 2 = 1 := by lia
    rcases hb with hb | hb
    · refine h1 j hj fun k hk => ?_
      by_cases hkx : k = x
      · subst hkx; rw [updC_self]; exact .inr (.inl ⟨rfl, hb⟩)
      · rw [updC_ne _ _ hkx]; exact hf k hk
    · refine h8 j hj fun k hk => ?_
      by_cases hkx : k = x
      · subst hkx; rw [updC_self]; exact .inr (.inr ⟨rfl, hb⟩)
      · rw [updC_ne _ _ hkx]; exact hf k hk
end Mine
end
-- L7
section
open PySem PySem.W PyProof.Rows
set_option Elab.async false
set_option linter.all false
namespace Mine
-- what is told
noncomputable def unNum (x : Str) : Nat := x.cps.toList.foldl (fun a c => a * 10 + (c - 48)) 0
theorem unNum_all : ((List.range 64).all fun k => unNum (V.numStr k) == k) = true := by decide +kernel
theorem numStr_inj {i j : Nat} (hi : i < 64) (hj : j < 64) (h : V.numStr i = V.numStr j) : i = j := by
  have a := eq_of_beq (List.all_eq_true.mp unNum_all i (List.mem_range.mpr hi))
  have b := eq_of_beq (List.all_eq_true.mp unNum_all j (List.mem_range.mpr hj))
  rw [← a, ← b, h]
noncomputable def has (v : Nat → Nat) (x : Str) : Bool := (List.range 4).any fun k => decide (0 < v k) && decide (x = sgn (v k) k)
theorem table_has {E : List Entry} {i : Nat} {e : Entry} (he : E[i]? = some e) (h64 : E.length < 64) {x : Str} (hx : x ∈ signs8) : decide ((x, V.numStr i) ∈ tableOf E) = has e.at x := by
  have hil : i < E.length := (List.getElem?_eq_some_iff.mp he).1
  rw [Bool.eq_iff_iff, decide_eq_true_eq]
  unfold tableOf has
  rw [List.mem_append, List.any_eq_true]
  unfold pairsOf
  rw [pairsOf_flat, List.nil_append, List.mem_flatMap]
  constructor
  · rintro (⟨⟨f, j⟩, h1, h2⟩ | h)
    · rw [List.mem_zipIdx_iff_getElem?] at h1
      have hj : j < E.length := (List.getElem?_eq_some_iff.mp h1).1
      obtain ⟨k, hk, h3⟩ := List.mem_map.mp h2
      obtain ⟨hk, hp⟩ := List.mem_filter.mp hk
      have hij : j = i := numStr_inj (by lia) (by lia) (congrArg (fun p : Str × Str => p.2) h3)
      subst hij
      rw [he] at h1; cases h1
      refine ⟨k, hk, ?_⟩
      rw [hp, Bool.true_and, decide_eq_true_eq]
      exact (congrArg (fun p : Str × Str => p.1) h3).symm
    · unfold blanks at h
      obtain ⟨k, _, h3⟩ := List.mem_map.mp h
      have : x = ⟨#[]⟩ := (congrArg (fun p : Str × Str => p.1) h3).symm
      subst this
      exact absurd hx (by decide)
  · rintro ⟨k, hk, h⟩
    rw [Bool.and_eq_true, decide_eq_true_eq, decide_eq_true_eq] at h
    left
    refine ⟨(e, i), by rw [List.mem_zipIdx_iff_getElem?]; exact he, ?_⟩
    refine List.mem_map.mpr ⟨k, List.mem_filter.mpr ⟨hk, by simpa using h.1⟩, ?_⟩
    rw [h.2]
noncomputable def vec (a b c d : Nat) (k : Nat) : Nat := if k = 0 then a else if k = 1 then b else if k = 2 then c else d
noncomputable def v3 : List Nat := [0, 1, 8]
theorem texts_all : (v3.all fun a => v3.all fun b => v3.all fun c => v3.all fun d => decide (Str.join "" (signs8.filter (has (vec a b c d))) = dueText (codeC (vec a b c d)))) = true := by decide +kernel
theorem ok_v3 {v : Nat} (h : okv v) : v ∈ v3 := by rcases h with rfl | rfl | rfl <;> decide
theorem has_congr {v w : Nat → Nat} (h : ∀ k, k < 4 → v k = w k) (x : Str) : has v x = has w x := by
  show ((([0, 1, 2, 3] : List Nat).any fun k => decide (0 < v k) && decide (x = sgn (v k) k))) = (([0, 1, 2, 3] : List Nat).any fun k => decide (0 < w k) && decide (x = sgn (w k) k))
  simp only [List.any_cons, List.any_nil, h 0 (by decide), h 1 (by decide), h 2 (by decide), h 3 (by decide)]
theorem code_congr {v w : Nat → Nat} (h : ∀ k, k < 4 → v k = w k) : codeC v = codeC w := by
  unfold codeC
  rw [h 0 (by decide), h 1 (by decide), h 2 (by decide), h 3 (by decide)]
theorem text_code {v : Nat → Nat} (h : okc v) : Str.join "" (signs8.filter (has v)) = dueText (codeC v) := by
  have e : ∀ k, k < 4 → v k = vec (v 0) (v 1) (v 2) (v 3) k := all4 rfl rfl rfl rfl
  rw [code_congr e, show has v = has (vec (v 0) (v 1) (v 2) (v 3)) from funext fun x => has_congr e x]
  have := List.all_eq_true.mp (List.all_eq_true.mp (List.all_eq_true.mp (List.all_eq_true.mp texts_all _ (ok_v3 (h 0 (by decide)))) _ (ok_v3 (h 1 (by decide)))) _ (ok_v3 (h 2 (by decide)))) _ (ok_v3 (h 3 (by decide)))
  exact of_decide_eq_true this
theorem told_eq {E : List Entry} (hok : ∀ e ∈ E, e.ok) (h64 : E.length < 64) : toldL E = (E.map codeE).map dueText := by
  refine List.ext_getElem? fun i => ?_
  unfold toldL
  rw [List.map_map, List.getElem?_map, List.getElem?_map]
  cases he : E[i]? with
  | none =>
    have : E.length ≤ i := List.getElem?_eq_none_iff.mp he
    rw [List.getElem?_eq_none (by simpa using this)]; rfl
  | some e =>
    have hil : i < E.length := (List.getElem?_eq_some_iff.mp he).1
    rw [List.getElem?_range hil]
    simp only [Option.map_some, Function.comp]
    congr 1
    unfold toldText
    rw [List.filter_congr fun x hx => table_has he h64 hx, codeE_eq]
    exact text_code (hok e (List.mem_of_getElem? he))
-- what is due
theorem follows_get (ns : List Nat) {code : Nat} (h : code < 81) : (followsL ns).getD code false = ((caseN (ns.getD 0 0) &&& caseN (ns.getD 1 0) &&& caseN (ns.getD 2 0) &&& masksOf.getD code 0) == 0) := by
  unfold followsL
  rw [List.getD_eq_getElem?_getD, List.getElem?_map, List.getD_eq_getElem?_getD (l := masksOf), List.getElem?_eq_getElem (by rw [masks_len]; exact h)]
  rfl
theorem follows_iff (ns : List Nat) {c : Nat → Nat} (h : okc c) : (followsL ns).getD (codeC c) false = true ↔ Impl (Bad ns) c := by
  rw [follows_get ns (codeC_lt h), beq_iff_eq, zero_iff (Nat.lt_of_le_of_lt Nat.and_le_right (mask_lt _))]
  refine forall_congr' fun j => forall_congr' fun hj => ?_
  rw [Nat.testBit_and, Nat.testBit_and, Nat.testBit_and, ← mask_fals h hj]
  unfold Bad badN
  constructor
  · intro g hm
    rw [hm, Bool.and_true] at g
    cases h0 : (caseN (ns.getD 0 0)).testBit j with
    | false => exact ⟨0, by decide, h0⟩
    | true =>
      cases h1 : (caseN (ns.getD 1 0)).testBit j with
      | false => exact ⟨1, by decide, h1⟩
      | true =>
        rw [h0, h1] at g
        exact ⟨2, by decide, by simpa using g⟩
  · intro g
    cases hm : (masksOf.getD (codeC c) 0).testBit j with
    | false => simp
    | true =>
      obtain ⟨k, hk, h⟩ := g hm
      rcases lt3 hk with rfl | rfl | rfl <;> rw [h] <;> simp
theorem digits4 {code : Nat} (hc : code < 81) : code = digit code 0 + 3 * digit code 1 + 9 * digit code 2 + 27 * digit code 3 := by
  unfold digit
  omega
theorem digit_drop {code : Nat} (hc : code < 81) {k : Nat} (hk : k < 4) (h : 0 < digit code k) : code - digit code k * 3 ^ k = codeC (updC (decC code) k 0) := by
  have hd : ∀ k, digit code k < 3 := fun k => Nat.mod_lt _ (by decide)
  have e : ∀ i, i ≠ k → dg (updC (decC code) k 0 i) = digit code i := fun i hi => by rw [updC_ne _ _ hi]; exact dg_atD (hd i)
  have e0 : dg (updC (decC code) k 0 k) = 0 := by rw [updC_self]; rfl
  have s := digits4 hc
  unfold codeC
  clear hd hc h
  rcases lt4 hk with rfl | rfl | rfl | rfl
  · rw [e0, e 1 (by decide), e 2 (by decide), e 3 (by decide)]; clear e e0 hk; generalize digit code 0 = a at *; generalize digit code 1 = b at *; generalize digit code 2 = c at *; generalize digit code 3 = d at *; lia
  · rw [e0, e 0 (by decide), e 2 (by decide), e 3 (by decide)]; clear e e0 hk; generalize digit code 0 = a at *; generalize digit code 1 = b at *; generalize digit code 2 = c at *; generalize digit code 3 = d at *; lia
  · rw [e0, e 0 (by decide), e 1 (by decide), e 3 (by decide)]; clear e e0 hk; generalize digit code 0 = a at *; generalize digit code 1 = b at *; generalize digit code 2 = c at *; generalize digit code 3 = d at *; lia
  · rw [e0, e 0 (by decide), e 1 (by decide), e 2 (by decide)]; clear e e0 hk; generalize digit code 0 = a at *; generalize digit code 1 = b at *; generalize digit code 2 = c at *; generalize digit code 3 = d at *; lia
theorem due_iff (ns : List Nat) {code : Nat} (hc : code < 81) : dueB (followsL ns) code = true ↔ Impl (Bad ns) (decC code) ∧ ∀ k, k < 4 → decC code k ≠ 0 → ¬ Impl (Bad ns) (updC (decC code) k 0) := by
  unfold dueB
  rw [Bool.and_eq_true, List.isEmpty_iff, List.filter_eq_nil_iff]
  have e := follows_iff ns (decC_ok code)
  rw [codeC_decC hc] at e
  rw [e]
  refine and_congr_right fun _ => ?_
  have dz : ∀ k, decC code k ≠ 0 ↔ 0 < digit code k := fun k => by
    have hd : digit code k < 3 := Nat.mod_lt _ (by decide)
    unfold decC
    rcases lt3 hd with h | h | h <;> rw [h] <;> decide
  constructor
  · intro g k hk hz hI
    refine g k (List.mem_range.mpr hk) ?_
    have hp := (dz k).mp hz
    rw [Bool.and_eq_true, decide_eq_true_eq]
    refine ⟨hp, ?_⟩
    rw [digit_drop hc hk hp]
    exact (follows_iff ns (updC_ok (decC_ok code) (.inl rfl))).mpr hI
  · intro g k hk h
    have hk := List.mem_range.mp hk
    rw [Bool.and_eq_true, decide_eq_true_eq] at h
    refine g k hk ((dz k).mpr h.1) ?_
    have := h.2
    rw [digit_drop hc hk h.1] at this
    exact (follows_iff ns (updC_ok (decC_ok code) (.inl rfl))).mp this
theorem T_congr {E : List Entry} {c d : Nat → Nat} (h : ∀ k, k < 4 → c k = d k) : TT E c → TT E d := fun ⟨e, he, hw⟩ => ⟨e, he, fun k hk => by rw [← h k hk]; exact hw k hk⟩
theorem code_inj {o e : Entry} (ho : o.ok) (he : e.ok) (h : codeE o = codeE e) : ∀ k, k < 4 → o.at k = e.at k := fun k hk => by
  rw [codeE_eq, codeE_eq] at h
  rw [← decC_codeC ho k hk, h, decC_codeC he k hk]
theorem final_perm {ns : List Nat} {E : List Entry} (hok : ∀ e ∈ E, e.ok) (ha : Anti E) (hT : ∀ c, okc c → (TT E c ↔ Impl (Bad ns) c)) (h64 : E.length < 64) : (toldL E).Perm (dueL ns) := by
  rw [told_eq hok h64]
  unfold dueL
  refine List.Perm.map _ ?_
  refine (List.perm_ext_iff_of_nodup ?_ (List.Nodup.sublist List.filter_sublist List.nodup_range)).mpr fun code => ?_
  · unfold List.Nodup
    rw [List.pairwise_map]
    refine List.Pairwise.imp_of_mem ?_ ha
    rintro o e ho he ⟨n1, _⟩ h
    exact n1 fun k hk => .inr (code_inj (hok o ho) (hok e he) h k hk)
  · rw [List.mem_filter, List.mem_range, List.mem_map]
    constructor
    · rintro ⟨e, he, rfl⟩
      have hlt : codeE e < 81 := by rw [codeE_eq]; exact codeC_lt (hok e he)
      have hd : ∀ k, k < 4 → decC (codeE e) k = e.at k := fun k hk => by rw [codeE_eq]; exact decC_codeC (hok e he) k hk
      refine ⟨hlt, (due_iff ns hlt).mpr ⟨?_, ?_⟩⟩
      · exact (hT _ (decC_ok _)).mp ⟨e, he, fun k hk => .inr (hd k hk).symm⟩
      · intro k hk hz hI
        obtain ⟨o, ho, hw⟩ := (hT _ (updC_ok (decC_ok _) (.inl rfl))).mpr hI
        have : o.within e.at := fun i hi => by
          by_cases hik : i = k
          · subst hik
            have := hw i hi; rw [updC_self] at this
            left; lia
          · have := hw i hi; rw [updC_ne _ _ hik, hd i hi] at this; exact this
        have e1 := ha.eq ho he this
        subst e1
        have := hw k hk
        rw [updC_self] at this
        rw [hd k hk] at hz
        lia
    · rintro ⟨hlt, hdue⟩
      obtain ⟨hI, hmin⟩ := (due_iff ns hlt).mp hdue
      obtain ⟨e, he, hw⟩ := (hT _ (decC_ok _)).mpr hI
      refine ⟨e, he, ?_⟩
      have : ∀ k, k < 4 → e.at k = decC code k := fun k hk => by
        rcases hw k hk with h | h
        · refine Classical.byContradiction fun hne => ?_
          have hz : decC code k ≠ 0 := fun h0 => hne (by rw [h, h0])
          refine hmin k hk hz ((hT _ (updC_ok (decC_ok _) (.inl rfl))).mp ⟨e, he, fun i hi => ?_⟩)
          by_cases hik : i = k
          · subst hik; exact .inl h
          · rw [updC_ne _ _ hik]; exact hw i hi
        · exact h
      rw [codeE_eq, code_congr this, codeC_decC hlt]
end Mine
end
-- L8
section
open PySem PySem.W PyProof.Rows
set_option Elab.async false
set_option linter.all false
namespace Mine
-- a statement's clauses
noncomputable def row2 (N : Nat) : Row2 := (rowN N).map fun x => (x.1, x.2.1)
structure FR (row : Row2) : Prop where
  len : row.length = 2 ∨ row.length = 3
  lt : ∀ x ∈ row, x.1 < 4
  nd : (row.map (·.1)).Nodup
theorem rowOf_nodup (part : Nat) : (rowOf part).Nodup := by
  have h0 : part % 4 < 4 := Nat.mod_lt _ (by decide)
  have h1 : part / 4 % 3 < 3 := Nat.mod_lt _ (by decide)
  have h2 : part / 12 % 3 < 3 := Nat.mod_lt _ (by decide)
  unfold rowOf
  generalize part % 4 = i at *
  generalize part / 4 % 3 = j at *
  generalize part / 12 % 3 = k at *
  rcases lt4 h0 with rfl | rfl | rfl | rfl <;> rcases lt3 h1 with rfl | rfl | rfl <;> rcases lt3 h2 with rfl | rfl | rfl <;> decide
theorem row2_fst (N : Nat) : (row2 N).map (·.1) = rowOf (N / 8) := by
  unfold row2 rowN signsOf
  rw [List.map_map, List.map_map]
  have : ∀ (l : List Nat) (n : Nat), (l.zipIdx n).map (fun p => p.1) = l := by
    intro l
    induction l with
    | nil => intro n; rfl
    | cons a l ih => intro n; rw [List.zipIdx_cons, List.map_cons, ih]
  exact this _ 0
theorem row2_ok (N : Nat) : FR (row2 N) := by
  have h := rowN_ok N
  refine ⟨by simpa [row2] using h.1, ?_, by rw [row2_fst]; exact rowOf_nodup _⟩
  intro x hx
  obtain ⟨y, hy, rfl⟩ := List.mem_map.mp hx
  exact (h.2 y hy).1
noncomputable def b2 (j : Nat) (x : Nat × Nat) : Nat := (j / 2 ^ x.1 + x.2) % 2
theorem sgn_table : ∀ v a b : _root_.Fin 2, (1 + 7 * (((a : Nat) + (v : Nat) % 2) % 2) = 0 ∨ 1 + 7 * (((a : Nat) + (v : Nat) % 2) % 2) = 1 ∧ (b : Nat) = 0 ∨ 1 + 7 * (((a : Nat) + (v : Nat) % 2) % 2) = 8 ∧ (b : Nat) = 1) ↔ ((b : Nat) + (a : Nat)) % 2 = (v : Nat) := by decide
theorem sgn_lit {n v j l : Nat} (hv : v < 2) : litOK (sgnOf n v) (j / 2 ^ l % 2) ↔ b2 j (l, n) = v := by
  unfold sgnOf b2
  dsimp only
  generalize j / 2 ^ l = q
  rw [Nat.add_mod q n, Nat.add_mod n v]
  have ha : n % 2 < 2 := Nat.mod_lt _ (by decide)
  have hb : q % 2 < 2 := Nat.mod_lt _ (by decide)
  generalize n % 2 = a at ha
  generalize q % 2 = b at hb
  unfold litOK
  exact sgn_table ⟨v, hv⟩ ⟨a, ha⟩ ⟨b, hb⟩
theorem sgn_ok (n v : Nat) : okv (sgnOf n v) ∧ sgnOf n v ≠ 0 := by
  unfold sgnOf
  have h1 : (n + v) % 2 = 0 ∨ (n + v) % 2 = 1 := by lia
  rcases h1 with h | h <;> rw [h] <;> decide
theorem set_get (cl : List Nat) {l : Nat} (hl : l < cl.length) (s k : Nat) : (cl.set l s).getD k 0 = if k = l then s else cl.getD k 0 := by
  rw [List.getD_eq_getElem?_getD, List.getElem?_set, List.getD_eq_getElem?_getD]
  by_cases h : l = k
  · subst h; simp [hl]
  · have : ¬ k = l := fun e => h e.symm
    simp [h, this]
noncomputable def falsL (cl : List Nat) (j : Nat) : Prop := falsC (fun k => cl.getD k 0) j
theorem fals_set {cl : List Nat} (h4 : cl.length = 4) {l n v j : Nat} (hl : l < 4) (h0 : cl.getD l 0 = 0) (hv : v < 2) : falsL (cl.set l (sgnOf n v)) j ↔ falsL cl j ∧ b2 j (l, n) = v := by
  unfold falsL falsC
  constructor
  · intro h
    refine ⟨fun k hk => ?_, ?_⟩
    · by_cases hkl : k = l
      · subst hkl; exact .inl h0
      · have := h k hk; dsimp only at this; rw [set_get cl (by lia), if_neg hkl] at this; exact this
    · have := h l hl; dsimp only at this; rw [set_get cl (by lia), if_pos rfl] at this; exact (sgn_lit hv).mp this
  · rintro ⟨h, hb⟩ k hk
    dsimp only
    rw [set_get cl (by lia)]
    by_cases hkl : k = l
    · subst hkl; rw [if_pos rfl]; exact (sgn_lit hv).mpr hb
    · rw [if_neg hkl]; exact h k hk
noncomputable def foldC (other : Nat) (part : Row2) (cl : List Nat) : List Nat := part.foldl (fun cl x => cl.set x.1 (sgnOf x.2 other)) cl
theorem foldC_facts {other : Nat} (ho : other < 2) : ∀ (part : Row2) (cl : List Nat), cl.length = 4 → (∀ x ∈ part, x.1 < 4 ∧ cl.getD x.1 0 = 0) → (part.map (·.1)).Nodup → (∀ k, okv (cl.getD k 0)) →
    (foldC other part cl).length = 4 ∧ (∀ k, okv ((foldC other part cl).getD k 0)) ∧ (∀ k, cl.getD k 0 ≠ 0 → (foldC other part cl).getD k 0 ≠ 0) ∧ (∀ x ∈ part, (foldC other part cl).getD x.1 0 ≠ 0) ∧ ∀ j, falsL (foldC other part cl) j ↔ falsL cl j ∧ ∀ x ∈ part, b2 j x = other := by
  intro part
  induction part with
  | nil => intro cl h4 _ _ hok; exact ⟨h4, hok, fun _ h => h, by simp, fun j => by simp [foldC]⟩
  | cons x part ih =>
    intro cl h4 h0 hn hok
    obtain ⟨l, n⟩ := x
    have hl := h0 (l, n) (by simp)
    rw [List.map_cons, List.nodup_cons] at hn
    obtain ⟨i1, i2, i3, i4, i5⟩ := ih (cl.set l (sgnOf n other)) (by simp [h4]) (fun y hy => by
      have hyl : y.1 ≠ l := fun e => hn.1 (List.mem_map.mpr ⟨y, hy, e⟩)
      rw [set_get cl (by lia), if_neg hyl]
      exact h0 y (by simp [hy])) hn.2 (fun k => by
      rw [set_get cl (by lia)]
      split
      · exact (sgn_ok n other).1
      · exact hok k)
    have e : foldC other ((l, n) :: part) cl = foldC other part (cl.set l (sgnOf n other)) := rfl
    rw [e]
    have hnz : (cl.set l (sgnOf n other)).getD l 0 ≠ 0 := by rw [set_get cl (by lia), if_pos rfl]; exact (sgn_ok n other).2
    refine ⟨i1, i2, fun k hk => ?_, fun y hy => ?_, fun j => ?_⟩
    · refine i3 k ?_
      rw [set_get cl (by lia)]
      split
      · exact (sgn_ok n other).2
      · exact hk
    · rcases List.mem_cons.mp hy with rfl | hy
      · exact i3 l hnz
      · exact i4 y hy
    · rw [i5 j, fals_set h4 hl.1 hl.2 ho]
      constructor
      · rintro ⟨⟨a, b⟩, c⟩
        refine ⟨a, fun y hy => ?_⟩
        rcases List.mem_cons.mp hy with rfl | hy
        · exact b
        · exact c y hy
      · rintro ⟨a, b⟩
        exact ⟨⟨a, b _ (by simp)⟩, fun y hy => b y (by simp [hy])⟩
theorem mkE_at (text place head value other part) : ∀ k, k < 4 → (mkE text place head value other part).at k = (clauseOf head value other part).getD k 0 := all4 rfl rfl rfl rfl
theorem sg_lenE (e : Entry) (k : Nat) (l : List Nat) : ((k :: l).filter fun k => decide (0 < e.at k)).length = sg (e.at k) + (l.filter fun k => decide (0 < e.at k)).length := by
  rw [List.filter_cons]
  unfold sg
  by_cases h : 0 < e.at k
  · rw [if_pos (decide_eq_true h), if_pos h]; exact Nat.add_comm _ _
  · rw [if_neg (fun q => h (of_decide_eq_true q)), if_neg h]; exact (Nat.zero_add _).symm
theorem letters_le {e : Entry} {L : List Nat} (hn : L.Nodup) (h : ∀ l ∈ L, l < 4 ∧ e.at l ≠ 0) : L.length ≤ e.size := by
  have h1 : L.length ≤ ((List.range 4).filter fun k => decide (0 < e.at k)).length := hn.length_le_of_subset fun l hl => by
    obtain ⟨a, b⟩ := h l hl
    rw [List.mem_filter, List.mem_range, decide_eq_true_eq]
    exact ⟨a, by lia⟩
  refine Nat.le_trans h1 ?_
  rw [size_eq]
  show ((([0, 1, 2, 3] : List Nat).filter fun k => decide (0 < e.at k))).length ≤ _
  rw [sg_lenE, sg_lenE, sg_lenE, sg_lenE, Nat.add_assoc, Nat.add_assoc]
  exact Nat.le_refl _
/-- a head and a part of one row -/
structure HP (head : Nat × Nat) (part : Row2) : Prop where
  h4 : head.1 < 4
  lt : ∀ x ∈ part, x.1 < 4
  nd : ((head :: part).map (·.1)).Nodup
  len : part.length = 1 ∨ part.length = 2
theorem mkE_facts {head : Nat × Nat} {part : Row2} (H : HP head part) {value other : Nat} (hv : value < 2) (ho : other < 2) (text : Str) (place : Nat) :
    (mkE text place head value other part).ok ∧ 1 + part.length ≤ (mkE text place head value other part).size ∧ ∀ j, falsC (mkE text place head value other part).at j ↔ b2 j head = value ∧ ∀ x ∈ part, b2 j x = other := by
  have hn := H.nd
  rw [List.map_cons, List.nodup_cons] at hn
  have z : ∀ k, ([0, 0, 0, 0] : List Nat).getD k 0 = 0 := fun k => by
    match k with
    | 0 => rfl
    | 1 => rfl
    | 2 => rfl
    | 3 => rfl
    | k+4 => simp
  have hh : head.1 < ([0, 0, 0, 0] : List Nat).length := H.h4
  obtain ⟨i1, i2, i3, i4, i5⟩ := foldC_facts ho part (([0, 0, 0, 0] : List Nat).set head.1 (sgnOf head.2 value)) (by simp) (fun x hx => by
    refine ⟨H.lt x hx, ?_⟩
    rw [set_get _ hh, if_neg (fun e => hn.1 (List.mem_map.mpr ⟨x, hx, e⟩)), z]) hn.2 (fun k => by
    rw [set_get _ hh]
    split
    · exact (sgn_ok _ _).1
    · rw [z]; exact .inl rfl)
  have e : foldC other part (([0, 0, 0, 0] : List Nat).set head.1 (sgnOf head.2 value)) = clauseOf head value other part := rfl
  rw [e] at i1 i2 i3 i4 i5
  refine ⟨fun k hk => by rw [mkE_at _ _ _ _ _ _ k hk]; exact i2 k, ?_, fun j => ?_⟩
  · have := letters_le (e := mkE text place head value other part) (L := (head :: part).map (·.1)) H.nd fun l hl => by
      rw [List.map_cons, List.mem_cons] at hl
      rcases hl with rfl | hl
      · refine ⟨H.h4, ?_⟩
        rw [mkE_at _ _ _ _ _ _ _ H.h4]
        refine i3 _ ?_
        rw [set_get _ hh, if_pos rfl]; exact (sgn_ok _ _).2
      · obtain ⟨x, hx, rfl⟩ := List.mem_map.mp hl
        refine ⟨H.lt x hx, ?_⟩
        rw [mkE_at _ _ _ _ _ _ _ (H.lt x hx)]
        exact i4 x hx
    rw [List.length_map, List.length_cons] at this
    lia
  · have h1 : falsC (mkE text place head value other part).at j ↔ falsL (clauseOf head value other part) j := by
      unfold falsL falsC
      refine forall_congr' fun k => forall_congr' fun hk => ?_
      rw [mkE_at _ _ _ _ _ _ k hk]
    rw [h1, i5 j]
    have h2 := fals_set (cl := [0, 0, 0, 0]) rfl (n := head.2) (j := j) H.h4 (z _) hv
    rw [h2]
    have h3 : falsL [0, 0, 0, 0] j := fun k _ => .inl (z k)
    constructor
    · rintro ⟨⟨_, a⟩, b⟩; exact ⟨a, b⟩
    · rintro ⟨a, b⟩; exact ⟨⟨h3, a⟩, b⟩
theorem mkE_EG {ns : List Nat} {head : Nat × Nat} {part : Row2} (H : HP head part) {value other : Nat} (hv : value < 2) (ho : other < 2) {k : Nat} (hk : k < 3) (hs : ∀ j, j < 16 → b2 j head = value → (∀ x ∈ part, b2 j x = other) → badN ns k j) : EG ns (mkE ((texts3 ns).getD k "") k head value other part) := by
  obtain ⟨f1, f2, f3⟩ := mkE_facts H hv ho ((texts3 ns).getD k "") k
  have hp : 0 < 8 / 2 ^ part.length := by rcases H.len with h | h <;> rw [h] <;> decide
  have ht : (mkE ((texts3 ns).getD k "") k head value other part).tally = ([0, 0, 0] : List Nat).set k (8 / 2 ^ part.length) := rfl
  have hc : (mkE ((texts3 ns).getD k "") k head value other part).callers = [(keyN ns k, 8 / 2 ^ part.length)] := rfl
  generalize mkE ((texts3 ns).getD k "") k head value other part = e at *
  have hz : ∀ i, e.tally.getD i 0 = if i = k then 8 / 2 ^ part.length else 0 := fun i => by
    rw [ht, set_get _ hk, tally_get]
    split
    · rfl
    · (repeat' split) <;> rfl
  refine ⟨f1, by rw [ht]; simp, ⟨[k], by simp, fun i => ?_, ?_⟩, ?_, ?_⟩
  · rw [hz, List.mem_singleton]
    constructor
    · rintro rfl; rw [if_pos rfl]; exact ⟨hk, hp⟩
    · rintro ⟨_, h⟩
      refine Classical.byContradiction fun hne => ?_
      rw [if_neg hne] at h
      lia
  · rw [hc]
    unfold rowC
    rw [List.map_singleton]
    dsimp only
    rw [hz, if_pos rfl]
  · have e1 : e.tally.sum = 8 / 2 ^ part.length := by
      rw [ht]
      rcases lt3 hk with rfl | rfl | rfl <;> simp
    have e2 : 16 / 2 ^ e.size ≤ 16 / 2 ^ (1 + part.length) := Nat.div_le_div_left (Nat.pow_le_pow_right (by decide) f2) (Nat.pow_pos (by decide))
    have e3 : 16 / 2 ^ (1 + part.length) = 8 / 2 ^ part.length := by rcases H.len with h | h <;> rw [h] <;> decide
    lia
  · intro j hj hf
    obtain ⟨a, b⟩ := (f3 j).mp hf
    exact ⟨k, hk, by rw [hz, if_pos rfl]; exact hp, hs j hj a b⟩
end Mine
end
-- L9
section
open PySem PySem.W PyProof.Rows
set_option Elab.async false
set_option linter.all false
set_option maxRecDepth 100000
namespace Mine
-- tables of all statements
noncomputable def rowQ (q : Nat) : Row2 := (rowOf q).zipIdx.map fun (l, k) => (l, q / (36 * 2 ^ k) % 2)
noncomputable def clsQ (i : Nat) (row : Row2) : List (List Nat) := (brokenOf (Pc.opTok.getD i 0)).flatMap fun vo => (partsOf2 vo.2 (row.drop 1)).map (clauseOf (row.getD 0 (0, 0)) vo.1 vo.2)
noncomputable def heavyQ (x s : Nat) : List Nat := (List.range 6).flatMap fun r => (List.range 4).map fun g => x + 4 * (r % 3) + 12 * (r / 3) + 36 * s + 72 * g
noncomputable def eqv : Bool → Bool → Bool
  | true, b => b
  | false, true => false
  | false, false => true
theorem eqv_iff {a b : Bool} : eqv a b = true ↔ (a = true ↔ b = true) := by cases a <;> cases b <;> decide
noncomputable def meetsU (x : Nat) : List Nat → List Nat → Bool
  | [a, b, c, d], [a', b', c', d'] => eqv (Nat.beq (a + a') 9) (Nat.beq x 0) && (eqv (Nat.beq (b + b') 9) (Nat.beq x 1) && (eqv (Nat.beq (c + c') 9) (Nat.beq x 2) && eqv (Nat.beq (d + d') 9) (Nat.beq x 3)))
  | _, _ => true
noncomputable def isX (x s : Nat) : List Nat → Bool
  | [a, b, c, d] => Nat.beq s (match x with | 0 => a | 1 => b | 2 => c | _ => d)
  | _ => true
noncomputable def mcU (x : Nat) (A B : List (List Nat)) : Nat := (A.map fun o => if isX x 1 o then B.countP fun t => isX x 8 t && meetsU x o t else 0).sum
noncomputable def cntQ (cl : List (List Nat)) (x s : Nat) : Nat := cl.countP (isX x s)
noncomputable def chkX (i q : Nat) (cl : List (List Nat)) (x p n : Nat) : Bool := Nat.ble p 3 && (Nat.ble n 3 && (Nat.ble (p + n) 4 || (Nat.beq i 2 && (decide (mcU x cl cl ≤ 4) && ((Nat.beq p 3 && (Nat.beq n 2 && decide (q ∈ heavyQ x 0))) || (Nat.beq p 2 && (Nat.beq n 3 && decide (q ∈ heavyQ x 1))))))))
noncomputable def chkQ (i q : Nat) (cl : List (List Nat)) : Bool := Nat.ble cl.length 5 && (List.range 4).all fun x => chkX i q cl x (cntQ cl x 1) (cntQ cl x 8)
noncomputable def chkAll (i : Nat) : Bool := (List.range 288).all fun q => chkQ i q (clsQ i (rowQ q))
theorem chk0 : chkAll 0 = true := by decide +kernel
theorem chk1 : chkAll 1 = true := by decide +kernel
theorem chk2 : chkAll 2 = true := by decide +kernel
theorem chk3 : chkAll 3 = true := by decide +kernel
theorem chk4 : chkAll 4 = true := by decide +kernel
theorem chk5 : chkAll 5 = true := by decide +kernel
theorem chk6 : chkAll 6 = true := by decide +kernel
theorem chk7 : chkAll 7 = true := by decide +kernel
noncomputable def crossAll (x : Nat) : Bool := (heavyQ x 0).all fun q => (heavyQ x 1).all fun q' => (clsQ 2 (rowQ q)).any fun o => isX x 1 o && (clsQ 2 (rowQ q')).any fun t => isX x 8 t && !meetsU x o t
theorem cross0 : crossAll 0 = true := by decide +kernel
theorem cross1 : crossAll 1 = true := by decide +kernel
theorem cross2 : crossAll 2 = true := by decide +kernel
theorem cross3 : crossAll 3 = true := by decide +kernel
theorem chk_all {i : Nat} (h : i < 8) : chkAll i = true := by
  rcases lt8 h with rfl | rfl | rfl | rfl | rfl | rfl | rfl | rfl
  · exact chk0
  · exact chk1
  · exact chk2
  · exact chk3
  · exact chk4
  · exact chk5
  · exact chk6
  · exact chk7
theorem cross_all {x : Nat} (h : x < 4) : crossAll x = true := by
  rcases lt4 h with rfl | rfl | rfl | rfl
  · exact cross0
  · exact cross1
  · exact cross2
  · exact cross3
-- sums over pairs
theorem countP_sub {β : Type} (g m : β → Bool) (B : List β) : B.countP (fun t => g t && m t) ≤ B.countP g := List.countP_mono_left fun t _ h => by rw [Bool.and_eq_true] at h; exact h.1
theorem countP_lt {β : Type} (g m : β → Bool) (B : List β) (h : ∃ t ∈ B, g t = true ∧ m t = false) : B.countP (fun t => g t && m t) + 1 ≤ B.countP g := by
  induction B with
  | nil => obtain ⟨t, ht, _⟩ := h; cases ht
  | cons b B ih =>
    rw [List.countP_cons, List.countP_cons]
    obtain ⟨t, ht, h1, h2⟩ := h
    rcases List.mem_cons.mp ht with rfl | ht
    · have := countP_sub g m B
      rw [h1, h2]; simp; lia
    · have := ih ⟨t, ht, h1, h2⟩
      by_cases hb : g b = true <;> by_cases hm : m b = true <;> simp [hb, hm] <;> lia
theorem mcU_le (x : Nat) (A B : List (List Nat)) : mcU x A B ≤ cntQ A x 1 * cntQ B x 8 := by
  unfold mcU cntQ
  rw [← sum_count]
  refine sum_le _ _ _ fun o _ => ?_
  split
  · exact countP_sub _ _ _
  · exact Nat.le_refl _
theorem mcU_lt (x : Nat) (A B : List (List Nat)) (h : ∃ o ∈ A, isX x 1 o = true ∧ ∃ t ∈ B, isX x 8 t = true ∧ meetsU x o t = false) : mcU x A B + 1 ≤ cntQ A x 1 * cntQ B x 8 := by
  unfold mcU cntQ
  rw [← sum_count]
  obtain ⟨o, ho, h1, h2⟩ := h
  have g : ∀ o, (if isX x 1 o then B.countP fun t => isX x 8 t && meetsU x o t else 0) ≤ (if isX x 1 o then B.countP (isX x 8) else 0) := fun o => by
    split
    · exact countP_sub _ _ _
    · exact Nat.le_refl _
  induction A with
  | nil => cases ho
  | cons a A ih =>
    rw [List.map_cons, List.sum_cons, List.map_cons, List.sum_cons]
    rcases List.mem_cons.mp ho with rfl | ho
    · have a1 := countP_lt (isX x 8) (meetsU x o) B h2
      have a2 := sum_le _ _ A fun o _ => g o
      rw [if_pos h1, if_pos h1]
      lia
    · have := ih ho
      have := g a
      lia
theorem bound4 : ((List.range 4).all fun p => (List.range 4).all fun n => (List.range 4).all fun p' => (List.range 4).all fun n' => !(decide (p + n ≤ 4) && decide (p' + n' ≤ 5)) || (decide (p * n' + p' * n ≤ 12) && decide (p * n ≤ 4))) = true := by decide +kernel
theorem bound_four {p n p' n' : Nat} (h1 : p ≤ 3) (h2 : n ≤ 3) (h3 : p' ≤ 3) (h4 : n' ≤ 3) (h5 : p + n ≤ 4) (h6 : p' + n' ≤ 5) : p * n' + p' * n ≤ 12 ∧ p * n ≤ 4 := by
  have h := List.all_eq_true.mp (List.all_eq_true.mp (List.all_eq_true.mp (List.all_eq_true.mp bound4 p (List.mem_range.mpr (by lia))) n (List.mem_range.mpr (by lia))) p' (List.mem_range.mpr (by lia))) n' (List.mem_range.mpr (by lia))
  simpa [h5, h6] using h
/-- what the table tells of one statement -/
structure CQ (x : Nat) (A : List (List Nat)) : Prop where
  p3 : cntQ A x 1 ≤ 3
  n3 : cntQ A x 8 ≤ 3
  or : cntQ A x 1 + cntQ A x 8 ≤ 4 ∨ (mcU x A A ≤ 4 ∧ ((cntQ A x 1 = 3 ∧ cntQ A x 8 = 2 ∧ ∃ q ∈ heavyQ x 0, A = clsQ 2 (rowQ q)) ∨ (cntQ A x 1 = 2 ∧ cntQ A x 8 = 3 ∧ ∃ q ∈ heavyQ x 1, A = clsQ 2 (rowQ q))))
theorem CQ.five {x : Nat} {A : List (List Nat)} (h : CQ x A) : cntQ A x 1 + cntQ A x 8 ≤ 5 := by
  rcases h.or with h | ⟨_, ⟨a, b, _⟩ | ⟨a, b, _⟩⟩ <;> lia
theorem CQ.own {x : Nat} {A : List (List Nat)} (h : CQ x A) : mcU x A A ≤ 4 := by
  rcases h.or with g | ⟨g, _⟩
  · exact Nat.le_trans (mcU_le x A A) (bound_four h.p3 h.n3 h.p3 h.n3 g (by lia)).2
  · exact g
theorem cross_non {x q q' : Nat} (hx : x < 4) (h1 : q ∈ heavyQ x 0) (h2 : q' ∈ heavyQ x 1) : ∃ o ∈ clsQ 2 (rowQ q), isX x 1 o = true ∧ ∃ t ∈ clsQ 2 (rowQ q'), isX x 8 t = true ∧ meetsU x o t = false := by
  have h := List.all_eq_true.mp (List.all_eq_true.mp (cross_all hx) q h1) q' h2
  obtain ⟨o, ho, h⟩ := List.any_eq_true.mp h
  rw [Bool.and_eq_true] at h
  obtain ⟨t, ht, g⟩ := List.any_eq_true.mp h.2
  rw [Bool.and_eq_true, Bool.not_eq_true'] at g
  exact ⟨o, ho, h.1, t, ht, g.1, g.2⟩
theorem CQ.cross {x : Nat} (hx : x < 4) {A B : List (List Nat)} (ha : CQ x A) (hb : CQ x B) : mcU x A B + mcU x B A ≤ 12 := by
  have a1 := mcU_le x A B
  have a2 := mcU_le x B A
  rcases ha.or with g | ⟨_, ⟨p, n, q, hq, e⟩ | ⟨p, n, q, hq, e⟩⟩
  · have := (bound_four ha.p3 ha.n3 hb.p3 hb.n3 g hb.five).1
    omega
  · rcases hb.or with g' | ⟨_, ⟨p', n', q', hq', e'⟩ | ⟨p', n', q', hq', e'⟩⟩
    · have := (bound_four hb.p3 hb.n3 ha.p3 ha.n3 g' ha.five).1
      omega
    · rw [p, n'] at a1; rw [p', n] at a2; omega
    · have := mcU_lt x A B (by rw [e, e']; exact cross_non hx hq hq')
      rw [p, n'] at this; rw [p', n] at a2; omega
  · rcases hb.or with g' | ⟨_, ⟨p', n', q', hq', e'⟩ | ⟨p', n', q', hq', e'⟩⟩
    · have := (bound_four hb.p3 hb.n3 ha.p3 ha.n3 g' ha.five).1
      omega
    · have := mcU_lt x B A (by rw [e, e']; exact cross_non hx hq' hq)
      rw [p', n] at this; rw [p, n'] at a1; omega
    · rw [p, n'] at a1; rw [p', n] at a2; omega
theorem cls_CQ {i q : Nat} (hi : i < 8) (hq : q < 288) : (clsQ i (rowQ q)).length ≤ 5 ∧ ∀ x, x < 4 → CQ x (clsQ i (rowQ q)) := by
  have h := List.all_eq_true.mp (chk_all hi) q (List.mem_range.mpr hq)
  unfold chkQ at h
  rw [Bool.and_eq_true] at h
  refine ⟨Nat.le_of_ble_eq_true h.1, fun x hx => ?_⟩
  have h := List.all_eq_true.mp h.2 x (List.mem_range.mpr hx)
  unfold chkX at h
  rw [Bool.and_eq_true, Bool.and_eq_true, Bool.or_eq_true] at h
  refine ⟨Nat.le_of_ble_eq_true h.1, Nat.le_of_ble_eq_true h.2.1, ?_⟩
  rcases h.2.2 with g | g
  · exact .inl (Nat.le_of_ble_eq_true g)
  · right
    rw [Bool.and_eq_true, Bool.and_eq_true, Bool.or_eq_true] at g
    have e2 := Nat.eq_of_beq_eq_true g.1
    subst e2
    refine ⟨of_decide_eq_true g.2.1, ?_⟩
    rcases g.2.2 with k | k <;> rw [Bool.and_eq_true, Bool.and_eq_true] at k
    · exact .inl ⟨Nat.eq_of_beq_eq_true k.1, Nat.eq_of_beq_eq_true k.2.1, q, of_decide_eq_true k.2.2, rfl⟩
    · exact .inr ⟨Nat.eq_of_beq_eq_true k.1, Nat.eq_of_beq_eq_true k.2.1, q, of_decide_eq_true k.2.2, rfl⟩
end Mine
end
-- L10
section
open PySem PySem.W PyProof.Rows
set_option Elab.async false
set_option linter.all false
set_option maxRecDepth 100000
namespace Mine
theorem mod_q (n d k e : Nat) : n % (d * (e * k)) / d % e = n / d % e := by rw [Nat.mod_mul_right_div_self, Nat.mod_mul_right_mod]
theorem row2_Q (N : Nat) : row2 N = rowQ (N / 8 % 288) := by
  unfold row2 rowN signsOf rowQ
  generalize N / 8 = part
  have h0 : part % 288 % 4 = part % 4 := Nat.mod_mul_right_mod part 4 72
  have h1 : part % 288 / 4 % 3 = part / 4 % 3 := mod_q part 4 24 3
  have h2 : part % 288 / 12 % 3 = part / 12 % 3 := mod_q part 12 8 3
  have e : rowOf (part % 288) = rowOf part := by unfold rowOf; rw [h0, h1, h2]
  rw [e, List.map_map]
  refine List.map_congr_left fun p hp => ?_
  obtain ⟨l, k⟩ := p
  have hk : k < 3 := by
    have := (List.mem_zipIdx hp).2.1
    rcases rowOf_len part with h | h <;> lia
  simp only [Function.comp]
  congr 1
  rcases lt3 hk with rfl | rfl | rfl
  · show part / 36 % 2 = part % 288 / 36 % 2; exact (mod_q part 36 4 2).symm
  · show part / 72 % 2 = part % 288 / 72 % 2; exact (mod_q part 72 2 2).symm
  · show part / 144 % 2 = part % 288 / 144 % 2; exact (mod_q part 144 1 2).symm
theorem foldC_len (other : Nat) : ∀ (part : Row2) (cl : List Nat), (foldC other part cl).length = cl.length
  | [], _ => rfl
  | x :: part, cl => by
    show (foldC other part (cl.set x.1 (sgnOf x.2 other))).length = _
    rw [foldC_len other part]; simp
theorem clauseOf_len (head : Nat × Nat) (value other : Nat) (part : Row2) : (clauseOf head value other part).length = 4 := by
  show (foldC other part (([0, 0, 0, 0] : List Nat).set head.1 (sgnOf head.2 value))).length = 4
  rw [foldC_len]; simp
theorem nums_mkE (text place head value other part) : (mkE text place head value other part).nums = clauseOf head value other part := by
  have h := clauseOf_len head value other part
  show ([(clauseOf head value other part).getD 0 0, (clauseOf head value other part).getD 1 0, (clauseOf head value other part).getD 2 0, (clauseOf head value other part).getD 3 0] : List Nat) = clauseOf head value other part
  generalize clauseOf head value other part = l at h
  obtain ⟨a, l, rfl⟩ := List.exists_cons_of_length_eq_add_one h
  obtain ⟨b, c, d, rfl⟩ := threeOf (Nat.succ.inj h)
  rfl
noncomputable def stmtE (ns : List Nat) (k : Nat) : List Entry := flush ((texts3 ns).getD k "") k (Pc.opTok.getD (ns.getD k 0 % 8) 0) (row2 (ns.getD k 0))
theorem stmt_nums (ns : List Nat) (k : Nat) : (stmtE ns k).map Entry.nums = clsQ (ns.getD k 0 % 8) (rowQ (ns.getD k 0 / 8 % 288)) := by
  unfold stmtE flush clsQ
  rw [← row2_Q, List.map_flatMap]
  refine flatMap_same fun vo _ => ?_
  unfold rowsOf
  rw [List.map_map]
  exact List.map_congr_left fun part _ => nums_mkE _ _ _ _ _ _
theorem isX_at (e : Entry) {x s : Nat} (hx : x < 4) : isX x s e.nums = Nat.beq s (e.at x) := by
  rcases lt4 hx with rfl | rfl | rfl | rfl <;> rfl
theorem meetsU_of {o t : Entry} {x : Nat} (hx : x < 4) (hm : meets o t x = true) : meetsU x o.nums t.nums = true := by
  obtain ⟨_, hk⟩ := meets_at hm
  have h : ∀ k, k < 4 → eqv (Nat.beq (o.at k + t.at k) 9) (Nat.beq x k) = true := fun k hk4 => by
    rw [eqv_iff, Nat.beq_eq, Nat.beq_eq]
    have := hk k hk4
    constructor
    · intro h; exact (this.mp (by lia)).symm
    · intro h; have := this.mpr h.symm; lia
  show (eqv (Nat.beq (o.at 0 + t.at 0) 9) (Nat.beq x 0) && (eqv (Nat.beq (o.at 1 + t.at 1) 9) (Nat.beq x 1) && (eqv (Nat.beq (o.at 2 + t.at 2) 9) (Nat.beq x 2) && eqv (Nat.beq (o.at 3 + t.at 3) 9) (Nat.beq x 3)))) = true
  rw [h 0 (by decide), h 1 (by decide), h 2 (by decide), h 3 (by decide)]; rfl
theorem mcc_le {A B : List Entry} (hA : ∀ e ∈ A, e.ok) (hB : ∀ e ∈ B, e.ok) {x : Nat} (hx : x < 4) : mcc x A B ≤ mcU x (A.map Entry.nums) (B.map Entry.nums) := by
  unfold mcc mcU
  rw [List.map_map]
  refine sum_le _ _ _ fun o ho => ?_
  simp only [Function.comp]
  rw [List.countP_map]
  have key : ∀ t ∈ B, (decide (0 < o.at x) && meets o t x) = true → isX x 1 o.nums = true ∧ (isX x 8 t.nums && meetsU x o.nums t.nums) = true := by
    intro t ht h
    rw [Bool.and_eq_true, decide_eq_true_eq] at h
    obtain ⟨hlt, hk⟩ := meets_at h.2
    have h9 := (hk x hx).mpr rfl
    have ox := hA o ho x hx
    have tx := hB t ht x hx
    have : o.at x = 1 ∧ t.at x = 8 := by rcases ox with a | a | a <;> rcases tx with b | b | b <;> lia
    rw [isX_at o hx, isX_at t hx, this.1, this.2, meetsU_of hx h.2]
    exact ⟨rfl, rfl⟩
  by_cases h1 : isX x 1 o.nums = true
  · rw [if_pos h1]
    exact List.countP_mono_left fun t ht h => (key t ht h).2
  · rw [if_neg h1]
    have : B.countP (fun t => decide (0 < o.at x) && meets o t x) = 0 := List.countP_eq_zero.mpr fun t ht h => h1 (key t ht h).1
    lia
theorem mcc_left (x : Nat) (A A' B : List Entry) : mcc x (A ++ A') B = mcc x A B + mcc x A' B := by
  unfold mcc; rw [List.map_append, List.sum_append]
theorem mcc_right (x : Nat) (A B B' : List Entry) : mcc x A (B ++ B') = mcc x A B + mcc x A B' := by
  unfold mcc
  induction A with
  | nil => rfl
  | cons o A ih => simp only [List.map_cons, List.sum_cons, List.countP_append] at ih ⊢; lia
theorem sum_sublist {α : Type} (f : α → Nat) {l l' : List α} (h : l.Sublist l') : (l.map f).sum ≤ (l'.map f).sum := by
  induction h with
  | slnil => exact Nat.le_refl _
  | cons a _ ih => simp only [List.map_cons, List.sum_cons]; lia
  | cons_cons a _ ih => simp only [List.map_cons, List.sum_cons]; lia
theorem mcc_mono {x : Nat} {K es : List Entry} (h : K.Sublist es) : mcc x K K ≤ mcc x es es := by
  unfold mcc
  refine Nat.le_trans (sum_le _ (fun o => es.countP fun t => decide (0 < o.at x) && meets o t x) K fun o _ => h.countP_le) ?_
  exact sum_sublist _ h
theorem mcc_perm {x : Nat} {K es : List Entry} (h : K.Perm es) : mcc x K K = mcc x es es := by
  unfold mcc
  have e : (fun o => K.countP fun t => decide (0 < o.at x) && meets o t x) = fun o => es.countP fun t => decide (0 < o.at x) && meets o t x := funext fun o => h.countP_eq _
  rw [e]
  exact (h.map _).sum_nat
noncomputable def allE (ns : List Nat) : List Entry := stmtE ns 0 ++ stmtE ns 1 ++ stmtE ns 2
theorem stmt_CQ (ns : List Nat) (k : Nat) : (stmtE ns k).length ≤ 5 ∧ ∀ x, x < 4 → CQ x ((stmtE ns k).map Entry.nums) := by
  have h := cls_CQ (i := ns.getD k 0 % 8) (q := ns.getD k 0 / 8 % 288) (Nat.mod_lt _ (by decide)) (Nat.mod_lt _ (by decide))
  rw [← stmt_nums] at h
  rw [List.length_map] at h
  exact h
theorem all_pairs {ns : List Nat} (hok : ∀ k, ∀ e ∈ stmtE ns k, e.ok) {x : Nat} (hx : x < 4) : mcc x (allE ns) (allE ns) ≤ 48 := by
  have own : ∀ k, mcc x (stmtE ns k) (stmtE ns k) ≤ 4 := fun k => Nat.le_trans (mcc_le (hok k) (hok k) hx) ((stmt_CQ ns k).2 x hx).own
  have cr : ∀ k l, mcc x (stmtE ns k) (stmtE ns l) + mcc x (stmtE ns l) (stmtE ns k) ≤ 12 := fun k l => by
    have a := mcc_le (hok k) (hok l) hx
    have b := mcc_le (hok l) (hok k) hx
    have c := CQ.cross hx ((stmt_CQ ns k).2 x hx) ((stmt_CQ ns l).2 x hx)
    lia
  unfold allE
  simp only [mcc_left, mcc_right]
  have := own 0
  have := own 1
  have := own 2
  have := cr 0 1
  have := cr 0 2
  have := cr 1 2
  lia
theorem all_len (ns : List Nat) : (allE ns).length ≤ 15 := by
  unfold allE
  rw [List.length_append, List.length_append]
  have := (stmt_CQ ns 0).1
  have := (stmt_CQ ns 1).1
  have := (stmt_CQ ns 2).1
  lia
theorem first_few {ns : List Nat} (hok : ∀ k, ∀ e ∈ stmtE ns k, e.ok) {es : List Entry} (hp : es.Perm (allE ns)) {x : Nat} (hx : x < 4) : (keptOf es ++ madeOf (keptOf es) x).length < 64 := by
  rw [List.length_append]
  have a := (kept_sublist es).length_le
  have b := all_len ns
  rw [← hp.length_eq] at b
  have c := made_len (keptOf es) x
  have d := mcc_mono (x := x) (kept_sublist es)
  rw [mcc_perm hp] at d
  have := all_pairs hok hx
  lia

-- the cases
theorem cases_bits (i : Nat) (row : List (Nat × Nat × Nat)) : ∀ n, ((List.range n).foldl (fun t k => if holdsAt i row k then t + 2 ^ k else t) 0) < 2 ^ n ∧ ∀ j, ((List.range n).foldl (fun t k => if holdsAt i row k then t + 2 ^ k else t) 0).testBit j = (decide (j < n) && holdsAt i row j) := by
  intro n
  induction n with
  | zero => exact ⟨by simp, fun j => by simp⟩
  | succ n ih =>
    rw [List.range_succ, List.foldl_append, List.foldl_cons, List.foldl_nil]
    generalize (List.range n).foldl (fun t k => if holdsAt i row k then t + 2 ^ k else t) 0 = t at ih
    obtain ⟨h1, h2⟩ := ih
    by_cases hh : holdsAt i row n = true
    · rw [if_pos hh]
      refine ⟨by rw [Nat.pow_succ]; lia, fun j => ?_⟩
      by_cases hjn : j = n
      · subst hjn
        rw [Nat.add_comm, Nat.testBit_two_pow_add_eq, h2, hh]
        simp
      · by_cases hlt : j < n
        · rw [Nat.add_comm, Nat.testBit_two_pow_add_gt hlt, h2]
          simp [hlt, Nat.lt_succ_of_lt hlt]
        · have hgt : n < j := by lia
          have : (t + 2 ^ n).testBit j = false := Nat.testBit_lt_two_pow (Nat.lt_of_lt_of_le (show t + 2 ^ n < 2 ^ (n + 1) by rw [Nat.pow_succ]; lia) (Nat.pow_le_pow_right (by decide) hgt))
          rw [this]
          have : ¬ j < n + 1 := by lia
          simp [this]
    · rw [if_neg hh]
      refine ⟨by rw [Nat.pow_succ]; lia, fun j => ?_⟩
      rw [h2]
      by_cases hjn : j = n
      · subst hjn; simp [hh]
      · have : (j < n) ↔ (j < n + 1) := by lia
        simp [this]
theorem bad_iff (ns : List Nat) (k : Nat) {j : Nat} (hj : j < 16) : badN ns k j ↔ holdsAt (ns.getD k 0 % 8) (rowN (ns.getD k 0)) j = false := by
  unfold badN caseN casesOf
  rw [(cases_bits _ _ 16).2 j]
  simp [hj]
theorem broken_all : ((List.range 8).all fun i => ((brokenOf (Pc.opTok.getD i 0)).all fun p => decide (p.1 < 2) && decide (p.2 < 2)) && (List.range 2).all fun v => (List.range 2).all fun o => decide ((v, o) ∈ brokenOf (Pc.opTok.getD i 0)) == !opB i (v : Nat) (o : Nat)) = true := by decide +kernel
theorem broken_lt {i : Nat} (hi : i < 8) {p : Nat × Nat} (h : p ∈ brokenOf (Pc.opTok.getD i 0)) : p.1 < 2 ∧ p.2 < 2 := by
  have g := List.all_eq_true.mp broken_all i (List.mem_range.mpr hi)
  rw [Bool.and_eq_true] at g
  have := List.all_eq_true.mp g.1 p h
  simpa using this
theorem broken_iff {i : Nat} (hi : i < 8) {v o : Nat} (hv : v < 2) (ho : o < 2) : (v, o) ∈ brokenOf (Pc.opTok.getD i 0) ↔ opB i (v : Nat) (o : Nat) = false := by
  have g := List.all_eq_true.mp broken_all i (List.mem_range.mpr hi)
  rw [Bool.and_eq_true] at g
  have := eq_of_beq (List.all_eq_true.mp (List.all_eq_true.mp g.2 v (List.mem_range.mpr hv)) o (List.mem_range.mpr ho))
  rw [← decide_eq_true_iff (p := (v, o) ∈ brokenOf (Pc.opTok.getD i 0)), this]
  cases opB i (v : Nat) (o : Nat) <;> simp
theorem b2_lt (j : Nat) (x : Nat × Nat) : b2 j x < 2 := Nat.mod_lt _ (by decide)
noncomputable def mx (j : Nat) (rest : Row2) : Nat := (rest.map (b2 j)).foldl max 0
theorem mx_facts (j : Nat) {rest : Row2} (h : rest.length = 1 ∨ rest.length = 2) : mx j rest < 2 ∧ (mx j rest = 1 ↔ ∃ x ∈ rest, b2 j x = 1) ∧ (mx j rest = 0 ↔ ∀ x ∈ rest, b2 j x = 0) := by
  rcases h with h | h
  · obtain ⟨a, rfl⟩ := List.length_eq_one_iff.mp h
    have ha := b2_lt j a
    have e : mx j [a] = b2 j a := Nat.zero_max _
    rw [e]; simp; lia
  · obtain ⟨a, b, rfl⟩ := twoOf h
    have ha := b2_lt j a
    have hb := b2_lt j b
    have e : mx j [a, b] = max (b2 j a) (b2 j b) := by show max (max 0 _) _ = _; rw [Nat.zero_max]
    rw [e]; simp; lia
theorem holds_row {i N j : Nat} {x0 : Nat × Nat} {rest : Row2} (h : row2 N = x0 :: rest) : holdsAt i (rowN N) j = opB i (b2 j x0 : Nat) (mx j rest : Nat) := by
  unfold row2 at h
  cases hr : rowN N with
  | nil => rw [hr] at h; cases h
  | cons y ys =>
    rw [hr, List.map_cons] at h
    obtain ⟨rfl, rfl⟩ := List.cons.inj h
    unfold holdsAt mx
    rw [List.map_map]; rfl
structure RowHP (row : Row2) (x0 : Nat × Nat) (rest : Row2) : Prop where
  eq : row = x0 :: rest
  len : rest.length = 1 ∨ rest.length = 2
  hp : HP x0 rest
  one : ∀ x ∈ rest, HP x0 [x]
theorem row_HP (N : Nat) : ∃ x0 rest, RowHP (row2 N) x0 rest := by
  have H := row2_ok N
  generalize row2 N = row at H
  cases row with
  | nil => rcases H.len with h | h <;> cases h
  | cons x0 rest =>
    have hl : rest.length = 1 ∨ rest.length = 2 := by rcases H.len with h | h <;> rw [List.length_cons] at h <;> lia
    refine ⟨x0, rest, rfl, hl, ⟨H.lt _ (by simp), fun x hx => H.lt x (by simp [hx]), H.nd, hl⟩, fun x hx => ⟨H.lt _ (by simp), fun y hy => ?_, ?_, .inl rfl⟩⟩
    · rw [List.mem_singleton] at hy; subst hy; exact H.lt _ (by simp [hx])
    · have hn := H.nd
      rw [List.map_cons, List.nodup_cons] at hn
      rw [List.map_cons, List.nodup_cons]
      refine ⟨fun h => hn.1 ?_, by simp⟩
      rw [List.map_singleton, List.mem_singleton] at h
      exact List.mem_map.mpr ⟨x, hx, h.symm⟩
theorem stmt_EG {ns : List Nat} {k : Nat} (hk : k < 3) : ∀ e ∈ stmtE ns k, EG ns e := by
  intro e he
  obtain ⟨x0, rest, H⟩ := row_HP (ns.getD k 0)
  have hi : ns.getD k 0 % 8 < 8 := Nat.mod_lt _ (by decide)
  unfold stmtE flush at he
  obtain ⟨⟨v, o⟩, hvo, he⟩ := List.mem_flatMap.mp he
  have hlt := broken_lt hi hvo
  have hop := (broken_iff hi hlt.1 hlt.2).mp hvo
  unfold rowsOf at he
  obtain ⟨part, hp, rfl⟩ := List.mem_map.mp he
  rw [H.eq] at hp ⊢
  have hp : part ∈ partsOf2 o rest := hp
  show EG ns (mkE ((texts3 ns).getD k "") k x0 v o part)
  have mf := fun j => mx_facts j H.len
  by_cases ho : o = 1
  · subst ho
    have hp : part ∈ rest.map fun x => [x] := hp
    obtain ⟨x, hx, rfl⟩ := List.mem_map.mp hp
    refine mkE_EG (H.one x hx) hlt.1 hlt.2 hk fun j hj h1 h2 => ?_
    rw [bad_iff ns k hj, holds_row H.eq, h1, (mf j).2.1.mpr ⟨x, hx, h2 x (by simp)⟩]
    exact hop
  · have ho0 : o = 0 := by have := hlt.2; dsimp only at this; lia
    subst ho0
    have hp : part ∈ [rest] := hp
    rw [List.mem_singleton] at hp
    subst hp
    refine mkE_EG H.hp hlt.1 hlt.2 hk fun j hj h1 h2 => ?_
    rw [bad_iff ns k hj, holds_row H.eq, h1, (mf j).2.2.mpr h2]
    exact hop
theorem stmt_bad {ns : List Nat} {k j : Nat} (hj : j < 16) (h : badN ns k j) : ∃ e ∈ stmtE ns k, falsC e.at j := by
  obtain ⟨x0, rest, H⟩ := row_HP (ns.getD k 0)
  have hi : ns.getD k 0 % 8 < 8 := Nat.mod_lt _ (by decide)
  rw [bad_iff ns k hj, holds_row H.eq] at h
  obtain ⟨m1, m2, m3⟩ := mx_facts j H.len
  have hvo := (broken_iff hi (b2_lt j x0) m1).mpr h
  have go : ∀ part, part ∈ partsOf2 (mx j rest) rest → HP x0 part → (∀ x ∈ part, b2 j x = mx j rest) → ∃ e ∈ stmtE ns k, falsC e.at j := by
    intro part hp HPp hx
    refine ⟨mkE ((texts3 ns).getD k "") k x0 (b2 j x0) (mx j rest) part, ?_, ((mkE_facts HPp (b2_lt j x0) m1 _ _).2.2 j).mpr ⟨rfl, hx⟩⟩
    unfold stmtE flush
    refine List.mem_flatMap.mpr ⟨_, hvo, ?_⟩
    unfold rowsOf
    rw [H.eq]
    exact List.mem_map.mpr ⟨part, hp, rfl⟩
  by_cases ho : mx j rest = 1
  · obtain ⟨x, hx, hb⟩ := m2.mp ho
    refine go [x] ?_ (H.one x hx) fun y hy => ?_
    · rw [ho]; exact List.mem_map.mpr ⟨x, hx, rfl⟩
    · rw [List.mem_singleton] at hy; subst hy; rw [hb, ho]
  · have h0 : mx j rest = 0 := by lia
    refine go rest ?_ H.hp fun y hy => ?_
    · rw [h0]; exact List.mem_singleton.mpr rfl
    · rw [m3.mp h0 y hy, h0]
end Mine
end
-- L11
section
open PySem PySem.W PyProof.Rows
set_option Elab.async false
set_option linter.all false
set_option maxRecDepth 100000
namespace Mine
-- the text's pieces
noncomputable def sgP (x : Nat × Nat × Nat) : List Pc := (if x.2.1 = 0 then [] else [Pc.neg]) ++ [Pc.ltr x.2.2 x.1]
noncomputable def pcs (i : Nat) (row : List (Nat × Nat × Nat)) (R : List Pc) : List Pc := match row with
  | [y0, y1] => sgP y0 ++ (Pc.op i :: (sgP y1 ++ R))
  | [y0, y1, y2] => sgP y0 ++ (Pc.op i :: (sgP y1 ++ (Pc.op 0 :: (sgP y2 ++ R))))
  | _ => R
theorem flat_app (A B : List Pc) : flat (A ++ B) = flat A ++ flat B := List.flatMap_append ..
theorem flat_cons (p : Pc) (B : List Pc) : flat (p :: B) = p.cps ++ flat B := List.flatMap_cons ..
theorem flat_sgP (x : Nat × Nat × Nat) : flat (sgP x) = (signOf x).cps.toList := by
  unfold sgP signOf flat
  split <;> simp [Pc.cps]
theorem app_cps (a b : Str) : (a ++ b).cps.toList = a.cps.toList ++ b.cps.toList := by
  show (Str.append a b).cps.toList = _
  simp [Str.append]
theorem join2 (s a b : Str) : (Str.join s [a, b]).cps.toList = a.cps.toList ++ (s.cps.toList ++ b.cps.toList) := by
  show (Str.append (Str.append a s) b).cps.toList = _
  simp [Str.append]
theorem join3 (s a b c : Str) : (Str.join s [a, b, c]).cps.toList = a.cps.toList ++ (s.cps.toList ++ (b.cps.toList ++ (s.cps.toList ++ c.cps.toList))) := by
  show (Str.append (Str.append a s) (Str.append (Str.append b s) c)).cps.toList = _
  simp [Str.append]
theorem flat_pcs (i : Nat) {row : List (Nat × Nat × Nat)} (h : row.length = 2 ∨ row.length = 3) (R : List Pc) : flat (pcs i row R) = (textOf (deeds.getD i "") row).cps.toList ++ flat R := by
  rcases h with h | h
  · obtain ⟨y0, y1, rfl⟩ := twoOf h
    show flat (sgP y0 ++ (Pc.op i :: (sgP y1 ++ R))) = (signOf y0 ++ deeds.getD i "" ++ signOf y1).cps.toList ++ flat R
    rw [flat_app, flat_cons, flat_app, flat_sgP, flat_sgP, app_cps, app_cps]
    simp [Pc.cps]
  · obtain ⟨y0, y1, y2, rfl⟩ := threeOf h
    show flat (sgP y0 ++ (Pc.op i :: (sgP y1 ++ (Pc.op 0 :: (sgP y2 ++ R))))) = (signOf y0 ++ deeds.getD i "" ++ Str.join "|" [signOf y1, signOf y2]).cps.toList ++ flat R
    rw [flat_app, flat_cons, flat_app, flat_cons, flat_app, flat_sgP, flat_sgP, flat_sgP, app_cps, app_cps, join2]
    have e : (Pc.op 0).cps = ("|" : Str).cps.toList := rfl
    rw [e]
    simp [Pc.cps]
theorem wf_sgP {x : Nat × Nat × Nat} (h : x.1 < 4 ∧ x.2.1 < 2 ∧ x.2.2 < 2) : ∀ q ∈ sgP x, q.wf := by
  intro q hq
  unfold sgP at hq
  rcases List.mem_append.mp hq with hq | hq
  · split at hq
    · cases hq
    · rw [List.mem_singleton] at hq; subst hq; exact trivial
  · rw [List.mem_singleton] at hq; subst hq; exact ⟨h.2.2, h.1⟩
theorem wf_pcs {i : Nat} (hi : i < 8) {row : List (Nat × Nat × Nat)} (H : RowOK row) {R : List Pc} (hR : ∀ q ∈ R, q.wf) : ∀ q ∈ pcs i row R, q.wf := by
  have h0 : (Pc.op 0).wf := (by decide : 0 < 8)
  have sg : ∀ (y : Nat × Nat × Nat) (R : List Pc), y ∈ row → (∀ q ∈ R, q.wf) → ∀ q ∈ sgP y ++ R, q.wf := fun y R hy hR q hq => (List.mem_append.mp hq).elim (wf_sgP (H.2 y hy) q) (hR q)
  have cn : ∀ (p : Pc) (R : List Pc), p.wf → (∀ q ∈ R, q.wf) → ∀ q ∈ p :: R, q.wf := fun p R hp hR q hq => (List.mem_cons.mp hq).elim (fun e => e ▸ hp) (hR q)
  rcases H.1 with h | h
  · obtain ⟨y0, y1, rfl⟩ := twoOf h
    exact sg y0 _ (.head _) (cn _ _ hi (sg y1 _ (.tail _ (.head _)) hR))
  · obtain ⟨y0, y1, y2, rfl⟩ := threeOf h
    exact sg y0 _ (.head _) (cn _ _ hi (sg y1 _ (.tail _ (.head _)) (cn _ _ h0 (sg y2 _ (.tail _ (.tail _ (.head _))) hR))))
theorem ch_ltr (g l : Nat) {R : List Pc} (h : Chain R) : Chain (Pc.ltr g l :: R) := by
  cases R with
  | nil => rfl
  | cons q r => exact ⟨.inl rfl, h⟩
theorem ch_sgP (x : Nat × Nat × Nat) {R : List Pc} (h : Chain R) : Chain (sgP x ++ R) := by
  unfold sgP
  split
  · exact ch_ltr _ _ h
  · exact ⟨.inr rfl, ch_ltr _ _ h⟩
theorem ch_cons (p : Pc) (x : Nat × Nat × Nat) {R : List Pc} (h : Chain (sgP x ++ R)) : Chain (p :: (sgP x ++ R)) := by
  unfold sgP at h ⊢
  split at h
  · rename_i hx; rw [if_pos hx]; exact ⟨.inr rfl, h⟩
  · rename_i hx; rw [if_neg hx]; exact ⟨.inr rfl, h⟩
theorem ch_pcs (i : Nat) {row : List (Nat × Nat × Nat)} (h : row.length = 2 ∨ row.length = 3) {R : List Pc} (hR : Chain R) : Chain (pcs i row R) ∧ ∀ p, Chain (p :: pcs i row R) := by
  rcases h with h | h
  · obtain ⟨y0, y1, rfl⟩ := twoOf h
    have h := ch_sgP y0 (ch_cons (Pc.op i) y1 (ch_sgP y1 hR))
    exact ⟨h, fun p => ch_cons p y0 h⟩
  · obtain ⟨y0, y1, y2, rfl⟩ := threeOf h
    have h := ch_sgP y0 (ch_cons (Pc.op i) y1 (ch_sgP y1 (ch_cons (Pc.op 0) y2 (ch_sgP y2 hR))))
    exact ⟨h, fun p => ch_cons p y0 h⟩
-- the reading of the symbols
noncomputable def RunTo (texts : List Str) : Sta → List Nat → Sta → Prop
  | st, [], st' => st = st'
  | st, sym :: r, st' => ((sym = 13 ∨ sym = 0) → FlushOK texts st) ∧ (st.entries.length ≤ 800 ∧ st.row.length ≤ 100) ∧ RunTo texts (staStep texts st sym) r st'
theorem run_facts {texts : List Str} : ∀ {syms : List Nat} {st st' : Sta}, RunTo texts st syms st' → (syms.foldl (staStep texts) st = st') ∧ (∀ i (sym : Nat), syms[i]? = some sym → (sym = 13 ∨ sym = 0) → FlushOK texts ((syms.take i).foldl (staStep texts) st)) ∧ ∀ i, i < syms.length → ((syms.take i).foldl (staStep texts) st).entries.length ≤ 800 ∧ ((syms.take i).foldl (staStep texts) st).row.length ≤ 100 := by
  intro syms
  induction syms with
  | nil => intro st st' h; exact ⟨h, fun i sym h => by simp at h, fun i h => by simp at h⟩
  | cons a r ih =>
    rintro st st' ⟨h1, h2, h3⟩
    obtain ⟨i1, i2, i3⟩ := ih h3
    refine ⟨i1, fun i sym hs hz => ?_, fun i hi => ?_⟩
    · cases i with
      | zero => simp at hs; subst hs; exact h1 hz
      | succ i => exact i2 i sym (by simpa using hs) hz
    · cases i with
      | zero => exact h2
      | succ i => exact i3 i (by simpa using hi)
section
variable {texts : List Str} {es : List Entry} {p d : Nat} {row : Row2} {R : List Nat} {st2 : Sta}
theorem run_sgP (x : Nat × Nat × Nat) (hx : x.2.1 < 2) (he : es.length ≤ 800) (hr : row.length ≤ 100) (h : RunTo texts ⟨es, p, d, 0, row ++ [(x.1, x.2.1)]⟩ R st2) : RunTo texts ⟨es, p, d, 0, row⟩ ((sgP x).map Pc.tok ++ R) st2 := by
  have step : ∀ t, staStep texts ⟨es, p, d, t, row⟩ (256 + x.1) = ⟨es, p, d, 0, row ++ [(x.1, t)]⟩ := fun t => by
    unfold staStep
    rw [if_pos (by lia)]
    simp
  have base : ∀ t, RunTo texts ⟨es, p, d, 0, row ++ [(x.1, t)]⟩ R st2 → RunTo texts ⟨es, p, d, t, row⟩ ((256 + x.1) :: R) st2 := fun t h => by
    refine ⟨fun h => by lia, ⟨he, hr⟩, ?_⟩
    rw [step]; exact h
  unfold sgP
  by_cases h0 : x.2.1 = 0
  · rw [if_pos h0]
    rw [h0] at h
    exact base 0 h
  · have h1 : x.2.1 = 1 := by lia
    rw [if_neg h0]
    rw [h1] at h
    show RunTo texts _ (31 :: ((256 + x.1) :: R)) st2
    exact ⟨fun h => by lia, ⟨he, hr⟩, base 1 h⟩
theorem op_tok {i : Nat} (hi : i < 8) : ¬ 256 ≤ Pc.opTok.getD i 0 ∧ Pc.opTok.getD i 0 ≠ 31 ∧ ¬ (Pc.opTok.getD i 0 = 13 ∨ Pc.opTok.getD i 0 = 0) := by
  rcases lt8 hi with rfl | rfl | rfl | rfl | rfl | rfl | rfl | rfl <;> decide
theorem run_op0 {i : Nat} (hi : i < 8) (he : es.length ≤ 800) (hr : row.length ≤ 100) (h : RunTo texts ⟨es, p, Pc.opTok.getD i 0, 0, row⟩ R st2) : RunTo texts ⟨es, p, 0, 0, row⟩ ((Pc.op i).tok :: R) st2 := by
  obtain ⟨a, b, c⟩ := op_tok hi
  refine ⟨fun h => absurd h c, ⟨he, hr⟩, ?_⟩
  show RunTo texts (staStep texts _ (Pc.opTok.getD i 0)) R st2
  unfold staStep
  rw [if_neg a, if_neg b, if_neg c, if_pos rfl]
  exact h
theorem run_op1 {i : Nat} (hi : i < 8) (hd : d ≠ 0) (he : es.length ≤ 800) (hr : row.length ≤ 100) (h : RunTo texts ⟨es, p, d, 0, row⟩ R st2) : RunTo texts ⟨es, p, d, 0, row⟩ ((Pc.op i).tok :: R) st2 := by
  obtain ⟨a, b, c⟩ := op_tok hi
  refine ⟨fun h => absurd h c, ⟨he, hr⟩, ?_⟩
  show RunTo texts (staStep texts _ (Pc.opTok.getD i 0)) R st2
  unfold staStep
  rw [if_neg a, if_neg b, if_neg c, if_neg hd]
  exact h
theorem run_end {sym : Nat} (hs : sym = 13 ∨ sym = 0) (F : FlushOK texts ⟨es, p, d, 0, row⟩) (he : es.length ≤ 800) (hr : row.length ≤ 100) (h : RunTo texts ⟨es ++ flush (texts.getD p "") p d row, p + 1, 0, 0, []⟩ R st2) : RunTo texts ⟨es, p, d, 0, row⟩ (sym :: R) st2 := by
  refine ⟨fun _ => F, ⟨he, hr⟩, ?_⟩
  unfold staStep
  rw [if_neg (by lia), if_neg (by lia), if_pos hs]
  exact h
end
theorem run_stmt {texts : List Str} {es : List Entry} {p : Nat} {R : List Pc} {T : List Nat} {st2 : Sta} (N : Nat) (he : es.length ≤ 700) (h : RunTo texts ⟨es, p, Pc.opTok.getD (N % 8) 0, 0, row2 N⟩ (R.map Pc.tok ++ T) st2) : RunTo texts ⟨es, p, 0, 0, []⟩ ((pcs (N % 8) (rowN N) R).map Pc.tok ++ T) st2 := by
  have hi : N % 8 < 8 := Nat.mod_lt _ (by decide)
  have hd : Pc.opTok.getD (N % 8) 0 ≠ 0 := fun e => (op_tok hi).2.2 (.inr e)
  have H := rowN_ok N
  unfold row2 at h
  generalize rowN N = row at H h
  generalize N % 8 = i at *
  obtain ⟨H0 | H0, H⟩ := H
  · obtain ⟨y0, y1, rfl⟩ := twoOf H0
    show RunTo texts _ ((sgP y0 ++ (Pc.op i :: (sgP y1 ++ R))).map Pc.tok ++ T) st2
    rw [List.map_append, List.map_cons, List.map_append, List.append_assoc, List.cons_append, List.append_assoc]
    exact run_sgP y0 (H y0 (by simp)).2.1 (by lia) (by simp) (run_op0 hi (by lia) (by simp) (run_sgP y1 (H y1 (by simp)).2.1 (by lia) (by simp) h))
  · obtain ⟨y0, y1, y2, rfl⟩ := threeOf H0
    show RunTo texts _ ((sgP y0 ++ (Pc.op i :: (sgP y1 ++ (Pc.op 0 :: (sgP y2 ++ R))))).map Pc.tok ++ T) st2
    rw [List.map_append, List.map_cons, List.map_append, List.map_cons, List.map_append, List.append_assoc, List.cons_append, List.append_assoc, List.cons_append, List.append_assoc]
    exact run_sgP y0 (H y0 (by simp)).2.1 (by lia) (by simp) (run_op0 hi (by lia) (by simp) (run_sgP y1 (H y1 (by simp)).2.1 (by lia) (by simp) (run_op1 (by decide) hd (by lia) (by simp) (run_sgP y2 (H y2 (by simp)).2.1 (by lia) (by simp) h))))
theorem flush_ok (texts : List Str) (es : List Entry) {p : Nat} (hp : p < 3) (N : Nat) : FlushOK texts ⟨es, p, Pc.opTok.getD (N % 8) 0, 0, row2 N⟩ := by
  have hi : N % 8 < 8 := Nat.mod_lt _ (by decide)
  have H := row2_ok N
  refine ⟨?_, H.len, H.lt, hp⟩
  show Pc.opTok.getD (N % 8) 0 ∈ _
  rcases lt8 hi with h | h | h | h | h | h | h | h <;> rw [h] <;> decide
noncomputable def psOf (ns : List Nat) : List Pc := pcs (ns.getD 0 0 % 8) (rowN (ns.getD 0 0)) (Pc.semi :: pcs (ns.getD 1 0 % 8) (rowN (ns.getD 1 0)) (Pc.semi :: pcs (ns.getD 2 0 % 8) (rowN (ns.getD 2 0)) []))
theorem ps_txt {ns : List Nat} (h3 : ns.length = 3) : (joined ns).cps.toList = flat (psOf ns) := by
  obtain ⟨a, b, c, rfl⟩ := tally_three h3
  unfold psOf
  rw [flat_pcs _ (rowN_ok _).1, flat_cons, flat_pcs _ (rowN_ok _).1, flat_cons, flat_pcs _ (rowN_ok _).1]
  show (Str.join ";" [textN a, textN b, textN c]).cps.toList = _
  rw [join3]
  have e : Pc.semi.cps = (";" : Str).cps.toList := rfl
  have e2 : flat [] = [] := rfl
  rw [e, e2, List.append_nil]
  rfl
theorem ps_wf (ns : List Nat) : ∀ q ∈ psOf ns, q.wf := by
  have m : ∀ N : Nat, N % 8 < 8 := fun N => Nat.mod_lt _ (by decide)
  have sc : ∀ {R : List Pc}, (∀ q ∈ R, q.wf) → ∀ q ∈ Pc.semi :: R, q.wf := fun h q hq => by
    rcases List.mem_cons.mp hq with rfl | hq
    · exact trivial
    · exact h q hq
  exact wf_pcs (m _) (rowN_ok _) (sc (wf_pcs (m _) (rowN_ok _) (sc (wf_pcs (m _) (rowN_ok _) fun q hq => by cases hq))))
theorem ps_chain (ns : List Nat) : Chain (psOf ns) := (ch_pcs _ (rowN_ok _).1 ((ch_pcs _ (rowN_ok _).1 ((ch_pcs _ (rowN_ok _).1 (R := []) trivial).2 _)).2 _)).1
theorem ps_run (ns : List Nat) : RunTo (texts3 ns) ⟨[], 0, 0, 0, []⟩ ((psOf ns).map Pc.tok ++ [0]) ⟨allE ns, 3, 0, 0, []⟩ := by
  have l := fun k => (stmt_CQ ns k).1
  have r : ∀ N, (row2 N).length ≤ 100 := fun N => by rcases (row2_ok N).len with h | h <;> lia
  have h2 : RunTo (texts3 ns) ⟨allE ns, 3, 0, 0, []⟩ [] ⟨allE ns, 3, 0, 0, []⟩ := rfl
  have h2 := run_end (.inr rfl) (flush_ok (texts3 ns) (stmtE ns 0 ++ stmtE ns 1) (p := 2) (by decide) (ns.getD 2 0)) (by rw [List.length_append]; have := l 0; have := l 1; lia) (r _) h2
  have h1 := run_stmt (R := []) (ns.getD 2 0) (by rw [List.length_append]; have := l 0; have := l 1; lia) h2
  have h1 := run_end (.inl rfl) (flush_ok (texts3 ns) (stmtE ns 0) (p := 1) (by decide) (ns.getD 1 0)) (by have := l 0; lia) (r _) h1
  have h0 := run_stmt (R := Pc.semi :: pcs (ns.getD 2 0 % 8) (rowN (ns.getD 2 0)) []) (ns.getD 1 0) (by have := l 0; lia) h1
  have h0 := run_end (es := []) (.inl rfl) (flush_ok (texts3 ns) [] (p := 0) (by decide) (ns.getD 0 0)) (by simp) (r _) h0
  exact run_stmt (R := Pc.semi :: pcs (ns.getD 1 0 % 8) (rowN (ns.getD 1 0)) (Pc.semi :: pcs (ns.getD 2 0 % 8) (rowN (ns.getD 2 0)) [])) (ns.getD 0 0) (by simp) h0
end Mine
end
-- L12
section
open PySem PySem.W PyProof.Rows
set_option Elab.async false
set_option linter.all false
set_option maxRecDepth 100000
namespace Mine
theorem Clos.congr {P Q : (Nat → Nat) → Prop} {x : Nat} (h : ∀ c, P c ↔ Q c) (hc : Clos P x) : Clos Q x := fun c hk h0 => by
  rw [← h, ← h, ← h]; exact hc c hk h0
theorem T_perm {E E' : List Entry} (h : E.Perm E') (c : Nat → Nat) : TT E c ↔ TT E' c :=
  ⟨fun ⟨e, he, hw⟩ => ⟨e, h.mem_iff.mp he, hw⟩, fun ⟨e, he, hw⟩ => ⟨e, h.mem_iff.mpr he, hw⟩⟩
theorem EsOK.of {ns : List Nat} {E : List Entry} (h : E.length < 64) (g : ∀ e ∈ E, EG ns e) : EsOK E := ⟨h, fun e he => by
  have := g e he
  have h2 := (call_facts this.tl this.call).2.2
  exact ⟨this.ok, by lia, by rw [this.tl]; decide⟩⟩
structure InvL (ns : List Nat) (i : Nat) (E : List Entry) (l : List Nat) : Prop where
  good : ∀ e ∈ E, EG ns e
  anti : Anti E
  full : ∀ c, okc c → (∀ k, k < 4 → c k ≠ 0) → (TT E c ↔ Impl (Bad ns) c)
  len : l.length = 4 - i
  nd : l.Nodup
  lt : ∀ x ∈ l, x < 4
  clos : ∀ x, x < 4 → x ∉ l → Clos (TT E) x
  few : i = 0 → ∀ x, x < 4 → (E ++ madeOf E x).length < 64
theorem InvL.next {ns : List Nat} {i : Nat} {E : List Entry} {l : List Nat} (h : InvL ns i E l) (hi : i < 4) {j : Nat} (hj : j < l.length) :
    l.getD j 0 < 4 ∧ EsOK E ∧ (E ++ madeOf E (l.getD j 0)).length < 64 ∧ ∀ es' : List Entry, es'.Perm (E ++ madeOf E (l.getD j 0)) → (es'.map Entry.size).Pairwise (· ≤ ·) → InvL ns (i+1) (keptOf es') (l.eraseIdx j) := by
  have hok : ∀ e ∈ E, e.ok := fun e he => (h.good e he).ok
  have hy : l[j]? = some (l.getD j 0) := by rw [List.getD_eq_getElem?_getD, List.getElem?_eq_getElem hj]; rfl
  have hm : l.getD j 0 ∈ l := List.mem_of_getElem? hy
  generalize hyy : l.getD j 0 = y at *
  have hy4 := h.lt y hm
  have hb : (E ++ madeOf E y).length < 64 := by
    by_cases h0 : i = 0
    · exact h.few h0 y hy4
    · have : ∃ x, x < 4 ∧ x ∉ l := Classical.byContradiction fun hn => by
        have hs : List.range 4 ⊆ l := fun x hx => Classical.byContradiction fun hxl => hn ⟨x, List.mem_range.mp hx, hxl⟩
        have := List.nodup_range.length_le_of_subset hs
        rw [List.length_range, h.len] at this
        lia
      obtain ⟨x, hx, hxl⟩ := this
      have hxy : x ≠ y := fun e => hxl (e ▸ hm)
      have a := all_few hok h.anti hx hy4 hxy (h.clos x hx hxl)
      have b := pairs_few hok h.anti hx hy4 hxy (h.clos x hx hxl)
      have c := made_len E y
      rw [List.length_append]; lia
  refine ⟨hy4, EsOK.of (by rw [List.length_append] at hb; lia) h.good, hb, fun es' hp hs => ?_⟩
  have hT : ∀ c, TT (keptOf es') c ↔ TT (E ++ madeOf E y) c := fun c => kept_T.trans (T_perm hp c)
  refine ⟨?_, kept_anti hs, ?_, ?_, h.nd.sublist (List.eraseIdx_sublist _ _), fun x hx => h.lt x ((List.eraseIdx_sublist _ _).subset hx), ?_, fun h => by lia⟩
  · intro e he
    have he := hp.mem_iff.mp ((kept_sublist es').subset he)
    rcases List.mem_append.mp he with he | he
    · exact h.good e he
    · obtain ⟨o, ho, t, ht, h0, hme, rfl⟩ := made_mem.mp he
      exact (h.good o ho).add (h.good t ht) hy4 h0 hme
  · intro c hc hf
    rw [hT, T_nz hok hc hy4 (hf y hy4)]
    exact h.full c hc hf
  · rw [List.length_eraseIdx, if_pos hj, h.len]; lia
  · intro x hx hxl
    refine Clos.congr (fun c => (hT c).symm) ?_
    by_cases hxy : x = y
    · subst hxy; exact clos_new hok hx
    · refine clos_old hok hy4 hxy (h.clos x hx fun hin => hxl ?_)
      obtain ⟨k, hk⟩ := List.mem_iff_getElem?.mp hin
      refine List.mem_eraseIdx_iff_getElem?.mpr ⟨k, fun e => ?_, hk⟩
      subst e
      rw [hy] at hk; cases hk; exact hxy rfl
theorem InvL.final {ns : List Nat} {E : List Entry} {l : List Nat} (h : InvL ns 4 E l) : Final ns E := by
  have hok : ∀ e ∈ E, e.ok := fun e he => (h.good e he).ok
  have hl : l = [] := List.length_eq_zero_iff.mp h.len
  have hc : ∀ x, x < 4 → Clos (TT E) x := fun x hx => h.clos x hx (by rw [hl]; simp)
  have h24 := all_few hok h.anti (x := 0) (y := 1) (by decide) (by decide) (by decide) (hc 0 (by decide))
  refine ⟨EsOK.of (by lia) h.good, ?_, ?_, fun e he => (h.good e he).entry⟩
  · exact final_perm hok h.anti (agree hc (fun x hx => Impl.clos _ hx) h.full) (by lia)
  · unfold toldL; rw [List.length_map, List.length_range]; lia
theorem bits_table : ∀ a b c d : _root_.Fin 2, (a : Nat) + 2 * (b : Nat) + 4 * (c : Nat) + 8 * (d : Nat) < 16 ∧ ((a : Nat) + 2 * (b : Nat) + 4 * (c : Nat) + 8 * (d : Nat)) / 2 ^ 0 % 2 = (a : Nat) ∧ ((a : Nat) + 2 * (b : Nat) + 4 * (c : Nat) + 8 * (d : Nat)) / 2 ^ 1 % 2 = (b : Nat) ∧ ((a : Nat) + 2 * (b : Nat) + 4 * (c : Nat) + 8 * (d : Nat)) / 2 ^ 2 % 2 = (c : Nat) ∧ ((a : Nat) + 2 * (b : Nat) + 4 * (c : Nat) + 8 * (d : Nat)) / 2 ^ 3 % 2 = (d : Nat) := by decide
theorem point_of {c : Nat → Nat} (h : okc c) (hf : ∀ k, k < 4 → c k ≠ 0) : ∃ j, j < 16 ∧ falsC c j := by
  have b : ∀ k, k < 4 → ∃ v : Nat, v < 2 ∧ litOK (c k) v := fun k hk => by
    rcases h k hk with g | g | g
    · exact absurd g (hf k hk)
    · exact ⟨0, by decide, .inr (.inl ⟨g, rfl⟩)⟩
    · exact ⟨1, by decide, .inr (.inr ⟨g, rfl⟩)⟩
  obtain ⟨a0, h0, g0⟩ := b 0 (by decide)
  obtain ⟨a1, h1, g1⟩ := b 1 (by decide)
  obtain ⟨a2, h2, g2⟩ := b 2 (by decide)
  obtain ⟨a3, h3, g3⟩ := b 3 (by decide)
  obtain ⟨lt, e0, e1, e2, e3⟩ := bits_table ⟨a0, h0⟩ ⟨a1, h1⟩ ⟨a2, h2⟩ ⟨a3, h3⟩
  refine ⟨a0 + 2 * a1 + 4 * a2 + 8 * a3, lt, ?_⟩
  refine all4 ?_ ?_ ?_ ?_
  · rw [e0]; exact g0
  · rw [e1]; exact g1
  · rw [e2]; exact g2
  · rw [e3]; exact g3
theorem fals_within {e : Entry} {c : Nat → Nat} {j : Nat} (hf : ∀ k, k < 4 → c k ≠ 0) (h1 : falsC c j) (h2 : falsC e.at j) : e.within c := fun k hk => by
  have a := h1 k hk
  have b := h2 k hk
  have := hf k hk
  unfold litOK at a b
  rcases b with b | ⟨b, b'⟩ | ⟨b, b'⟩
  · exact .inl b
  · rcases a with a | ⟨a, a'⟩ | ⟨a, a'⟩
    · exact absurd a this
    · exact .inr (b.trans a.symm)
    · exact absurd (b'.symm.trans a') (by decide)
  · rcases a with a | ⟨a, a'⟩ | ⟨a, a'⟩
    · exact absurd a this
    · exact absurd (b'.symm.trans a') (by decide)
    · exact .inr (b.trans a.symm)
theorem within_fals {e : Entry} {c : Nat → Nat} {j : Nat} (h : e.within c) (h1 : falsC c j) : falsC e.at j := fun k hk => by
  rcases h k hk with g | g
  · exact .inl g
  · rw [g]; exact h1 k hk
theorem all_EG {ns : List Nat} : ∀ e ∈ allE ns, EG ns e := fun e he => by
  unfold allE at he
  rw [List.mem_append, List.mem_append] at he
  rcases he with (h | h) | h
  · exact stmt_EG (by decide) e h
  · exact stmt_EG (by decide) e h
  · exact stmt_EG (by decide) e h
theorem all_full (ns : List Nat) {c : Nat → Nat} (hc : okc c) (hf : ∀ k, k < 4 → c k ≠ 0) : TT (allE ns) c ↔ Impl (Bad ns) c := by
  constructor
  · rintro ⟨e, he, hw⟩ j hj hfc
    obtain ⟨k, hk, _, hb⟩ := (all_EG e he).sound j hj (within_fals hw hfc)
    exact ⟨k, hk, hb⟩
  · intro hI
    obtain ⟨j, hj, hfc⟩ := point_of hc hf
    obtain ⟨k, hk, hb⟩ := hI j hj hfc
    obtain ⟨e, he, hfe⟩ := stmt_bad hj hb
    refine ⟨e, ?_, fals_within hf hfc hfe⟩
    unfold allE
    rw [List.mem_append, List.mem_append]
    rcases lt3 hk with rfl | rfl | rfl
    · exact .inl (.inl he)
    · exact .inl (.inr he)
    · exact .inr he
theorem InvL.start {ns : List Nat} {es' : List Entry} (hp : es'.Perm (allE ns)) (hs : (es'.map Entry.size).Pairwise (· ≤ ·)) : InvL ns 0 (keptOf es') [0, 1, 2, 3] := by
  refine ⟨fun e he => all_EG e (hp.mem_iff.mp ((kept_sublist es').subset he)), kept_anti hs, fun c hc hf => ?_, rfl, by decide, by decide, fun x hx hn => ?_, fun _ x hx => ?_⟩
  · rw [kept_T, T_perm hp]; exact all_full ns hc hf
  · exfalso
    rcases lt4 hx with rfl | rfl | rfl | rfl <;> exact hn (by decide)
  · have hok : ∀ k, ∀ e ∈ stmtE ns k, e.ok := fun k e he => by
      by_cases hk : k < 3
      · exact (stmt_EG hk e he).ok
      · -- a place past the three: its clauses are well made too
        obtain ⟨x0, rest, H⟩ := row_HP (ns.getD k 0)
        have hi : ns.getD k 0 % 8 < 8 := Nat.mod_lt _ (by decide)
        unfold stmtE flush at he
        obtain ⟨⟨v, o⟩, hvo, he⟩ := List.mem_flatMap.mp he
        have hlt := broken_lt hi hvo
        unfold rowsOf at he
        obtain ⟨part, hpa, rfl⟩ := List.mem_map.mp he
        rw [H.eq] at hpa ⊢
        have hpa : part ∈ partsOf2 o rest := hpa
        show (mkE ((texts3 ns).getD k "") k x0 v o part).ok
        by_cases ho : o = 1
        · subst ho
          have hpa : part ∈ rest.map fun x => [x] := hpa
          obtain ⟨x, hx, rfl⟩ := List.mem_map.mp hpa
          exact (mkE_facts (H.one x hx) hlt.1 hlt.2 _ _).1
        · have ho0 : o = 0 := by have := hlt.2; dsimp only at this; lia
          subst ho0
          have hpa : part ∈ [rest] := hpa
          rw [List.mem_singleton] at hpa
          subst hpa
          exact (mkE_facts H.hp hlt.1 hlt.2 _ _).1
    exact first_few hok hp hx
noncomputable def thePL (ns : List Nat) (h3 : ns.length = 3) : PL ns :=
  have R := run_facts (ps_run ns)
  have e0 : stOf (texts3 ns) ((psOf ns).map Pc.tok ++ [0]) ((psOf ns).map Pc.tok ++ [0]).length = ⟨allE ns, 3, 0, 0, []⟩ := by
    unfold stOf; rw [List.take_length]; exact R.1
  { ps := psOf ns
    txt := ps_txt h3
    wf := ps_wf ns
    chain := ps_chain ns
    fl := R.2.1
    bd := R.2.2
    few := by rw [e0]; have := all_len ns; show (allE ns).length < 64; lia
    Inv := fun i E l _ => InvL ns i E l
    start := fun es' hp hs => by rw [e0] at hp; exact InvL.start hp hs
    step := fun i E l t hi h => by
      have hj : t % (4 - i) < l.length := by rw [h.len]; exact Nat.mod_lt _ (by lia)
      obtain ⟨a, b, c, d⟩ := h.next hi hj
      exact ⟨h.len, a, b, c, d⟩
    fin := fun E l t h => h.final }
end Mine
end
-- J5
section
open PySem PySem.W PyProof.Rows
set_option Elab.async false
set_option linter.all false
set_option maxRecDepth 100000
namespace Mine
-- the world as the head left it
noncomputable def addrL : List Addr := (List.range 268).map (· + 1) |>.filter (· != 245)
noncomputable def fragOfRun (s : Shared) (as : List Addr) : Frag := as.filterMap fun a => (s.heap.get? a).map fun o => (a, o)
theorem frag_lookup {s : Shared} : ∀ {as : List Addr} {a : Addr} {o : Obj}, (fragOfRun s as).lookup a = some o → a ∈ as ∧ s.heap.get? a = some o
  | [], a, o, h => nomatch h
  | b :: as, a, o, h => by
    have ih := frag_lookup (s := s) (as := as) (a := a) (o := o)
    unfold fragOfRun at h ih
    rw [List.filterMap_cons] at h
    cases e : s.heap.get? b with
    | none => rw [e] at h; exact ⟨List.mem_cons_of_mem _ (ih h).1, (ih h).2⟩
    | some x =>
      rw [e] at h
      simp only [Option.map_some] at h
      rw [List.lookup_cons] at h
      by_cases q : a = b
      · subst q
        rw [beq_self_eq_true] at h
        simp only at h
        cases h
        exact ⟨.head _, e⟩
      · rw [beq_eq_false_iff_ne.mpr q] at h
        exact ⟨List.mem_cons_of_mem _ (ih h).1, (ih h).2⟩
@[irreducible] noncomputable def KP (w : World) : Frag := fragOfRun (theRun w) addrL
theorem KP_get {w : World} {a : Addr} {o : Obj} (h : (KP w).lookup a = some o) : a ∈ addrL ∧ (theRun w).heap.get? a = some o := by
  unfold KP at h
  exact frag_lookup h
theorem KP_in {w : World} {h : Heap} (Y : Left w h) : (KP w).In h := fun a o e => Y _ _ (KP_get e).2
theorem K_none {w : World} {a : Addr} (h : a ∉ addrL) : (KP w).lookup a = none := by
  cases e : (KP w).lookup a with
  | none => rfl
  | some o => exact absurd (KP_get e).1 h
theorem K_no0 (w : World) : (KP w).lookup builtinsNs = none := K_none (by decide)
theorem K_noH (w : World) : (KP w).lookup 245 = none := K_none (by decide)
noncomputable def fnO (w : World) (a : Addr) : Option FuncData := ((KP w).lookup a).bind fun o => match o.data with
  | .func fd => some fd
  | _ => none
theorem fnO_get {w : World} {a : Addr} {fd : FuncData} (h : fnO w a = some fd) : ∃ o, (KP w).lookup a = some o ∧ o.data = .func fd := by
  unfold fnO at h
  cases hl : (KP w).lookup a with
  | none => rw [hl] at h; cases h
  | some o =>
    rw [hl, Option.bind_some] at h
    refine ⟨o, rfl, ?_⟩
    split at h
    · rename_i e; cases h; exact e
    · cases h
noncomputable def cqO (w : World) (c : Addr) : Option Str := ((KP w).lookup c).bind fun o => match o.data with
  | .fields vs => (match (vs[1]? : Option Value) with
    | some (.str q _) => some q
    | _ => none)
  | _ => none
theorem cqO_get {w : World} {c : Addr} {q : Str} (h : cqO w c = some q) : ∃ o vs t, (KP w).lookup c = some o ∧ o.data = .fields vs ∧ vs[1]? = some (.str q t) := by
  unfold cqO at h
  cases hl : (KP w).lookup c with
  | none => rw [hl] at h; cases h
  | some o =>
    rw [hl, Option.bind_some] at h
    split at h
    · rename_i vs e
      split at h
      · rename_i q' t' e2
        cases h
        exact ⟨o, vs, t', rfl, e, e2⟩
      · cases h
    · cases h
noncomputable def scFine (sc : Scope) : Bool := sc.names.all fun x => x.1 != "__classdict__" && (match x.2 with
  | .free => false
  | _ => true)
/-- a def among the objects known -/
structure FnK (w : World) (a c : Addr) (body : List Stmt) (sc : Scope) : Prop where
  sm : (fnO w a).isSome = true
  clo : (fnO w a).map (·.closure) = Option.some []
  glob : (fnO w a).map (·.globals) = Option.some mainGlobals
  blt : (fnO w a).map (·.builtins) = Option.some builtinsNs
  body : (fnO w a).map (·.body) = Option.some (.stmts body)
  sco : (fnO w a).map (·.scope) = Option.some sc
  code : (fnO w a).map (·.code) = Option.some (.ref c)
  qual : cqO w c = (fnO w a).map (·.qualname)
  kind : sc.kind = .function
  gen : sc.isGenerator = false
  cor : sc.isCoroutine = false
  fine : scFine sc = true
theorem FnK.isFn {C : Cx} {w : World} (hb : ∀ a o, (KP w).lookup a = some o → C.base a o) {a c : Addr} {body : List Stmt} {sc : Scope} (H : FnK w a c body sc) : ∃ fd, fnO w a = some fd ∧ IsFn C a fd body ∧ fd.scope = sc ∧ fd.code = .ref c := by
  obtain ⟨h0, h1, h2, h3, h4, h5, h6, h7, h8, h9, h10, h11⟩ := H
  obtain ⟨fd, e⟩ := Option.isSome_iff_exists.mp h0
  rw [e, Option.map_some] at h1 h2 h3 h4 h5 h6 h7
  have h1 := Option.some.inj h1
  have h2 := Option.some.inj h2
  have h3 := Option.some.inj h3
  have h4 := Option.some.inj h4
  have h5 := Option.some.inj h5
  have h6 := Option.some.inj h6
  obtain ⟨o, ho, hd⟩ := fnO_get e
  obtain ⟨oc, vs, t, hoc, hdc, hv⟩ := cqO_get h7
  have fine : ∀ x ∈ sc.names, x.1 ≠ "__classdict__" ∧ x.2 ≠ .free := fun x hx => by
    have := List.all_eq_true.mp h11 x hx
    rw [Bool.and_eq_true] at this
    refine ⟨by simpa using this.1, fun e => ?_⟩
    have h := this.2
    rw [e] at h; cases h
  exact ⟨fd, e, { clo := h1, glob := h2, blt := h3, kind := h5 ▸ h8, gen := h5 ▸ h9, cor := h5 ▸ h10, ncd := fun x hx => (fine x (h5 ▸ hx)).1, nfree := fun x hx => (fine x (h5 ▸ hx)).2, obj := ⟨o, hb _ _ ho, hd⟩, body := h4, code := ⟨c, oc, vs, t, h6, hb _ _ hoc, hdc, hv⟩ }, h5, h6⟩
/-- how the arguments are bound -/
noncomputable def bindO (w : World) (a : Addr) (vs : List Value) : Option (Sem (List (Str × Value))) := (fnO w a).map fun fd => bindArgs fd ⟨vs, []⟩
theorem FnK.ok {C : Cx} {w : World} (hb : ∀ a o, (KP w).lookup a = some o → C.base a o) {a c : Addr} {body : List Stmt} {sc : Scope} (H : FnK w a c body sc) {xs : List Str} (hbind : ∀ vs : List Value, xs.length = vs.length → bindO w a vs = some (pure (xs.zip vs))) : DefOK C body sc a xs := by
  obtain ⟨fd, e, I, hs, _⟩ := H.isFn hb
  refine ⟨fd, I, hs, fun vs h => ?_⟩
  have := hbind vs h
  unfold bindO at this
  rw [e, Option.map_some] at this
  exact Option.some.inj this
noncomputable def peekO (w : World) (a : Addr) (S : Setting) (vs : List Value) (kw : List (Str × Value)) : Option (List (Str × Value)) := (fnO w a).bind fun fd => peek (KP w) S (bindArgs fd ⟨vs, kw⟩)
theorem FnK.okB {C : Cx} {w : World} (hb : ∀ a o, (KP w).lookup a = some o → C.base a o) {a c : Addr} {body : List Stmt} {sc : Scope} (H : FnK w a c body sc) {xs : List Str} {n : Nat} {kws : List Str} {extra : List Value}
    (hbind : ∀ (S : Setting) (vs ks : List Value), vs.length = n → ks.length = kws.length → peekO w a S vs (kws.zip ks) = some (xs.zip (vs ++ ks ++ extra))) : DefB C body sc a xs n kws extra := by
  obtain ⟨fd, e, I, hs, _⟩ := H.isFn hb
  refine ⟨fd, I, hs, fun m s g vs ks h1 h2 => ?_⟩
  refine kp_binds (K := KP w) (fun a o h => g.base a o (hb a o h)) fun S => ?_
  have := hbind S vs ks h1 h2
  unfold peekO at this
  rw [e, Option.bind_some] at this
  exact this
theorem uncons {vs : List Value} {n : Nat} (h : vs.length = n + 1) : ∃ v r, vs = v :: r ∧ r.length = n := by
  cases vs with
  | nil => exact absurd h.symm (Nat.succ_ne_zero _)
  | cons v r => exact ⟨v, r, rfl, Nat.succ.inj h⟩
theorem len0 {vs : List Value} {Q : List Value → Prop} (h0 : Q []) (h : ([] : List Str).length = vs.length) : Q vs := by
  obtain rfl : vs = [] := List.eq_nil_of_length_eq_zero h.symm
  exact h0
theorem len1 {x : Str} {vs : List Value} {Q : List Value → Prop} (h0 : ∀ a, Q [a]) (h : ([x] : List Str).length = vs.length) : Q vs := by
  obtain ⟨a, r, rfl, e⟩ := uncons h.symm
  obtain rfl : r = [] := List.eq_nil_of_length_eq_zero e
  exact h0 a
theorem len2 {x y : Str} {vs : List Value} {Q : List Value → Prop} (h0 : ∀ a b, Q [a, b]) (h : ([x, y] : List Str).length = vs.length) : Q vs := by
  obtain ⟨a, r, rfl, e⟩ := uncons h.symm
  obtain ⟨b, r', rfl, e'⟩ := uncons e
  obtain rfl : r' = [] := List.eq_nil_of_length_eq_zero e'
  exact h0 a b
noncomputable def objG (w : World) (a : Addr) : Obj := ((KP w).lookup a).getD ⟨.none, none, .plain, #[]⟩
theorem objG_get {w : World} {a : Addr} (h : ((KP w).lookup a).isSome = true) : (KP w).lookup a = some (objG w a) := by
  obtain ⟨o, e⟩ := Option.isSome_iff_exists.mp h
  unfold objG; rw [e]; rfl
noncomputable def vsG (o : Obj) : Array Value := match o.data with
  | .fields vs => vs
  | .seq vs _ => vs
  | _ => #[]
noncomputable def kG (o : Obj) : Nat := match o.data with
  | .seq _ k => k
  | _ => 0
noncomputable def esG (o : Obj) : Array DictEntry := match o.data with
  | .dict es _ => es
  | _ => #[]
noncomputable def epG (o : Obj) : Nat := match o.data with
  | .dict _ ep => ep
  | _ => 0
noncomputable def nsG (w : World) (x : Str) : Option Value := nsFind (esG (objG w mainGlobals)) x
noncomputable def rawEs (es : Array DictEntry) : List (Str × Tok × Value) := es.toList.filterMap fun e => match e.key with
  | .str k t => some (k, t, e.val)
  | _ => none
noncomputable def intOK (p : Value × Nat) : Bool := match p.1 with
  | .int i _ => i == (p.2 : Int)
  | _ => false
noncomputable def theA : Ads where
  afs := 45
  ac := 52
  cc := 59
  isnt := 69
  iseof := 76
  hdr := 207
  numbers := 218
  drawn := 223
  text := 228
  cases := 233
  symbols := 238
  entries := 243
  least := 248
  pairs := 253
  taken := 258
  masks := 263
  exact_ := 60
  nre := 81
  vre := 86
  hInit := 101
  hConv := 108
  hGet := 154
  hGetAll := 146
  hItems := 171
noncomputable def globAt (w : World) (p : Str × Value) : Prop := (nsG w p.1).or (bootBuiltins p.1) = some p.2 ∧ p.1 ≠ "__name__"
noncomputable def tokG (v : Option Value) : Tok := match v with
  | some (.int _ t) => t
  | _ => 0
structure PatK (w : World) (a ca : Addr) (code : Array Nat) : Prop where
  h1 : ((KP w).lookup a).isSome = true
  h2 : (objG w a).cls = .type "re.Pattern"
  h3 : (objG w a).dict = Option.none
  h4 : (objG w a).data = .fields (vsG (objG w a))
  h5 : ((KP w).lookup ca).isSome = true
  h6 : (objG w ca).data = .seq (vsG (objG w ca)) (kG (objG w ca))
  h7 : (vsG (objG w a)).getD 5 .none = .ref ca
  h8 : Builtin.Re.reRawNat ((vsG (objG w a)).getD 6 .none) = 0
  h9 : Builtin.Re.reRawNat ((vsG (objG w a)).getD 2 .none) = 0
  h10 : ((vsG (objG w ca)).map Builtin.Re.reRawOf).map (·.toNat) = code
structure HdrK (K : Frag) : Prop where
  makes : makesIn K theA.hdr = true
  keep : keepIn K (.ref theA.hdr) = true
  getat : plainGet K theA.hdr "_" = true
  has : hasDictIn K theA.hdr = true
  over : plainOver K theA.hdr = true
  setat : findIn K (.ref theA.hdr) "__setattr__" = some (some (.builtin "object.__setattr__"))
  field : findIn K (.ref theA.hdr) "_headers" = some Option.none
  init : findIn K (.ref theA.hdr) "__init__" = some (some (.ref theA.hInit))
  conv : findIn K (.ref theA.hdr) "_convert_string_type" = some (some (.ref theA.hConv))
  get : findIn K (.ref theA.hdr) "get" = some (some (.ref theA.hGet))
  getAll : findIn K (.ref theA.hdr) "get_all" = some (some (.ref theA.hGetAll))
  items : findIn K (.ref theA.hdr) "items" = some (some (.ref theA.hItems))
  fns : ∀ f ∈ [theA.hInit, theA.hConv, theA.hGet, theA.hGetAll, theA.hItems], isFn K (.ref f) = true ∧ keepIn K (.ref f) = true
/-- all that the law's walk wants of the top -/
structure TopFacts (w : World) : Prop where
  k_afs : FnK w 45 44 (bodyOf 3) (scOf 3)
  b_afs : ∀ u v : Value, bindO w 45 [u, v] = some (pure ((["target", "source"] : List Str).zip [u, v]))
  k_ac : FnK w 52 51 (bodyOf 4) (scOf 4)
  b_ac : ∀ u v : Value, bindO w 52 [u, v] = some (pure ((["target", "source"] : List Str).zip [u, v]))
  k_cc : FnK w 59 58 (bodyOf 5) (scOf 5)
  b_cc : ∀ u : Value, bindO w 59 [u] = some (pure ((["callers"] : List Str).zip [u]))
  k_isnt : FnK w 69 68 (bodyOf 58) (scOf 58)
  b_isnt : ∀ u : Value, bindO w 69 [u] = some (pure ((["x"] : List Str).zip [u]))
  k_iseof : FnK w 76 75 (bodyOf 59) (scOf 59)
  b_iseof : ∀ u : Value, bindO w 76 [u] = some (pure ((["x"] : List Str).zip [u]))
  k_numbers : FnK w 218 217 (bodyOf 65) (scOf 65)
  b_numbers : ∀ u : Value, bindO w 218 [u] = some (pure ((["script"] : List Str).zip [u]))
  k_drawn : FnK w 223 222 (bodyOf 66) (scOf 66)
  b_drawn : ∀ u : Value, bindO w 223 [u] = some (pure ((["number"] : List Str).zip [u]))
  k_text : FnK w 228 227 (bodyOf 67) (scOf 67)
  b_text : ∀ u v : Value, bindO w 228 [u, v] = some (pure ((["deed", "row"] : List Str).zip [u, v]))
  k_cases : FnK w 233 232 (bodyOf 68) (scOf 68)
  b_cases : ∀ u v : Value, bindO w 233 [u, v] = some (pure ((["deed", "row"] : List Str).zip [u, v]))
  k_symbols : FnK w 238 237 (bodyOf 69) (scOf 69)
  b_symbols : ∀ u v : Value, bindO w 238 [u, v] = some (pure ((["text", "names"] : List Str).zip [u, v]))
  k_entries : FnK w 243 242 (bodyOf 70) (scOf 70)
  b_entries : ∀ u v : Value, bindO w 243 [u, v] = some (pure ((["symbols", "texts"] : List Str).zip [u, v]))
  k_pairs : FnK w 253 252 (bodyOf 72) (scOf 72)
  b_pairs : ∀ u : Value, bindO w 253 [u] = some (pure ((["entries"] : List Str).zip [u]))
  k_taken : FnK w 258 257 (bodyOf 73) (scOf 73)
  b_taken : ∀ u v : Value, bindO w 258 [u, v] = some (pure ((["entries", "letter"] : List Str).zip [u, v]))
  k_masks : FnK w 263 262 (bodyOf 74) (scOf 74)
  b_masks : bindO w 263 [] = some (pure (([] : List Str).zip []))
  k_law : FnK w 268 267 (bodyOf 75) (scOf 75)
  b_law : ∀ u : Value, bindO w 268 [u] = some (pure ((["script"] : List Str).zip [u]))
  k_least : FnK w 248 247 (bodyOf 71) (scOf 71)
  b_least : ∀ u : Value, bindO w 248 [u] = some (pure ((["entries"] : List Str).zip [u]))
  k_hInit : FnK w 101 100 (mBody 0) (mSc 0)
  b_hInit : ∀ (S : Setting) (u v : Value), peekO w 101 S [u, v] (([] : List Str).zip []) = some ((["self", "headers"] : List Str).zip ([u, v] ++ [] ++ []))
  k_hConv : FnK w 108 107 (mBody 1) (mSc 1)
  b_hConv : ∀ (S : Setting) (u v x : Value), peekO w 108 S [u, v] ((["name"] : List Str).zip [x]) = some ((["self", "value", "name"] : List Str).zip ([u, v] ++ [x] ++ []))
  k_hGet : FnK w 154 153 (mBody 8) (mSc 8)
  b_hGet : ∀ (S : Setting) (u v : Value), peekO w 154 S [u, v] (([] : List Str).zip []) = some ((["self", "name", "default"] : List Str).zip ([u, v] ++ [] ++ [.none]))
  k_hGetAll : FnK w 146 145 (mBody 7) (mSc 7)
  b_hGetAll : ∀ (S : Setting) (u v : Value), peekO w 146 S [u, v] (([] : List Str).zip []) = some ((["self", "name"] : List Str).zip ([u, v] ++ [] ++ []))
  k_hItems : FnK w 171 170 (mBody 11) (mSc 11)
  b_hItems : ∀ (S : Setting) (u : Value), peekO w 171 S [u] (([] : List Str).zip []) = some ((["self"] : List Str).zip ([u] ++ [] ++ []))
  glo : ((KP w).lookup mainGlobals).isSome = true
  d1 : (rawEs (esG (objG w 60))).map (·.1) = exactL.map (·.1)
  d2 : (((rawEs (esG (objG w 60))).map (·.2.2)).zip (exactL.map (·.2))).all intOK = true
  d3 : ((rawEs (esG (objG w 60))).map (·.2.2)).length = (exactL.map (·.2)).length
  d4 : ((KP w).lookup 60).isSome = true
  d5 : (objG w 60).ExactDict
  d6 : (objG w 60).data = .dict ((rawEs (esG (objG w 60))).map fun p => (⟨PyData.keyHash w.params p.1, .str p.1 p.2.1, p.2.2⟩ : DictEntry)).toArray (epG (objG w 60))
  np : PatK w 81 80 nameCode
  vp : PatK w 86 85 valueCode
  hd : HdrK (KP w)
  tb : ∀ p ∈ tbl theA, globAt w p
  hdg : nsG w "Headers" = some (.ref 207)
  lawg : nsG w "law" = some (.ref 268)
  nt : (nsG w "NT_OFFSET").or (bootBuiltins "NT_OFFSET") = some (.int 256 (tokG (nsG w "NT_OFFSET")))
  em : (nsG w "ENDMARKER").or (bootBuiltins "ENDMARKER") = some (.int 0 (tokG (nsG w "ENDMARKER")))
  cdh : codeHdIn (KP w) 247 245 = true
  lq : (fnO w 248).map (·.qualname) = some (Str.ofString "_law_least")
  hole : (theRun w).heap.get? 245 = some (tabObj #[])
theorem facts (w : World) : TopFacts w := ⟨
  ⟨by kernel_rfl, by kernel_rfl, by kernel_rfl, by kernel_rfl, by kernel_rfl, by kernel_rfl, by kernel_rfl, by kernel_rfl, by kernel_rfl, by kernel_rfl, by kernel_rfl, by kernel_rfl⟩,
  fun u v => by kernel_rfl,
  ⟨by kernel_rfl, by kernel_rfl, by kernel_rfl, by kernel_rfl, by kernel_rfl, by kernel_rfl, by kernel_rfl, by kernel_rfl, by kernel_rfl, by kernel_rfl, by kernel_rfl, by kernel_rfl⟩,
  fun u v => by kernel_rfl,
  ⟨by kernel_rfl, by kernel_rfl, by kernel_rfl, by kernel_rfl, by kernel_rfl, by kernel_rfl, by kernel_rfl, by kernel_rfl, by kernel_rfl, by kernel_rfl, by kernel_rfl, by kernel_rfl⟩,
  fun u => by kernel_rfl,
  ⟨by kernel_rfl, by kernel_rfl, by kernel_rfl, by kernel_rfl, by kernel_rfl, by kernel_rfl, by kernel_rfl, by kernel_rfl, by kernel_rfl, by kernel_rfl, by kernel_rfl, by kernel_rfl⟩,
  fun u => by kernel_rfl,
  ⟨by kernel_rfl, by kernel_rfl, by kernel_rfl, by kernel_rfl, by kernel_rfl, by kernel_rfl, by kernel_rfl, by kernel_rfl, by kernel_rfl, by kernel_rfl, by kernel_rfl, by kernel_rfl⟩,
  fun u => by kernel_rfl,
  ⟨by kernel_rfl, by kernel_rfl, by kernel_rfl, by kernel_rfl, by kernel_rfl, by kernel_rfl, by kernel_rfl, by kernel_rfl, by kernel_rfl, by kernel_rfl, by kernel_rfl, by kernel_rfl⟩,
  fun u => by kernel_rfl,
  ⟨by kernel_rfl, by kernel_rfl, by kernel_rfl, by kernel_rfl, by kernel_rfl, by kernel_rfl, by kernel_rfl, by kernel_rfl, by kernel_rfl, by kernel_rfl, by kernel_rfl, by kernel_rfl⟩,
  fun u => by kernel_rfl,
  ⟨by kernel_rfl, by kernel_rfl, by kernel_rfl, by kernel_rfl, by kernel_rfl, by kernel_rfl, by kernel_rfl, by kernel_rfl, by kernel_rfl, by kernel_rfl, by kernel_rfl, by kernel_rfl⟩,
  fun u v => by kernel_rfl,
  ⟨by kernel_rfl, by kernel_rfl, by kernel_rfl, by kernel_rfl, by kernel_rfl, by kernel_rfl, by kernel_rfl, by kernel_rfl, by kernel_rfl, by kernel_rfl, by kernel_rfl, by kernel_rfl⟩,
  fun u v => by kernel_rfl,
  ⟨by kernel_rfl, by kernel_rfl, by kernel_rfl, by kernel_rfl, by kernel_rfl, by kernel_rfl, by kernel_rfl, by kernel_rfl, by kernel_rfl, by kernel_rfl, by kernel_rfl, by kernel_rfl⟩,
  fun u v => by kernel_rfl,
  ⟨by kernel_rfl, by kernel_rfl, by kernel_rfl, by kernel_rfl, by kernel_rfl, by kernel_rfl, by kernel_rfl, by kernel_rfl, by kernel_rfl, by kernel_rfl, by kernel_rfl, by kernel_rfl⟩,
  fun u v => by kernel_rfl,
  ⟨by kernel_rfl, by kernel_rfl, by kernel_rfl, by kernel_rfl, by kernel_rfl, by kernel_rfl, by kernel_rfl, by kernel_rfl, by kernel_rfl, by kernel_rfl, by kernel_rfl, by kernel_rfl⟩,
  fun u => by kernel_rfl,
  ⟨by kernel_rfl, by kernel_rfl, by kernel_rfl, by kernel_rfl, by kernel_rfl, by kernel_rfl, by kernel_rfl, by kernel_rfl, by kernel_rfl, by kernel_rfl, by kernel_rfl, by kernel_rfl⟩,
  fun u v => by kernel_rfl,
  ⟨by kernel_rfl, by kernel_rfl, by kernel_rfl, by kernel_rfl, by kernel_rfl, by kernel_rfl, by kernel_rfl, by kernel_rfl, by kernel_rfl, by kernel_rfl, by kernel_rfl, by kernel_rfl⟩,
  by kernel_rfl,
  ⟨by kernel_rfl, by kernel_rfl, by kernel_rfl, by kernel_rfl, by kernel_rfl, by kernel_rfl, by kernel_rfl, by kernel_rfl, by kernel_rfl, by kernel_rfl, by kernel_rfl, by kernel_rfl⟩,
  fun u => by kernel_rfl,
  ⟨by kernel_rfl, by kernel_rfl, by kernel_rfl, by kernel_rfl, by kernel_rfl, by kernel_rfl, by kernel_rfl, by kernel_rfl, by kernel_rfl, by kernel_rfl, by kernel_rfl, by kernel_rfl⟩,
  fun u => by kernel_rfl,
  ⟨by kernel_rfl, by kernel_rfl, by kernel_rfl, by kernel_rfl, by kernel_rfl, by kernel_rfl, by kernel_rfl, by kernel_rfl, by kernel_rfl, by kernel_rfl, by kernel_rfl, by kernel_rfl⟩,
  fun S u v => by kernel_rfl,
  ⟨by kernel_rfl, by kernel_rfl, by kernel_rfl, by kernel_rfl, by kernel_rfl, by kernel_rfl, by kernel_rfl, by kernel_rfl, by kernel_rfl, by kernel_rfl, by kernel_rfl, by kernel_rfl⟩,
  fun S u v x => by kernel_rfl,
  ⟨by kernel_rfl, by kernel_rfl, by kernel_rfl, by kernel_rfl, by kernel_rfl, by kernel_rfl, by kernel_rfl, by kernel_rfl, by kernel_rfl, by kernel_rfl, by kernel_rfl, by kernel_rfl⟩,
  fun S u v => by kernel_rfl,
  ⟨by kernel_rfl, by kernel_rfl, by kernel_rfl, by kernel_rfl, by kernel_rfl, by kernel_rfl, by kernel_rfl, by kernel_rfl, by kernel_rfl, by kernel_rfl, by kernel_rfl, by kernel_rfl⟩,
  fun S u v => by kernel_rfl,
  ⟨by kernel_rfl, by kernel_rfl, by kernel_rfl, by kernel_rfl, by kernel_rfl, by kernel_rfl, by kernel_rfl, by kernel_rfl, by kernel_rfl, by kernel_rfl, by kernel_rfl, by kernel_rfl⟩,
  fun S u => by kernel_rfl,
  by kernel_rfl,
  by kernel_rfl,
  by kernel_rfl,
  by kernel_rfl,
  by kernel_rfl,
  ⟨by kernel_rfl, by kernel_rfl, by kernel_rfl⟩,
  by kernel_rfl,
  ⟨by kernel_rfl, by kernel_rfl, by kernel_rfl, by kernel_rfl, by kernel_rfl, by kernel_rfl, by kernel_rfl, by kernel_rfl, by kernel_rfl, by kernel_rfl⟩,
  ⟨by kernel_rfl, by kernel_rfl, by kernel_rfl, by kernel_rfl, by kernel_rfl, by kernel_rfl, by kernel_rfl, by kernel_rfl, by kernel_rfl, by kernel_rfl⟩,
  ⟨by kernel_rfl, by kernel_rfl, by kernel_rfl, by kernel_rfl, by kernel_rfl, by kernel_rfl, by kernel_rfl, by kernel_rfl, by kernel_rfl, by kernel_rfl, by kernel_rfl, by kernel_rfl, List.forall_mem_cons.mpr ⟨⟨by kernel_rfl, by kernel_rfl⟩, List.forall_mem_cons.mpr ⟨⟨by kernel_rfl, by kernel_rfl⟩, List.forall_mem_cons.mpr ⟨⟨by kernel_rfl, by kernel_rfl⟩, List.forall_mem_cons.mpr ⟨⟨by kernel_rfl, by kernel_rfl⟩, List.forall_mem_cons.mpr ⟨⟨by kernel_rfl, by kernel_rfl⟩, fun _ h => nomatch h⟩⟩⟩⟩⟩⟩,
  List.forall_mem_cons.mpr ⟨⟨by kernel_rfl, by decide⟩, List.forall_mem_cons.mpr ⟨⟨by kernel_rfl, by decide⟩, List.forall_mem_cons.mpr ⟨⟨by kernel_rfl, by decide⟩, List.forall_mem_cons.mpr ⟨⟨by kernel_rfl, by decide⟩, List.forall_mem_cons.mpr ⟨⟨by kernel_rfl, by decide⟩, List.forall_mem_cons.mpr ⟨⟨by kernel_rfl, by decide⟩, List.forall_mem_cons.mpr ⟨⟨by kernel_rfl, by decide⟩, List.forall_mem_cons.mpr ⟨⟨by kernel_rfl, by decide⟩, List.forall_mem_cons.mpr ⟨⟨by kernel_rfl, by decide⟩, List.forall_mem_cons.mpr ⟨⟨by kernel_rfl, by decide⟩, List.forall_mem_cons.mpr ⟨⟨by kernel_rfl, by decide⟩, List.forall_mem_cons.mpr ⟨⟨by kernel_rfl, by decide⟩, List.forall_mem_cons.mpr ⟨⟨by kernel_rfl, by decide⟩, List.forall_mem_cons.mpr ⟨⟨by kernel_rfl, by decide⟩, List.forall_mem_cons.mpr ⟨⟨by kernel_rfl, by decide⟩, List.forall_mem_cons.mpr ⟨⟨by kernel_rfl, by decide⟩, List.forall_mem_cons.mpr ⟨⟨by kernel_rfl, by decide⟩, List.forall_mem_cons.mpr ⟨⟨by kernel_rfl, by decide⟩, List.forall_mem_cons.mpr ⟨⟨by kernel_rfl, by decide⟩, List.forall_mem_cons.mpr ⟨⟨by kernel_rfl, by decide⟩, List.forall_mem_cons.mpr ⟨⟨by kernel_rfl, by decide⟩, List.forall_mem_cons.mpr ⟨⟨by kernel_rfl, by decide⟩, List.forall_mem_cons.mpr ⟨⟨by kernel_rfl, by decide⟩, List.forall_mem_cons.mpr ⟨⟨by kernel_rfl, by decide⟩, List.forall_mem_cons.mpr ⟨⟨by kernel_rfl, by decide⟩, List.forall_mem_cons.mpr ⟨⟨by kernel_rfl, by decide⟩, List.forall_mem_cons.mpr ⟨⟨by kernel_rfl, by decide⟩, List.forall_mem_cons.mpr ⟨⟨by kernel_rfl, by decide⟩, List.forall_mem_cons.mpr ⟨⟨by kernel_rfl, by decide⟩, List.forall_mem_cons.mpr ⟨⟨by kernel_rfl, by decide⟩, List.forall_mem_cons.mpr ⟨⟨by kernel_rfl, by decide⟩, List.forall_mem_cons.mpr ⟨⟨by kernel_rfl, by decide⟩, fun _ h => nomatch h⟩⟩⟩⟩⟩⟩⟩⟩⟩⟩⟩⟩⟩⟩⟩⟩⟩⟩⟩⟩⟩⟩⟩⟩⟩⟩⟩⟩⟩⟩⟩⟩,
  by kernel_rfl,
  by kernel_rfl,
  by kernel_rfl,
  by kernel_rfl,
  by kernel_rfl,
  by kernel_rfl,
  by kernel_rfl⟩
section
variable {w : World} (T : TopFacts w)
include T
theorem TopFacts.afs' : ∀ vs : List Value, (["target", "source"] : List Str).length = vs.length → bindO w 45 vs = some (pure ((["target", "source"] : List Str).zip vs)) := fun vs h => len2 (Q := fun vs => bindO w 45 vs = some (pure ((["target", "source"] : List Str).zip vs))) T.b_afs h
theorem TopFacts.ac' : ∀ vs : List Value, (["target", "source"] : List Str).length = vs.length → bindO w 52 vs = some (pure ((["target", "source"] : List Str).zip vs)) := fun vs h => len2 (Q := fun vs => bindO w 52 vs = some (pure ((["target", "source"] : List Str).zip vs))) T.b_ac h
theorem TopFacts.cc' : ∀ vs : List Value, (["callers"] : List Str).length = vs.length → bindO w 59 vs = some (pure ((["callers"] : List Str).zip vs)) := fun vs h => len1 (Q := fun vs => bindO w 59 vs = some (pure ((["callers"] : List Str).zip vs))) T.b_cc h
theorem TopFacts.isnt' : ∀ vs : List Value, (["x"] : List Str).length = vs.length → bindO w 69 vs = some (pure ((["x"] : List Str).zip vs)) := fun vs h => len1 (Q := fun vs => bindO w 69 vs = some (pure ((["x"] : List Str).zip vs))) T.b_isnt h
theorem TopFacts.iseof' : ∀ vs : List Value, (["x"] : List Str).length = vs.length → bindO w 76 vs = some (pure ((["x"] : List Str).zip vs)) := fun vs h => len1 (Q := fun vs => bindO w 76 vs = some (pure ((["x"] : List Str).zip vs))) T.b_iseof h
theorem TopFacts.numbers' : ∀ vs : List Value, (["script"] : List Str).length = vs.length → bindO w 218 vs = some (pure ((["script"] : List Str).zip vs)) := fun vs h => len1 (Q := fun vs => bindO w 218 vs = some (pure ((["script"] : List Str).zip vs))) T.b_numbers h
theorem TopFacts.drawn' : ∀ vs : List Value, (["number"] : List Str).length = vs.length → bindO w 223 vs = some (pure ((["number"] : List Str).zip vs)) := fun vs h => len1 (Q := fun vs => bindO w 223 vs = some (pure ((["number"] : List Str).zip vs))) T.b_drawn h
theorem TopFacts.text' : ∀ vs : List Value, (["deed", "row"] : List Str).length = vs.length → bindO w 228 vs = some (pure ((["deed", "row"] : List Str).zip vs)) := fun vs h => len2 (Q := fun vs => bindO w 228 vs = some (pure ((["deed", "row"] : List Str).zip vs))) T.b_text h
theorem TopFacts.cases' : ∀ vs : List Value, (["deed", "row"] : List Str).length = vs.length → bindO w 233 vs = some (pure ((["deed", "row"] : List Str).zip vs)) := fun vs h => len2 (Q := fun vs => bindO w 233 vs = some (pure ((["deed", "row"] : List Str).zip vs))) T.b_cases h
theorem TopFacts.symbols' : ∀ vs : List Value, (["text", "names"] : List Str).length = vs.length → bindO w 238 vs = some (pure ((["text", "names"] : List Str).zip vs)) := fun vs h => len2 (Q := fun vs => bindO w 238 vs = some (pure ((["text", "names"] : List Str).zip vs))) T.b_symbols h
theorem TopFacts.entries' : ∀ vs : List Value, (["symbols", "texts"] : List Str).length = vs.length → bindO w 243 vs = some (pure ((["symbols", "texts"] : List Str).zip vs)) := fun vs h => len2 (Q := fun vs => bindO w 243 vs = some (pure ((["symbols", "texts"] : List Str).zip vs))) T.b_entries h
theorem TopFacts.pairs' : ∀ vs : List Value, (["entries"] : List Str).length = vs.length → bindO w 253 vs = some (pure ((["entries"] : List Str).zip vs)) := fun vs h => len1 (Q := fun vs => bindO w 253 vs = some (pure ((["entries"] : List Str).zip vs))) T.b_pairs h
theorem TopFacts.taken' : ∀ vs : List Value, (["entries", "letter"] : List Str).length = vs.length → bindO w 258 vs = some (pure ((["entries", "letter"] : List Str).zip vs)) := fun vs h => len2 (Q := fun vs => bindO w 258 vs = some (pure ((["entries", "letter"] : List Str).zip vs))) T.b_taken h
theorem TopFacts.masks' : ∀ vs : List Value, ([] : List Str).length = vs.length → bindO w 263 vs = some (pure (([] : List Str).zip vs)) := fun vs h => len0 (Q := fun vs => bindO w 263 vs = some (pure (([] : List Str).zip vs))) T.b_masks h
theorem TopFacts.law' : ∀ vs : List Value, (["script"] : List Str).length = vs.length → bindO w 268 vs = some (pure ((["script"] : List Str).zip vs)) := fun vs h => len1 (Q := fun vs => bindO w 268 vs = some (pure ((["script"] : List Str).zip vs))) T.b_law h
theorem TopFacts.least' : ∀ vs : List Value, (["entries"] : List Str).length = vs.length → bindO w 248 vs = some (pure ((["entries"] : List Str).zip vs)) := fun vs h => len1 (Q := fun vs => bindO w 248 vs = some (pure ((["entries"] : List Str).zip vs))) T.b_least h
theorem TopFacts.hInit' (S : Setting) (vs ks : List Value) (h1 : vs.length = 2) (h2 : ks.length = ([] : List Str).length) : peekO w 101 S vs (([] : List Str).zip ks) = some ((["self", "headers"] : List Str).zip (vs ++ ks ++ [])) := by
  obtain ⟨u, r0, rfl, q0⟩ := uncons h1
  obtain ⟨v, r1, rfl, q1⟩ := uncons q0
  obtain rfl : r1 = [] := List.eq_nil_of_length_eq_zero q1
  obtain rfl : ks = [] := List.eq_nil_of_length_eq_zero h2
  exact T.b_hInit S u v
theorem TopFacts.hConv' (S : Setting) (vs ks : List Value) (h1 : vs.length = 2) (h2 : ks.length = (["name"] : List Str).length) : peekO w 108 S vs ((["name"] : List Str).zip ks) = some ((["self", "value", "name"] : List Str).zip (vs ++ ks ++ [])) := by
  obtain ⟨u, r0, rfl, q0⟩ := uncons h1
  obtain ⟨v, r1, rfl, q1⟩ := uncons q0
  obtain rfl : r1 = [] := List.eq_nil_of_length_eq_zero q1
  obtain ⟨x, t0, rfl, z0⟩ := uncons h2
  obtain rfl : t0 = [] := List.eq_nil_of_length_eq_zero z0
  exact T.b_hConv S u v x
theorem TopFacts.hGet' (S : Setting) (vs ks : List Value) (h1 : vs.length = 2) (h2 : ks.length = ([] : List Str).length) : peekO w 154 S vs (([] : List Str).zip ks) = some ((["self", "name", "default"] : List Str).zip (vs ++ ks ++ [.none])) := by
  obtain ⟨u, r0, rfl, q0⟩ := uncons h1
  obtain ⟨v, r1, rfl, q1⟩ := uncons q0
  obtain rfl : r1 = [] := List.eq_nil_of_length_eq_zero q1
  obtain rfl : ks = [] := List.eq_nil_of_length_eq_zero h2
  exact T.b_hGet S u v
theorem TopFacts.hGetAll' (S : Setting) (vs ks : List Value) (h1 : vs.length = 2) (h2 : ks.length = ([] : List Str).length) : peekO w 146 S vs (([] : List Str).zip ks) = some ((["self", "name"] : List Str).zip (vs ++ ks ++ [])) := by
  obtain ⟨u, r0, rfl, q0⟩ := uncons h1
  obtain ⟨v, r1, rfl, q1⟩ := uncons q0
  obtain rfl : r1 = [] := List.eq_nil_of_length_eq_zero q1
  obtain rfl : ks = [] := List.eq_nil_of_length_eq_zero h2
  exact T.b_hGetAll S u v
theorem TopFacts.hItems' (S : Setting) (vs ks : List Value) (h1 : vs.length = 1) (h2 : ks.length = ([] : List Str).length) : peekO w 171 S vs (([] : List Str).zip ks) = some ((["self"] : List Str).zip (vs ++ ks ++ [])) := by
  obtain ⟨u, r0, rfl, q0⟩ := uncons h1
  obtain rfl : r0 = [] := List.eq_nil_of_length_eq_zero q0
  obtain rfl : ks = [] := List.eq_nil_of_length_eq_zero h2
  exact T.b_hItems S u
end
end Mine
end
-- J6
section
open PySem PySem.W PyProof.Rows
set_option Elab.async false
set_option linter.all false
set_option maxRecDepth 100000
namespace Mine
theorem mg_eq {w : World} (T : TopFacts w) {h : Heap} {mg : Str → Option Value} (X : (KP w).In h) (g : h.Ns mainGlobals mg) (x : Str) : mg x = nsG w x := by
  obtain ⟨o, es, ep, ho, hd, _, hq⟩ := g
  have h1 : (KP w).lookup mainGlobals = some (objG w mainGlobals) := objG_get T.glo
  have := X _ _ h1
  rw [ho] at this
  have e := Option.some.inj this
  subst e
  unfold nsG esG
  rw [hd]
  exact (hq x).symm
theorem dict_of {C : Cx} {o : Obj} {ep : Nat} (hx : o.ExactDict) {L : List (Str × Tok × Value)} (hd : o.data = .dict (L.map fun p => (⟨PyData.keyHash C.w.params p.1, .str p.1 p.2.1, p.2.2⟩ : DictEntry)).toArray ep) (hn : (L.map (·.1)).Nodup) :
    o.IsDictOf (strKind C.prog C.w) (L.map fun p => (p.1, p.2.2)) := by
  refine ⟨_, ep, hx, hd, ?_, ?_, by rw [List.map_map]; exact hn⟩
  · intro e he
    rw [List.mem_toArray] at he
    obtain ⟨p, _, rfl⟩ := List.mem_map.mp he
    exact ⟨p.1, strKind_is _ _ _ _, rfl⟩
  · clear hn hd
    show Pairs _ (L.map _) _
    induction L with
    | nil => exact .nil
    | cons p l ih => exact .cons (strKind_is _ _ _ _) rfl ih
theorem ints_rep {C : Cx} {V : View} : ∀ {vs : List Value} {ns : List Nat}, (vs.length = ns.length ∧ ∀ p ∈ vs.zip ns, ∃ t, p.1 = .int (p.2 : Nat) t) → RepL C V vs (ns.map fun (x : Nat) => .int (x : Int))
  | [], [], _ => .nil
  | v :: vs, n :: ns, ⟨h1, h2⟩ => by
    obtain ⟨t, e⟩ := h2 (v, n) (by simp)
    simp only at e
    subst e
    exact .cons (.int _ t) (ints_rep ⟨by simpa using h1, fun p hp => h2 p (by simp [hp])⟩)
theorem intOK_get {p : Value × Nat} (h : intOK p = true) : ∃ t, p.1 = .int (p.2 : Nat) t := by
  unfold intOK at h
  split at h
  · rename_i i t e; exact ⟨t, by rw [e, eq_of_beq h]⟩
  · cases h
theorem exact_ok {C : Cx} (T : TopFacts C.w) (hb : ∀ a o, (KP C.w).lookup a = some o → C.base a o) : ∃ o kvs, C.base 60 o ∧ o.IsDictOf (strKind C.prog C.w) kvs ∧ kvs.map (·.1) = exactL.map (·.1) ∧ (∀ V : View, RepL C V (kvs.map (·.2)) (exactL.map fun p => .int (p.2 : Nat))) ∧ ((60 : Addr) == sysModules) = false := by
  have hnd : (exactL.map (·.1)).Nodup := by decide +kernel
  refine ⟨objG C.w 60, (rawEs (esG (objG C.w 60))).map fun p => (p.1, p.2.2), hb _ _ (objG_get T.d4), dict_of (ep := epG (objG C.w 60)) T.d5 T.d6 (T.d1 ▸ hnd), ?_, fun V => ?_, by decide⟩
  · rw [List.map_map]; exact T.d1
  · rw [List.map_map]
    have := ints_rep (C := C) (V := V) (vs := (rawEs (esG (objG C.w 60))).map (·.2.2)) (ns := exactL.map (·.2)) ⟨T.d3, fun p hp => intOK_get (List.all_eq_true.mp T.d2 p hp)⟩
    rw [List.map_map] at this
    exact this
theorem pat_ok {C : Cx} {w : World} (hb : ∀ a o, (KP w).lookup a = some o → C.base a o) {a ca : Addr} {code : Array Nat} (H : PatK w a ca code) : PatOK C a code :=
  ⟨objG w a, vsG (objG w a), ca, objG w ca, vsG (objG w ca), kG (objG w ca), hb _ _ (objG_get H.h1), H.h2, H.h3, H.h4, hb _ _ (objG_get H.h5), H.h6, H.h7, H.h8, H.h9, H.h10⟩
theorem hdr_ok {C : Cx} {w : World} (T : TopFacts w) (hb : ∀ a o, (KP w).lookup a = some o → C.base a o) (hm : C.mg "Headers" = some (.ref 207)) : HdrOK C theA (KP w) where
  inb := hb
  mg := hm
  makes := T.hd.makes
  keep := T.hd.keep
  getat := T.hd.getat
  has := T.hd.has
  over := T.hd.over
  setat := T.hd.setat
  field := T.hd.field
  init := T.hd.init
  conv := T.hd.conv
  get := T.hd.get
  getAll := T.hd.getAll
  items := T.hd.items
  fns := T.hd.fns
  dInit := T.k_hInit.okB hb T.hInit'
  dConv := T.k_hConv.okB hb T.hConv'
  dGet := T.k_hGet.okB hb T.hGet'
  dGetAll := T.k_hGetAll.okB hb T.hGetAll'
  dItems := T.k_hItems.okB hb T.hItems'
end Mine
end
-- J7
section
open PySem PySem.W PyProof.Rows
set_option Elab.async false
set_option linter.all false
set_option maxRecDepth 100000
namespace Mine
/-- what this run leans on -/
noncomputable def lawCx (w : World) (mg mb : Str → Option Value) (os : OsState × PySem.Drawn) (bo : Obj) (la : Addr) (lo : Obj) (bm : Addr) (ob : Obj) : Cx where
  prog := PySem.Challenge.rw_zd0018_01.row.prog
  w := w
  mg := mg
  mb := mb
  hole := 245
  tab := fun h => tabSpec 245 247 h ∧ h.get? builtinsNs = some bo
  base := fun a o => (KP w).lookup a = some o ∨ (a = la ∧ o = lo) ∨ (a = bm ∧ o = ob)
  os := os
  tabMono := fun h h' hk x => ⟨tabSpec.mono (fun a o ha => hk a o (ha.imp id .inl)) x.1, hk _ _ (.inr (.inr rfl)) x.2⟩
  holeDom := fun h x => x.1.dom
  hS := by decide
  hG := by decide
  hB := by decide
noncomputable def lawU (a : Addr) : Prop := a = builtinsNs ∨ a = 245
section
variable {w : World} {s₁ : Shared} {mg mb : Str → Option Value}
theorem law_gs (TF : TopFacts w) {bo : Obj} {la : Addr} {lo : Obj} {bm : Addr} {ob : Obj} (KX : (KP w).In s₁.heap) (ht : s₁.heap.get? 245 = some (tabObj #[])) (Tg : s₁.heap.Ns mainGlobals mg) (Tb : s₁.heap.Ns builtinsNs mb) (lim : s₁.heap.NoLimit) (hg : s₁.gens = #[])
    (hbo : s₁.heap.get? builtinsNs = some bo) (hl : s₁.heap.get? la = some lo) (hlc : ∃ n vs, lo.data = .seq n vs) (hm : s₁.heap.get? bm = some ob) (hmd : ob.data = .plain) : GS (lawCx w mg mb (osd s₁) bo la lo bm ob) lawU s₁ where
  mg := Tg
  mb := Tb
  lim := lim
  gens := hg
  os := rfl
  tab := ⟨⟨codeHd_of_K (c := 247) (P := 245) KX TF.cdh, .inl ht⟩, hbo⟩
  udom := fun a h => by
    rcases h with rfl | rfl
    · exact ⟨_, hbo⟩
    · exact ⟨_, ht⟩
  ub := .inl rfl
  uh := .inr rfl
  base := fun a o h => by
    rcases h with h | ⟨rfl, rfl⟩ | ⟨rfl, rfl⟩
    · exact KX a o h
    · exact hl
    · exact hm
  ubase := fun a o h hu => by
    obtain ⟨es, ep, o', ho', hd'⟩ : ∃ es ep o', s₁.heap.get? builtinsNs = some o' ∧ o'.data = .dict es ep := by obtain ⟨o', es, ep, q1, q2, _⟩ := Tb; exact ⟨es, ep, o', q1, q2⟩
    rcases h with h | ⟨rfl, rfl⟩ | ⟨rfl, rfl⟩
    · rcases hu with rfl | rfl
      · rw [K_no0] at h; cases h
      · rw [K_noH] at h; cases h
    · obtain ⟨n, vs, hd⟩ := hlc
      rcases hu with rfl | rfl
      · rw [hl] at ho'; cases ho'; rw [hd] at hd'; cases hd'
      · rw [hl] at ht; cases ht; cases hd
    · rcases hu with rfl | rfl
      · rw [hm] at ho'; cases ho'; rw [hmd] at hd'; cases hd'
      · rw [hm] at ht; cases ht; cases hmd
theorem mem_lookup {α : Type} {l : List (Str × α)} {x : Str} {v : α} (h : l.lookup x = some v) : (x, v) ∈ l := mem_of_lookup h
theorem law_lay (TF : TopFacts w) {bo : Obj} {la : Addr} {lo : Obj} {bm : Addr} {ob : Obj} {os : OsState × PySem.Drawn} (KX : (KP w).In s₁.heap) (Tg : s₁.heap.Ns mainGlobals mg) (bl : ∀ x : Str, x ≠ "__name__" → mb x = bootBuiltins x)
    (hbm : mg "__builtins__" = some (.ref bm)) (hm : s₁.heap.get? bm = some ob) (hmc : ob.cls = .type "module") (hmn : ob.dict = some builtinsNs) (hmd : ob.data = .plain) : Lay (lawCx w mg mb os bo la lo bm ob) theA := by
  have hb : ∀ a o, (KP w).lookup a = some o → (lawCx w mg mb os bo la lo bm ob).base a o := fun a o h => .inl h
  have me : ∀ x, mg x = nsG w x := mg_eq TF KX Tg
  have gl : ∀ x v, (nsG w x).or (bootBuiltins x) = some v → x ≠ "__name__" → (mg x).or (mb x) = some v := fun x v h hx => by rw [me, bl x hx]; exact h
  exact {
    glob := fun {x v} h => by
      obtain ⟨h1, h2⟩ := TF.tb (x, v) (mem_lookup h)
      exact gl x v h1 h2
    nt := ⟨tokG (nsG w "NT_OFFSET"), gl _ _ TF.nt (by decide)⟩
    em := ⟨tokG (nsG w "ENDMARKER"), gl _ _ TF.em (by decide)⟩
    afs := TF.k_afs.ok hb TF.afs'
    ac := TF.k_ac.ok hb TF.ac'
    cc := TF.k_cc.ok hb TF.cc'
    isnt := TF.k_isnt.ok hb TF.isnt'
    iseof := TF.k_iseof.ok hb TF.iseof'
    numbers := TF.k_numbers.ok hb TF.numbers'
    drawn := TF.k_drawn.ok hb TF.drawn'
    text := TF.k_text.ok hb TF.text'
    cases := TF.k_cases.ok hb TF.cases'
    symbols := TF.k_symbols.ok hb TF.symbols'
    entries := TF.k_entries.ok hb TF.entries'
    least := by
      obtain ⟨fd, e, I, hs, hc⟩ := TF.k_least.isFn hb
      obtain ⟨fd', I', hs', hbind⟩ := TF.k_least.ok hb TF.least'
      have hq := TF.lq
      rw [e, Option.map_some] at hq
      refine ⟨fd, 247, I, hs, fun vs h => ?_, hc, Option.some.inj hq, bo, fun h => Iff.rfl⟩
      have := TF.least' vs h
      unfold bindO at this
      rw [e, Option.map_some] at this
      exact Option.some.inj this
    bmod := ⟨bm, ob, hbm, .inr (.inr ⟨rfl, rfl⟩), hmc, hmn, hmd, fun e => by
      subst e
      obtain ⟨o', es, ep, q1, q2, _⟩ := Tg
      rw [hm] at q1; cases q1; rw [hmd] at q2; cases q2⟩
    pairs := TF.k_pairs.ok hb TF.pairs'
    taken := TF.k_taken.ok hb TF.taken'
    masks := TF.k_masks.ok hb TF.masks'
    hdr := ⟨KP w, hdr_ok TF hb (by show mg _ = _; rw [me]; exact TF.hdg)⟩
    npat := pat_ok hb TF.np
    vpat := pat_ok hb TF.vp
    exact_ := exact_ok (C := lawCx w mg mb os bo la lo bm ob) TF hb }
theorem ints_repL {C : Cx} {V : View} {vs : List Value} {xs : List Int} (h : IntsAre vs xs) : RepL C V vs (xs.map .int) := by
  induction h with
  | nil => exact .nil
  | cons i t r ih => exact .cons (.int i t) ih
theorem old_of (TF : TopFacts w) {bo : Obj} {la : Addr} {lo : Obj} {bm : Addr} {ob : Obj} {s' : Shared} (KX : (KP w).In s₁.heap) (ht : s₁.heap.get? 245 = some (tabObj #[])) (hbo : s₁.heap.get? builtinsNs = some bo) {os : OsState × PySem.Drawn}
    (g : (lawCx w mg mb os bo la lo bm ob).tab s₁.heap) (st : Stp (lawCx w mg mb os bo la lo bm ob) s₁ s') : OldK s₁.heap s'.heap := by
  obtain ⟨t1, t2⟩ := st.tab g
  have key : ∀ b o, s₁.heap.get? b = some o → s'.heap.get? b = some o ∨ (b = 245 ∧ ∃ vs, s'.heap.get? b = some (tabObj vs)) := fun b o e => by
    by_cases h0 : b = builtinsNs
    · subst h0; rw [hbo] at e; cases e; exact .inl t2
    · by_cases hh : b = 245
      · subst hh
        right
        rcases t1.2 with q | ⟨c', oc, vs, t, q, _⟩
        · exact ⟨rfl, _, q⟩
        · exact ⟨rfl, _, q⟩
      · exact .inl (st.keep b o h0 hh e)
  refine ⟨fun b o e => ?_, fun b o e => ?_⟩
  · rcases key b o e with h | ⟨rfl, vs, h⟩
    · exact .inl h
    · rw [ht] at e; cases e
      refine .inr (.inl ⟨?_, rfl, #[], vs, rfl, by rw [h]; simp⟩)
      obtain ⟨o, ws, _, _, _, _, _, _, _, q1, q2, q3, q4, _⟩ := codeHd_of_K (c := 247) (P := 245) KX TF.cdh
      exact ⟨247, o, ws, q1, q2, q3, q4⟩
  · rcases key b o e with h | ⟨_, vs, h⟩
    · exact ⟨_, h⟩
    · exact ⟨_, h⟩
/-- the law's call gives True, and what stood there stands -/
theorem law_runs (TF : TopFacts w) (KX : (KP w).In s₁.heap) (ht : s₁.heap.get? 245 = some (tabObj #[])) (Tg : s₁.heap.Ns mainGlobals mg) (Tb : s₁.heap.Ns builtinsNs mb) (lim : s₁.heap.NoLimit) (hg : s₁.gens = #[]) (bl : ∀ x : Str, x ≠ "__name__" → mb x = bootBuiltins x)
    (bmain : ∃ bm ob, mg "__builtins__" = some (.ref bm) ∧ bm ≠ builtinsNs ∧ s₁.heap.get? bm = some ob ∧ ob.cls = .type "module" ∧ ob.dict = some builtinsNs ∧ ob.data = .plain)
    {fa : Addr} (hfa : mg "law" = some (.ref fa)) {la : Addr} {vs : List Value} {xs : List Int} (hL : s₁.heap.IsList la vs.toArray) (hI : IntsAre vs xs) (hlen : xs.length ≤ 63) :
    wpAny (model PySem.Challenge.rw_zd0018_01.row.prog w) callerA (call (.ref fa) [.ref la]) (fun v s' => v = .bool true ∧ OldK s₁.heap s'.heap ∧ s'.os = s₁.os ∧ s'.gens = #[]) (fun _ _ => False) s₁ := by
  obtain ⟨bm, ob, hbm, _, hm, hmc, hmn, hmd⟩ := bmain
  obtain ⟨lo, hlo, hlc, ln, hld⟩ := hL
  obtain ⟨bo, hbo⟩ : ∃ bo, s₁.heap.get? builtinsNs = some bo := by obtain ⟨o, _, _, e, _⟩ := Tb; exact ⟨o, e⟩
  have hf : fa = 268 := by
    rw [mg_eq TF KX Tg] at hfa
    have := TF.lawg
    rw [this] at hfa; cases hfa; rfl
  subst hf
  have G := law_gs TF (mg := mg) (mb := mb) KX ht Tg Tb lim hg hbo hlo ⟨_, _, hld⟩ hm hmd
  have L := law_lay TF (w := w) (mg := mg) (mb := mb) (bo := bo) (la := la) (lo := lo) (bm := bm) (ob := ob) (os := osd s₁) KX Tg bl hbm hm hmc hmn hmd
  obtain ⟨ns, h3, hns⟩ := numRun_nat xs
  have hx := ex_law (n := 0) L (a := la) (vs := vs.toArray) (xs := xs) (ns := ns) (fun m s g => ⟨⟨lo, g.base _ _ (.inr (.inl ⟨rfl, rfl⟩)), hlc, ln, hld⟩, by simpa using ints_repL hI⟩) hlen hns h3 (thePL ns h3)
  have hk : DefOK (lawCx w mg mb (osd s₁) bo la lo bm ob) (bodyOf 75) (scOf 75) 268 ["script"] := TF.k_law.ok (fun a o h => Or.inl h) TF.law'
  have V := VCall.ofDef hk hx
  refine wpAny_mono (V.run callerA lawU s₁ [.ref la] ⟨rfl, by decide, by decide⟩ G (.cons (.raw _) .nil)) (fun v s' q => ?_) fun _ _ h => h
  obtain ⟨st, r⟩ := q
  cases r
  exact ⟨rfl, old_of TF KX ht hbo G.tab st, congrArg Prod.fst st.os, st.gens.trans hg⟩
end
end Mine
end
-- J8
section
open PySem PySem.W PyProof.Rows
set_option Elab.async false
set_option maxRecDepth 100000
namespace Mine
theorem left_of (w : World) (s : Shared) (e : s = theRun w) : Left w s.heap := fun b o h => by rw [e]; exact h
theorem left_keeps (w : World) (h h' : Heap) (Y : Left w h) (k : ∀ b o, h.get? b = some o → h'.get? b = some o) : Left w h' := fun b o e => k b o (Y b o e)
theorem law_there : (defOf qw lw0.row.name).isSome = true := by kernel_rfl
noncomputable def lawD : DefRec × List (Str × Expr) := (defOf qw lw0.row.name).get law_there
theorem law_def : defOf qw lw0.row.name = some (lawD.1, lawD.2) := (Option.some_get law_there).symm
theorem law_the : lw0.row.prog.theDef lw0.row.name = some (lawD.1.params, lawD.1.body, lawD.1.scope) := by kernel_rfl
theorem law_kw : kwWritten? lawD.1.params.kwonlyargs lawD.1.params.kw_defaults = some lawD.2 := by kernel_rfl
end Mine
set_option maxHeartbeats 8000000 in
theorem PySem.Challenge.cw_zd0018_01_holds : PySem.Challenge.rw_zd0018_01.Holds := by
  w_on
  refine holds_law Mine.said fun k1 => ?_
  refine holds_open (q := Mine.qw) (loose := Mine.looseL) (Xt := Mine.Xt0) (XP := XL Mine.qw []) (Yf := fun s => s) (Ya := Mine.theRun) (YP := Mine.Left) (N := 5758) Mine.left Mine.left_of Mine.left_keeps (fun s e => xl_of s (Bool.and_eq_true_iff.mp e).1) XL.keeps Mine.law_def Mine.law_the Mine.law_kw (fun s e => recFacts_of (Bool.and_eq_true_iff.mp e).2) (by rfl) k1 (by decide +kernel) ⟨rfl, rfl, rfl, rfl, rfl, by decide +kernel⟩ ?hw ?hc
  case hw => w_witness2
  intro w s₀ s₁ mg mb G Y fa o pm cd doc dV kV ho hdd hcd hD hmg hg args vals as hpre hlay hrd hwl hlo
  have KX := Mine.KP_in Y
  have TF := Mine.facts w
  have ht := Y 245 _ TF.hole
  have T := G.T
  clear Y G hD hcd hdd ho
  wrow_args hpre hlay hrd hwl hlo
  refine wpAny_mono (Mine.law_runs TF (mb := mb) KX ht T.g T.b T.nolimit hg T.builtins T.bmain hmg (by assumption) (by assumption) (by omega)) (fun v s' q => ?_) (fun _ _ h => h.elim)
  obtain ⟨rfl, hK, hos, hgs⟩ := q
  exact ⟨.inl ⟨.bool true, .bool true, [], rfl, raisesW_false (by wrow_none_raised), .bool true, by wrow_post, unshared_nil⟩, hK, hos, AllBare.of_eq hgs⟩
end
